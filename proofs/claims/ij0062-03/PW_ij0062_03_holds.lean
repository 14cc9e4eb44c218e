import PyProof.Rows.All
import Wide.All
import OpenK.AllK
import Wide.FinOn
import Lean
import PySem.Challenge.RW_ij0062_03
set_option Elab.async false
set_option maxRecDepth 100000
set_option linter.unusedVariables false
set_option linter.unusedSimpArgs false
namespace Mine
open PySem PySem.W PySem.Calls PySem.Spec PyProof.Rows
inductive V where
  | none
  | bool (b : Bool)
  | int (i : Int)
  | str (l : List Nat)
  | tup (vs : List V)
  | lst (vs : List V)
  | ref (a : Addr)
  | lit (v : Value)
inductive HO where
  | lst (vs : List V)
  | inst (C dx : Addr)
  | dict (fs : List (Str × V))
  | exc (C : Addr) (dx : Option Addr)
  | cell (d : Option V)
mutual
inductive VM (mu : Addr → Prop) (h : Heap) : Value → V → Prop
  | none : VM mu h Value.none V.none
  | bool (b : Bool) : VM mu h (Value.bool b) (V.bool b)
  | int (i : Int) (t : Tok) : VM mu h (Value.int i t) (V.int i)
  | str (x : Str) (t : Tok) : VM mu h (Value.str x t) (V.str x.cps.toList)
  | tup {a : Addr} {o : Obj} {vs : List Value} {n : Nat} {ds : List V} : h.get? a = some o → o.cls = .type "tuple" → o.data = .seq vs.toArray n → ¬ mu a → VMs mu h vs ds → VM mu h (Value.ref a) (V.tup ds)
  | lst {a : Addr} {o : Obj} {vs : List Value} {n : Nat} {ds : List V} : h.get? a = some o → o.cls = .type "list" → o.data = .seq vs.toArray n → ¬ mu a → VMs mu h vs ds → VM mu h (Value.ref a) (V.lst ds)
  | ref (a : Addr) : VM mu h (Value.ref a) (V.ref a)
  | lit (v : Value) : VM mu h v (V.lit v)
inductive VMs (mu : Addr → Prop) (h : Heap) : List Value → List V → Prop
  | nil : VMs mu h [] []
  | cons {v : Value} {vs : List Value} {d : V} {ds : List V} : VM mu h v d → VMs mu h vs ds → VMs mu h (v :: vs) (d :: ds)
end
noncomputable def isSeq : Data → Prop
  | .seq _ _ => True
  | _ => False
structure Ext (L : Addr) (prot : List Addr) (mu : Addr → Prop) (h : Heap) (mu' : Addr → Prop) (h' : Heap) : Prop where
  seq : ∀ a o, h.get? a = some o → ¬ mu a → isSeq o.data → h'.get? a = some o ∧ ¬ mu' a
  obj : ∀ a o, h.get? a = some o → ¬ mu a → a ≠ L → (∀ vs, o.data ≠ .fields vs) → ¬ mu' a ∧ ∃ sl, h'.get? a = some { o with slots := sl }
  watch : ∀ a ∈ prot, ∀ o, h.get? a = some o → h'.get? a = some o ∧ ¬ mu' a
noncomputable def SeqX (mu : Addr → Prop) (h : Heap) (mu' : Addr → Prop) (h' : Heap) : Prop := ∀ a o, h.get? a = some o → ¬ mu a → isSeq o.data → h'.get? a = some o ∧ ¬ mu' a
theorem VM.monoS {mu mu' : Addr → Prop} {h h' : Heap} (x : SeqX mu h mu' h') {v : Value} {d : V} (y : VM mu h v d) : VM mu' h' v d :=
  VM.rec (motive_1 := fun v d _ => VM mu' h' v d) (motive_2 := fun vs ds _ => VMs mu' h' vs ds) .none .bool .int .str (fun ho hc hd hn _ r => .tup (x _ _ ho hn (by rw [hd]; trivial)).1 hc hd (x _ _ ho hn (by rw [hd]; trivial)).2 r)
    (fun ho hc hd hn _ r => .lst (x _ _ ho hn (by rw [hd]; trivial)).1 hc hd (x _ _ ho hn (by rw [hd]; trivial)).2 r) .ref .lit .nil (fun _ _ a r => .cons a r) y
theorem VMs.monoS {mu mu' : Addr → Prop} {h h' : Heap} (x : SeqX mu h mu' h') {vs : List Value} {ds : List V} (y : VMs mu h vs ds) : VMs mu' h' vs ds := by
  induction vs generalizing ds with
  | nil => cases y; exact .nil
  | cons v vs ih => cases y with | cons a r => exact .cons (a.monoS x) (ih r)
theorem VM.mono {L : Addr} {prot : List Addr} {mu mu' : Addr → Prop} {h h' : Heap} (x : Ext L prot mu h mu' h') {v : Value} {d : V} (y : VM mu h v d) : VM mu' h' v d := y.monoS x.seq
theorem VMs.mono {L : Addr} {prot : List Addr} {mu mu' : Addr → Prop} {h h' : Heap} (x : Ext L prot mu h mu' h') {vs : List Value} {ds : List V} (y : VMs mu h vs ds) : VMs mu' h' vs ds := y.monoS x.seq
theorem VMs.length {mu : Addr → Prop} {h : Heap} {vs : List Value} {ds : List V} (x : VMs mu h vs ds) : vs.length = ds.length := by
  induction vs generalizing ds with
  | nil => cases x; rfl
  | cons v vs ih => cases x with | cons a r => simp [ih r]
theorem VMs.append {mu : Addr → Prop} {h : Heap} {vs ws : List Value} {ds es : List V} (x : VMs mu h vs ds) (y : VMs mu h ws es) : VMs mu h (vs ++ ws) (ds ++ es) := by
  induction vs generalizing ds with
  | nil => cases x; exact y
  | cons v vs ih => cases x with | cons a r => exact .cons a (ih r)
theorem VMs.get {mu : Addr → Prop} {h : Heap} {vs : List Value} {ds : List V} (x : VMs mu h vs ds) {k : Nat} {d : V} (e : ds[k]? = some d) : ∃ v, vs[k]? = some v ∧ VM mu h v d := by
  induction vs generalizing ds k with
  | nil => cases x; simp at e
  | cons v vs ih =>
    cases x with
    | cons a r =>
      cases k with
      | zero => simp at e; subst e; exact ⟨v, rfl, a⟩
      | succ k => simp at e; simpa using ih r e
theorem VMs.get' {mu : Addr → Prop} {h : Heap} {vs : List Value} {ds : List V} (x : VMs mu h vs ds) {k : Nat} {v : Value} (e : vs[k]? = some v) : ∃ d, ds[k]? = some d ∧ VM mu h v d := by
  induction vs generalizing ds k with
  | nil => cases x; simp at e
  | cons w vs ih =>
    cases x with
    | cons a r =>
      cases k with
      | zero => simp at e; subst e; exact ⟨_, rfl, a⟩
      | succ k => simp at e; simpa using ih r e
theorem Ext.refl (L : Addr) (prot : List Addr) (mu : Addr → Prop) (h : Heap) (hp : ∀ a ∈ prot, ¬ mu a) : Ext L prot mu h mu h :=
  ⟨fun _ _ e n _ => ⟨e, n⟩, fun _ o e n _ _ => ⟨n, o.slots, e⟩, fun a ha _ e => ⟨e, hp a ha⟩⟩
theorem Ext.trans {L : Addr} {prot : List Addr} {m₁ m₂ m₃ : Addr → Prop} {h₁ h₂ h₃ : Heap} (x : Ext L prot m₁ h₁ m₂ h₂) (y : Ext L prot m₂ h₂ m₃ h₃) : Ext L prot m₁ h₁ m₃ h₃ := by
  refine ⟨fun a o e n q => ?_, fun a o e n l q => ?_, fun a ha o e => ?_⟩
  · have z := x.seq a o e n q
    exact y.seq a o z.1 z.2 q
  · obtain ⟨n', sl, e'⟩ := x.obj a o e n l q
    obtain ⟨n'', sl', e''⟩ := y.obj a _ e' n' l q
    exact ⟨n'', sl', e''⟩
  · have z := x.watch a ha o e
    exact y.watch a ha o z.1
theorem Ext.keeps {L : Addr} {prot : List Addr} {mu : Addr → Prop} {h h' : Heap} (hp : ∀ a ∈ prot, ¬ mu a) (k : ∀ b o, h.get? b = some o → h'.get? b = some o) : Ext L prot mu h mu h' :=
  ⟨fun a o e n _ => ⟨k a o e, n⟩, fun a o e n _ _ => ⟨n, o.slots, k a o e⟩, fun a ha o e => ⟨k a o e, hp a ha⟩⟩
inductive Ents (mu : Addr → Prop) (h : Heap) : List DictEntry → List (Str × V) → Prop
  | nil : Ents mu h [] []
  | cons {e : DictEntry} {es : List DictEntry} {x : Str} {t : Tok} {d : V} {fs : List (Str × V)} : e.key = .str x t → VM mu h e.val d → Ents mu h es fs → Ents mu h (e :: es) ((x, d) :: fs)
theorem Ents.mono {L : Addr} {prot : List Addr} {mu mu' : Addr → Prop} {h h' : Heap} (x : Ext L prot mu h mu' h') {es : List DictEntry} {fs : List (Str × V)} (y : Ents mu h es fs) : Ents mu' h' es fs := by
  induction y with
  | nil => exact .nil
  | cons a b _ ih => exact .cons a (b.mono x) ih
noncomputable def lk (fs : List (Str × V)) (x : Str) : Option V := fs.lookup x
noncomputable def OM (mu : Addr → Prop) (h : Heap) (a : Addr) : HO → Prop
  | .lst ds => ∃ vs n, h.get? a = some (listOf vs.toArray n) ∧ VMs mu h vs ds
  | .inst C dx => h.get? a = some (instObj C dx)
  | .dict fs => ∃ es n, h.get? a = some (dictOf es n) ∧ Ents mu h es fs ∧ es.length ≤ 100
  | .exc C dx => ∃ vs a0, h.get? a = some { cls := .ref C, dict := dx, data := .fields vs } ∧ vs[0]? = some a0 ∧ vs[1]? = some .none ∧ vs.size = 6
  | .cell d => ∃ o v, h.get? a = some o ∧ o.data = .cell v ∧ (match d with | some d => ∃ w, v = some w ∧ VM mu h w d | none => v = none)
theorem OM.mono {L : Addr} {prot : List Addr} {mu mu' : Addr → Prop} {h h' : Heap} {a : Addr} {o : HO} (x : Ext L prot mu h mu' h') (e : h'.get? a = h.get? a) (y : OM mu h a o) : OM mu' h' a o := by
  cases o with
  | lst ds => obtain ⟨vs, n, q, r⟩ := y; exact ⟨vs, n, e.trans q, r.mono x⟩
  | inst C dx => exact e.trans y
  | dict fs => obtain ⟨es, n, q, r, z⟩ := y; exact ⟨es, n, e.trans q, r.mono x, z⟩
  | exc C dx => obtain ⟨vs, a0, q, r⟩ := y; exact ⟨vs, a0, e.trans q, r⟩
  | cell d =>
    obtain ⟨o, v, q, r, z⟩ := y
    refine ⟨o, v, e.trans q, r, ?_⟩
    cases d with
    | none => exact z
    | some d => obtain ⟨w, a, b⟩ := z; exact ⟨w, a, b.mono x⟩
theorem OM.there {mu : Addr → Prop} {h : Heap} {a : Addr} {o : HO} (y : OM mu h a o) : ∃ ob, h.get? a = some ob := by
  cases o with
  | lst ds => obtain ⟨vs, n, q, r⟩ := y; exact ⟨_, q⟩
  | inst C dx => exact ⟨_, y⟩
  | dict fs => obtain ⟨es, n, q, r, z⟩ := y; exact ⟨_, q⟩
  | exc C dx => obtain ⟨vs, a0, q, r⟩ := y; exact ⟨_, q⟩
  | cell d => obtain ⟨o, v, q, r, z⟩ := y; exact ⟨_, q⟩
structure S where
  loc : List (Str × V)
  hp : Addr → Option HO
noncomputable def S.mu (σ : S) : Addr → Prop := fun a => σ.hp a ≠ none
structure Cx where
  prog : Program
  w : World
  K : Frag
  p : Program
  loose : List Str
  mg : Str → Option Value
  mb : Str → Option Value
  base : Heap
  A : Around
  env : Env
  fenv : Env
  L : Addr
  outer : List Env
  prot : List Addr
  ctx : Option (Addr × Bool) := none
structure Ok (X : Cx) (n : Nat) : Prop where
  inK : X.K.In X.base
  top : TopRead X.p X.loose X.mg X.mb X.base
  frames : X.A.frames = some (X.fenv :: X.outer)
  frame : X.fenv.frame = some X.L
  eframe : X.env.frame = some X.L
  kind : X.env.scope.kind = .function
  genv : X.env.globals = mainGlobals
  benv : X.env.builtins = builtinsNs
  above : X.base.objs.size ≤ X.env.locals
  locProt : X.env.locals ∉ X.prot
  handled : X.A.handled = X.ctx.map fun p => .ref p.1
  ctxIn : ∀ p, X.ctx = some p → p.1 ∈ X.prot
  depth : X.A.depth + 2 * n + 8 < recursionLimit
  units : X.A.units + 20 * n + 300 < cLine
inductive FrIs (base : Heap) (mu : Addr → Prop) (h : Heap) (e : Env) : Prop
  | mk (k0 : e.scope.kind ≠ .module) (L : Addr) (o : Obj) (es : Array DictEntry) (ep : Nat) (k1 : e.frame = some L) (k2 : base.get? L = none) (k3 : ¬ mu L) (k4 : h.get? L = some o) (k5 : o.data = .dict es ep)
theorem funs_of {base : Heap} {mu : Addr → Prop} {h : Heap} : ∀ {l : List Env}, (∀ e ∈ l, FrIs base mu h e) → h.FunFrames base l
  | [], _ => trivial
  | _ :: _, k =>
    let ⟨a, L, o, es, ep, hf, hn, _, ho, hd⟩ := k _ (.head _)
    ⟨a, ⟨L, o, hf, hn, ho, fun _ e => by rw [hd] at e; cases e⟩, funs_of fun e he => k e (.tail _ he)⟩
structure St (X : Cx) (σ : S) (h : Heap) : Prop where
  base : X.base.StaysIn h
  names : ∃ m, h.Ns X.env.locals m ∧ ∀ x d, lk σ.loc x = some d → ∃ v, m x = some v ∧ VM σ.mu h v d
  own : ∀ a o, σ.hp a = some o → OM σ.mu h a o ∧ X.base.get? a = none
  locOff : ¬ σ.mu X.env.locals
  prot : ∀ a ∈ X.prot, ¬ σ.mu a ∧ ∃ o vs, h.get? a = some o ∧ o.data = .fields vs ∧ (X.ctx = some (a, true) → vs[2]? = some .none)
  frs : ∀ e ∈ X.fenv :: X.outer, FrIs X.base σ.mu h e
theorem St.protOff {X : Cx} {σ : S} {h : Heap} (st : St X σ h) : ∀ a ∈ X.prot, ¬ σ.mu a := fun a ha => (st.prot a ha).1
noncomputable def Ctx0 (cls : Value) (vs : Array Value) : Prop := (∃ T, cls = .type T) → vs[2]? = some .none
inductive ExcAt (X : Cx) (mu : Addr → Prop) (h : Heap) (e : Addr) (cls : Value) : Prop
  | mk (k0 : X.base.get? e = none ∧ ¬ mu e) (k1 : e ∉ X.prot) (oe : Obj) (vs : Array Value) (a0 : Value) (k2 : h.get? e = some oe) (k3 : oe.cls = cls) (k4 : oe.data = .fields vs) (k5 : vs[0]? = some a0 ∧ Ctx0 cls vs)
    (k6 : vs[1]? = some .none ∨ ∃ T oT ts, vs[1]? = some (.ref T) ∧ (X.base.get? T = none ∧ ¬ mu T) ∧ T ∉ X.prot ∧ T ≠ e ∧ h.get? T = some oT ∧ oT.data = .fields ts ∧ (ts[3]? = some .none ∨ ts[3]? = some (rawInt X.L)))
structure Post (X : Cx) (σ : S) (s : Shared) (σ' : S) (s' : Shared) : Prop where
  upd : ∃ h' tk', s' = { s with heap := h', toks := tk' }
  ext : Ext X.env.locals X.prot σ.mu s.heap σ'.mu s'.heap
  st : St X σ' s'.heap
theorem Post.refl {X : Cx} {σ : S} {s : Shared} (st : St X σ s.heap) : Post X σ s σ s := ⟨⟨s.heap, s.toks, rfl⟩, Ext.refl _ _ _ _ st.protOff, st⟩
theorem Post.trans {X : Cx} {σ₁ σ₂ σ₃ : S} {s₁ s₂ s₃ : Shared} (a : Post X σ₁ s₁ σ₂ s₂) (b : Post X σ₂ s₂ σ₃ s₃) : Post X σ₁ s₁ σ₃ s₃ := by
  obtain ⟨h₂, t₂, e₂⟩ := a.upd
  obtain ⟨h₃, t₃, e₃⟩ := b.upd
  exact ⟨⟨h₃, t₃, by rw [e₃, e₂]⟩, a.ext.trans b.ext, b.st⟩
section
variable {α β : Type}
inductive Qw (X : Cx) (σ : S) (s : Shared) (R : (Addr → Prop) → Heap → α → β → Prop) (Q : β → S → Prop) (a : α) (s' : Shared) : Prop
  | mk (b : β) (σ' : S) (P : Post X σ s σ' s') (r : R σ'.mu s'.heap a b) (q : Q b σ')
inductive Ew (X : Cx) (σ : S) (s : Shared) (E : Value → S → Prop) (e : Value) (s' : Shared) : Prop
  | mk (ea : Addr) (cls : Value) (σ' : S) (P : Post X σ s σ' s') (he : e = .ref ea) (x : ExcAt X σ'.mu s'.heap ea cls) (q : E cls σ')
noncomputable def W (X : Cx) (t : Sem α) (R : (Addr → Prop) → Heap → α → β → Prop) (σ : S) (Q : β → S → Prop) (E : Value → S → Prop) : Prop :=
  ∀ s, St X σ s.heap → wpAny (model X.prog X.w) X.A t (Qw X σ s R Q) (Ew X σ s E) s
theorem Ew.after {X : Cx} {σ σ₁ : S} {s s₁ s' : Shared} {E : Value → S → Prop} {e : Value} (P : Post X σ s σ₁ s₁) (h : Ew X σ₁ s₁ E e s') : Ew X σ s E e s' := by
  obtain ⟨ea, cls, σ', q, r1, r2, r3⟩ := h
  exact ⟨ea, cls, σ', P.trans q, r1, r2, r3⟩
theorem Qw.after {X : Cx} {σ σ₁ : S} {s s₁ s' : Shared} {R : (Addr → Prop) → Heap → α → β → Prop} {Q : β → S → Prop} {a : α} (P : Post X σ s σ₁ s₁) (h : Qw X σ₁ s₁ R Q a s') : Qw X σ s R Q a s' := by
  obtain ⟨b, σ', q, r1, r2⟩ := h
  exact ⟨b, σ', P.trans q, r1, r2⟩
theorem W.run {X : Cx} {t : Sem α} {R : (Addr → Prop) → Heap → α → β → Prop} {σ : S} {Q : β → S → Prop} {E : Value → S → Prop} (h : W X t R σ Q E) {σ₀ : S} {s₀ s : Shared} (P : Post X σ₀ s₀ σ s)
    {Q' : α → Shared → Prop} (hq : ∀ a s' b σ', Post X σ s σ' s' → Post X σ₀ s₀ σ' s' → R σ'.mu s'.heap a b → Q b σ' → Q' a s') : wpAny (model X.prog X.w) X.A t Q' (Ew X σ₀ s₀ E) s := by
  refine wpAny_mono (h s P.st) (fun a s' q => ?_) fun e s' q => q.after P
  obtain ⟨b, σ', p, r, q⟩ := q
  exact hq a s' b σ' p (P.trans p) r q
theorem W.hide {X : Cx} {t : Sem α} {R : (Addr → Prop) → Heap → α → β → Prop} {σ : S} {Q : β → S → Prop} {E : Value → S → Prop} (h : ∀ Q' E', (∀ b σ', Q b σ' → Q' b σ') → (∀ c σ', E c σ' → E' c σ') → W X t R σ Q' E') : W X t R σ Q E := h Q E (fun _ _ q => q) fun _ _ q => q
theorem W.hideQ {X : Cx} {t : Sem α} {R : (Addr → Prop) → Heap → α → β → Prop} {σ : S} {Q : β → S → Prop} {E : Value → S → Prop} (h : ∀ Q', (∀ b σ', Q b σ' → Q' b σ') → W X t R σ Q' E) : W X t R σ Q E := h Q fun _ _ q => q
theorem W.mono {X : Cx} {t : Sem α} {R : (Addr → Prop) → Heap → α → β → Prop} {σ : S} {Q Q' : β → S → Prop} {E E' : Value → S → Prop} (h : W X t R σ Q E) (hq : ∀ b σ', Q b σ' → Q' b σ') (he : ∀ c σ', E c σ' → E' c σ') : W X t R σ Q' E' := by
  intro s st
  refine wpAny_mono (h s st) (fun a s' q => ?_) fun e s' q => ?_
  · obtain ⟨b, σ', p, r, q⟩ := q
    exact ⟨b, σ', p, r, hq _ _ q⟩
  · obtain ⟨ea, cls, σ', p, r, z, q⟩ := q
    exact ⟨ea, cls, σ', p, r, z, he _ _ q⟩
end
noncomputable abbrev RU : (Addr → Prop) → Heap → Unit → Unit → Prop := fun _ _ _ _ => True
noncomputable abbrev RB : (Addr → Prop) → Heap → Bool → Bool → Prop := fun _ _ a b => a = b
inductive FV where
  | next | brk | cont | ret (d : V)
noncomputable def FM (mu : Addr → Prop) (h : Heap) : Flow → FV → Prop
  | .next, .next => True
  | .brk, .brk => True
  | .cont, .cont => True
  | .ret v, .ret d => VM mu h v d
  | _, _ => False
theorem Post.keeps {X : Cx} {σ : S} {s s' : Shared} (st : St X σ s.heap) (h' : Heap) (tk' : Nat) (e : s' = { s with heap := h', toks := tk' }) (k : ∀ b o, s.heap.get? b = some o → h'.get? b = some o) : Post X σ s σ s' := by
  subst e
  have x : Ext X.env.locals X.prot σ.mu s.heap σ.mu h' := Ext.keeps st.protOff k
  refine ⟨⟨h', tk', rfl⟩, x, ⟨fun b o q => k b o (st.base b o q), ?_, ?_, st.locOff, fun a ha => ?_, fun e he => ?_⟩⟩
  · obtain ⟨m, hn, hm⟩ := st.names
    exact ⟨m, hn.keeps k, fun y d q => let ⟨v, a, b⟩ := hm y d q; ⟨v, a, b.mono x⟩⟩
  · intro a o q
    obtain ⟨y, z⟩ := st.own a o q
    obtain ⟨ob, g⟩ := y.there
    exact ⟨y.mono x ((k a ob g).trans g.symm), z⟩
  · obtain ⟨z, o, vs, g, d⟩ := st.prot a ha
    exact ⟨z, o, vs, k a o g, d⟩
  · obtain ⟨z, L, o, es, ep, hf, hn, hm, g, d⟩ := st.frs e he
    exact ⟨z, L, o, es, ep, hf, hn, hm, k L o g, d⟩
theorem St.fr {X : Cx} {n : Nat} (ok : Ok X n) {σ : S} {h : Heap} (st : St X σ h) : ∃ m, Fr X.base X.env.locals h m ∧ ∀ x d, lk σ.loc x = some d → ∃ v, m x = some v ∧ VM σ.mu h v d := by
  obtain ⟨m, hn, hm⟩ := st.names
  exact ⟨m, ⟨hn, st.base, ok.above⟩, hm⟩
theorem St.inK {X : Cx} {n : Nat} (ok : Ok X n) {σ : S} {h : Heap} (st : St X σ h) : X.K.In h := ok.inK.keeps st.base
end Mine
namespace Mine
open PySem PySem.W PySem.Calls PySem.Spec PyProof.Rows
section
variable {X : Cx} {n : Nat} {σ : S} {E : Value → S → Prop}
noncomputable abbrev WE (X : Cx) (e : Expr) (σ : S) (Q : V → S → Prop) (E : Value → S → Prop) : Prop := W X (eval e X.env) VM σ Q E
noncomputable abbrev WX (X : Cx) (st : Stmt) (σ : S) (Q : FV → S → Prop) (E : Value → S → Prop) : Prop := W X (exec st X.env) FM σ Q E
noncomputable abbrev WXs (X : Cx) (st : List Stmt) (σ : S) (Q : FV → S → Prop) (E : Value → S → Prop) : Prop := W X (execs st X.env) FM σ Q E
noncomputable abbrev WT (X : Cx) (e : Expr) (σ : S) (Q : Bool → S → Prop) (E : Value → S → Prop) : Prop := W X (isTrue e X.env (eval e X.env)) RB σ Q E
theorem qw_same {α β : Type} {R : (Addr → Prop) → Heap → α → β → Prop} {s : Shared} {a : α} {b : β} {Q : β → S → Prop} (st : St X σ s.heap) (tk : Nat) (r : R σ.mu s.heap a b) (q : Q b σ) : Qw X σ s R Q a { s with toks := tk } :=
  ⟨b, σ, ⟨⟨s.heap, tk, rfl⟩, Ext.refl _ _ _ _ st.protOff, st⟩, r, q⟩
theorem qw_self {α β : Type} {R : (Addr → Prop) → Heap → α → β → Prop} {s : Shared} {a : α} {b : β} {Q : β → S → Prop} (st : St X σ s.heap) (r : R σ.mu s.heap a b) (q : Q b σ) : Qw X σ s R Q a s :=
  ⟨b, σ, Post.refl st, r, q⟩
theorem W_int {i : Int} {k : Nat} {pos : Pos} {Q : V → S → Prop} (q : Q (.int i) σ) : WE X (.Constant (.int i) k pos) σ Q E := fun _ st =>
  wpAny_Constant_int (qw_same st _ (.int i _) q)
theorem W_str {x : Str} {l : List Nat} {k : Nat} {pos : Pos} {Q : V → S → Prop} (e : x.cps.toList = l) (q : Q (.str l) σ) : WE X (.Constant (.str x) k pos) σ Q E := fun _ st =>
  wpAny_Constant_str (qw_same st _ (.str x _) (e ▸ q))
theorem W_none {k : Nat} {pos : Pos} {Q : V → S → Prop} (q : Q .none σ) : WE X (.Constant .none k pos) σ Q E := fun _ st => wpAny_Constant_none (qw_self st .none q)
theorem W_bool {b : Bool} {k : Nat} {pos : Pos} {Q : V → S → Prop} (q : Q (.bool b) σ) : WE X (.Constant (.bool b) k pos) σ Q E := fun _ st => wpAny_Constant_bool (qw_self st (.bool b) q)
theorem W_local {x : Str} {pos : Pos} {d : V} {Q : V → S → Prop} (ok : Ok X n) (hx : X.env.kindOf x = some .local) (e : lk σ.loc x = some d) (q : Q d σ) (hd : (x == ("__debug__" : Str)) = false) :
    WE X (.Name x pos) σ Q E := fun _ st => by
  obtain ⟨m, hn, hm⟩ := st.names
  obtain ⟨v, hv, vm⟩ := hm x d e
  exact wpAny_Name (wpAny_loadName_local ok.kind hx hn hv (qw_self st vm q)) hd
theorem W_global {x : Str} {pos : Pos} {v : Value} {Q : V → S → Prop} (ok : Ok X n) (hx : X.env.kindOf x = some .globalImplicit) (e : nsIn X.K mainGlobals x = some (some v)) (q : Q (.lit v) σ) (hd : (x == ("__debug__" : Str)) = false) :
    WE X (.Name x pos) σ Q E := fun _ st =>
  Name_function_global ok.kind hx (loadGlobal_global (ok.genv ▸ ok.top.g.keeps st.base) (mg_of ok.inK ok.top.g e) (qw_self st (.lit v) q)) hd
theorem W_builtin {x : Str} {pos : Pos} {v : Value} {Q : V → S → Prop} (ok : Ok X n) (hx : X.env.kindOf x = some .globalImplicit) (e : nsIn X.K mainGlobals x = some none) (hv : bootBuiltins x = some v) (hn : x ≠ "__name__") (q : Q (.lit v) σ) (hd : (x == ("__debug__" : Str)) = false) :
    WE X (.Name x pos) σ Q E := fun _ st =>
  Name_function_global ok.kind hx (loadGlobal_builtin (ok.genv ▸ ok.top.g.keeps st.base) (mg_none_of ok.inK ok.top.g e) (ok.benv ▸ ok.top.b.keeps st.base) ((ok.top.builtins x hn).trans hv) (qw_self st (.lit v) q)) hd
noncomputable def Op2 (X : Cx) (t : Value → Value → Sem Value) (a b : V) (σ : S) (Q : V → S → Prop) (E : Value → S → Prop) : Prop :=
  ∀ v w s, St X σ s.heap → VM σ.mu s.heap v a → VM σ.mu s.heap w b → wpAny (model X.prog X.w) X.A (t v w) (Qw X σ s VM Q) (Ew X σ s E) s
noncomputable def Tr (X : Cx) (a : V) (σ : S) (Q : Bool → S → Prop) (E : Value → S → Prop) : Prop :=
  ∀ v s, St X σ s.heap → VM σ.mu s.heap v a → wpAny (model X.prog X.w) X.A (truthy v) (Qw X σ s RB Q) (Ew X σ s E) s
noncomputable def Op1 (X : Cx) (t : Value → Sem Value) (a : V) (σ : S) (Q : V → S → Prop) (E : Value → S → Prop) : Prop :=
  ∀ v s, St X σ s.heap → VM σ.mu s.heap v a → wpAny (model X.prog X.w) X.A (t v) (Qw X σ s VM Q) (Ew X σ s E) s
theorem Op2.go {t : Value → Value → Sem Value} {a b : V} {Q : V → S → Prop} (h : Op2 X t a b σ Q E) {σ₀ : S} {s₀ s : Shared} (P : Post X σ₀ s₀ σ s) {v w : Value} (va : VM σ.mu s.heap v a) (wb : VM σ.mu s.heap w b) :
    wpAny (model X.prog X.w) X.A (t v w) (Qw X σ₀ s₀ VM Q) (Ew X σ₀ s₀ E) s :=
  wpAny_mono (h v w s P.st va wb) (fun _ _ q => q.after P) fun _ _ q => q.after P
theorem Op1.go {t : Value → Sem Value} {a : V} {Q : V → S → Prop} (h : Op1 X t a σ Q E) {σ₀ : S} {s₀ s : Shared} (P : Post X σ₀ s₀ σ s) {v : Value} (va : VM σ.mu s.heap v a) :
    wpAny (model X.prog X.w) X.A (t v) (Qw X σ₀ s₀ VM Q) (Ew X σ₀ s₀ E) s :=
  wpAny_mono (h v s P.st va) (fun _ _ q => q.after P) fun _ _ q => q.after P
theorem Tr.go {a : V} {Q : Bool → S → Prop} (h : Tr X a σ Q E) {σ₀ : S} {s₀ s : Shared} (P : Post X σ₀ s₀ σ s) {v : Value} (va : VM σ.mu s.heap v a) :
    wpAny (model X.prog X.w) X.A (truthy v) (Qw X σ₀ s₀ RB Q) (Ew X σ₀ s₀ E) s :=
  wpAny_mono (h v s P.st va) (fun _ _ q => q.after P) fun _ _ q => q.after P
theorem W.go {α β : Type} {t : Sem α} {R : (Addr → Prop) → Heap → α → β → Prop} {Q : β → S → Prop} (h : W X t R σ Q E) {σ₀ : S} {s₀ s : Shared} (P : Post X σ₀ s₀ σ s) : wpAny (model X.prog X.w) X.A t (Qw X σ₀ s₀ R Q) (Ew X σ₀ s₀ E) s :=
  wpAny_mono (h s P.st) (fun _ _ q => q.after P) fun _ _ q => q.after P
theorem W_BinOp {l r : Expr} {op : Operator} {pos : Pos} {Q : V → S → Prop} (h : WE X l σ (fun a σ₁ => WE X r σ₁ (fun b σ₂ => Op2 X (binaryOp op) a b σ₂ Q E) E) E) : WE X (.BinOp l op r pos) σ Q E := fun _ st =>
  wpAny_BinOp (h.run (Post.refl st) fun _ _ _ _ _ P₁ va h₁ => h₁.run P₁ fun _ _ _ _ p₂ P₂ vb h₂ => h₂.go P₂ (va.mono p₂.ext) vb)
theorem WT_Compare {l r : Expr} {op : CmpOp} {pos : Pos} {Q : Bool → S → Prop} (h : WE X l σ (fun a σ₁ => WE X r σ₁ (fun b σ₂ => Op2 X (compareOp op) a b σ₂ (fun c σ₃ => Tr X c σ₃ Q E) E) E) E) (hm : behindInMarks op r = false) :
    WT X (.Compare l [op] [r] pos) σ Q E := fun _ st =>
  wpAny_isTrue_Compare1 (h.run (Post.refl st) fun _ _ _ _ _ P₁ va h₁ => h₁.run P₁ fun _ _ _ _ p₂ P₂ vb h₂ => wpAny_mono (h₂.go P₂ (va.mono p₂.ext) vb) (fun _ _ q => by
    obtain ⟨c, σ₃, P₃, vc, h₃⟩ := q
    exact h₃.go P₃ vc) fun _ _ e => e) hm
theorem WT_Not {x : Expr} {pos : Pos} {Q : Bool → S → Prop} (h : WT X x σ (fun b σ₁ => Q (!b) σ₁) E) : WT X (.UnaryOp .Not x pos) σ Q E := fun _ st =>
  wpAny_isTrue_Not (h.run (Post.refl st) fun _ _ _ _ _ P₁ e q => by subst e; exact ⟨_, _, P₁, rfl, q⟩)
theorem WT_value {e : Expr} {Q : Bool → S → Prop} (h : WE X e σ (fun a σ₁ => Tr X a σ₁ Q E) E) (he : ∀ env whole, isTrue e env whole = (do let v ← whole; standAt e.pos; holding [v] (truthy v))) : WT X e σ Q E := fun _ st =>
  wpAny_isTrue_value (h.run (Post.refl st) fun _ _ _ _ _ P₁ va h₁ => h₁.go P₁ va) (he _ _)
theorem WT_Or2 {x y : Expr} {pos : Pos} {Q : Bool → S → Prop} (h : WT X x σ (fun b σ₁ => if b then Q true σ₁ else WT X y σ₁ Q E) E) : WT X (.BoolOp .Or [x, y] pos) σ Q E := fun _ st =>
  wpAny_isTrue_BoolOp (wpAny_allTrue_Or_cons (h.run (Post.refl st) fun _ _ _ _ _ P₁ e q => by
    subst e
    split at q
    · rename_i e; subst e
      exact ⟨_, _, P₁, rfl, q⟩
    · rename_i e; rw [Bool.not_eq_true] at e; subst e
      rw [if_neg (by decide)]
      refine wpAny_allTrue_Or_cons (q.run P₁ fun _ _ _ _ _ P₂ e q => ?_)
      subst e
      split
      · rename_i e; subst e; exact ⟨_, _, P₂, rfl, q⟩
      · rename_i e; rw [Bool.not_eq_true] at e; subst e; exact wpAny_allTrue_Or_nil ⟨_, _, P₂, rfl, q⟩))
theorem WT_Or3 {x y z : Expr} {pos : Pos} {Q : Bool → S → Prop} (h : WT X x σ (fun b σ₁ => if b then Q true σ₁ else WT X y σ₁ (fun b σ₂ => if b then Q true σ₂ else WT X z σ₂ Q E) E) E) : WT X (.BoolOp .Or [x, y, z] pos) σ Q E := fun _ st =>
  wpAny_isTrue_BoolOp (wpAny_allTrue_Or_cons (h.run (Post.refl st) fun _ _ _ _ _ P₁ e q => by
    subst e
    split at q
    · rename_i e; subst e
      exact ⟨_, _, P₁, rfl, q⟩
    · rename_i e; rw [Bool.not_eq_true] at e; subst e
      rw [if_neg (by decide)]
      refine wpAny_allTrue_Or_cons (q.run P₁ fun _ _ _ _ _ P₂ e q => ?_)
      subst e
      split at q
      · rename_i e; subst e
        exact ⟨_, _, P₂, rfl, q⟩
      · rename_i e; rw [Bool.not_eq_true] at e; subst e
        rw [if_neg (by decide)]
        refine wpAny_allTrue_Or_cons (q.run P₂ fun _ _ _ _ _ P₃ e q => ?_)
        subst e
        split
        · rename_i e; subst e; exact ⟨_, _, P₃, rfl, q⟩
        · rename_i e; rw [Bool.not_eq_true] at e; subst e; exact wpAny_allTrue_Or_nil ⟨_, _, P₃, rfl, q⟩))
theorem WT_And3 {x y z : Expr} {pos : Pos} {Q : Bool → S → Prop} (h : WT X x σ (fun b σ₁ => if b then WT X y σ₁ (fun b σ₂ => if b then WT X z σ₂ Q E else Q false σ₂) E else Q false σ₁) E) : WT X (.BoolOp .And [x, y, z] pos) σ Q E := fun _ st =>
  wpAny_isTrue_BoolOp (wpAny_allTrue_And_cons (h.run (Post.refl st) fun _ _ _ _ _ P₁ e q => by
    subst e
    split at q
    · rename_i e; subst e
      rw [if_pos rfl]
      refine wpAny_allTrue_And_cons (q.run P₁ fun _ _ _ _ _ P₂ e q => ?_)
      subst e
      split at q
      · rename_i e; subst e
        rw [if_pos rfl]
        refine wpAny_allTrue_And_cons (q.run P₂ fun _ _ _ _ _ P₃ e q => ?_)
        subst e
        split
        · rename_i e; subst e; exact wpAny_allTrue_And_nil ⟨_, _, P₃, rfl, q⟩
        · rename_i e; rw [Bool.not_eq_true] at e; subst e; exact ⟨_, _, P₃, rfl, q⟩
      · rename_i e; rw [Bool.not_eq_true] at e; subst e
        exact ⟨_, _, P₂, rfl, q⟩
    · rename_i e; rw [Bool.not_eq_true] at e; subst e
      exact ⟨_, _, P₁, rfl, q⟩))
theorem W_Or {x y : Expr} {pos : Pos} {Q : V → S → Prop} (h : WE X x σ (fun a σ₁ => Tr X a σ₁ (fun b σ₂ => if b then Q a σ₂ else WE X y σ₂ Q E) E) E) : WE X (.BoolOp .Or [x, y] pos) σ Q E := fun _ st =>
  wpAny_Or2 (h.run (Post.refl st) fun _ s₁ _ _ _ P₁ va h₁ => wpAny_mono (h₁ _ s₁ P₁.st va) (fun b s₂ q => by
    obtain ⟨c, σ₃, p₃, e, h₃⟩ := q
    have P₃ := P₁.trans p₃
    cases e
    cases b
    · simp only [Bool.false_eq_true, if_false] at h₃ ⊢
      exact h₃.go P₃
    · simp only [if_true] at h₃ ⊢
      exact ⟨_, _, P₃, va.mono p₃.ext, h₃⟩) fun _ _ e => e.after P₁)
theorem W_Unary {op : UnaryOp} {x : Expr} {pos : Pos} {Q : V → S → Prop} (h : WE X x σ (fun a σ₁ => Op1 X (unaryOp op) a σ₁ Q E) E) : WE X (.UnaryOp op x pos) σ Q E := fun _ st =>
  wpAny_UnaryOp (h.run (Post.refl st) fun _ _ _ _ _ P₁ va h₁ => h₁.go P₁ va)
theorem WA_nil {Q : List V → S → Prop} (q : Q [] σ) : W X (spliced []) VMs σ Q E := fun _ st => spliced_nil (qw_self st .nil q)
theorem WA_cons {e : Expr} {rest : List (Bool × Sem Value)} {Q : List V → S → Prop} (h : WE X e σ (fun a σ₁ => W X (spliced rest) VMs σ₁ (fun as σ₂ => Q (a :: as) σ₂) E) E) : W X (spliced ((false, eval e X.env) :: rest)) VMs σ Q E := fun _ st =>
  spliced_cons (h.run (Post.refl st) fun _ _ _ _ _ P₁ va h₁ => h₁.run P₁ fun _ _ _ _ p₂ P₂ vs q => ⟨_, _, P₂, .cons (va.mono p₂.ext) vs, q⟩)
theorem st_push {s : Shared} (st : St X σ s.heap) (o : Obj) : Post X σ s σ { s with heap := s.heap.push o } :=
  Post.keeps st _ s.toks rfl fun _ _ e => Heap.get?_push_of_some _ e
theorem new_none {s : Shared} (st : St X σ s.heap) : σ.hp s.heap.objs.size = none := by
  cases e : σ.hp s.heap.objs.size with
  | none => rfl
  | some o =>
    obtain ⟨ob, g⟩ := (st.own _ o e).1.there
    exact absurd (Heap.lt_size g) (Nat.lt_irrefl _)
theorem new_off {s : Shared} (st : St X σ s.heap) : ¬ σ.mu s.heap.objs.size := fun hm => hm (new_none st)
theorem W_Tuple {elts : List Expr} {k : Nat} {pos : Pos} {Q : V → S → Prop} (h : W X (spliced (backTo pos (starEach elts X.env))) VMs σ (fun as σ₁ => as.length ≤ 1000 ∧ Q (.tup as) σ₁) E) : WE X (.Tuple elts k pos) σ Q E := fun _ st =>
  Tuple_ (h.run (Post.refl st) fun vs s₁ as σ₁ _ P₁ va q => wpAny_newObj_type (⟨_, σ₁, P₁.trans (st_push P₁.st _), .tup (Heap.get?_push_size _ rfl) rfl rfl (new_off P₁.st) (va.mono (st_push P₁.st _).ext), q.2⟩)
    (by show vs.toArray.size ≤ sizeLine; rw [List.size_toArray, va.length, sizeLine_eq]; omega))
theorem W_List {elts : List Expr} {pos : Pos} {Q : V → S → Prop} (h : W X (spliced (backTo pos (starEach elts X.env))) VMs σ (fun as σ₁ => as.length ≤ 1000 ∧ Q (.lst as) σ₁) E) : WE X (.List elts pos) σ Q E := fun _ st =>
  List_ (h.run (Post.refl st) fun vs s₁ as σ₁ _ P₁ va q => wpAny_newObj_type (⟨_, σ₁, P₁.trans (st_push P₁.st _), .lst (Heap.get?_push_size _ rfl) rfl rfl (new_off P₁.st) (va.mono (st_push P₁.st _).ext), q.2⟩)
    (by show vs.toArray.size ≤ sizeLine; rw [List.size_toArray, va.length, sizeLine_eq]; omega))
theorem WXs_nil {Q : FV → S → Prop} (q : Q .next σ) : WXs X [] σ Q E := fun _ st => wpAny_execs_nil ⟨.next, σ, Post.refl st, trivial, q⟩
theorem WXs_cons {st : Stmt} {rest : List Stmt} {Q : FV → S → Prop} (h : WX X st σ (fun f σ₁ => match f with | .next => WXs X rest σ₁ Q E | f => Q f σ₁) E) : WXs X (st :: rest) σ Q E := fun _ sst =>
  wpAny_execs_cons (h.run (Post.refl sst) fun f s₁ g σ₁ _ P₁ r q => by
    cases f <;> cases g <;> first | exact r.elim | exact q.go P₁ | exact ⟨_, _, P₁, r, q⟩)
theorem WX_If {test : Expr} {body orelse : List Stmt} {pos : Pos} {Q : FV → S → Prop} (h : WT X test σ (fun b σ₁ => if b then WXs X body σ₁ Q E else WXs X orelse σ₁ Q E) E) : WX X (.If test body orelse pos) σ Q E := fun _ st =>
  wpAny_If (h.run (Post.refl st) fun b _ _ _ _ P₁ e h₁ => by
    subst e
    cases b
    · simp only [Bool.false_eq_true, if_false] at h₁ ⊢
      exact h₁.go P₁
    · simp only [if_true] at h₁ ⊢
      exact h₁.go P₁)
theorem WX_Return {e : Expr} {pos : Pos} {Q : FV → S → Prop} (h : WE X e σ (fun a σ₁ => Q (.ret a) σ₁) E) : WX X (.Return (some e) pos) σ Q E := fun _ st =>
  wpAny_Return_some (h.run (Post.refl st) fun _ _ a _ _ P₁ va q => ⟨.ret a, _, P₁, va, q⟩)
theorem WX_Return0 {pos : Pos} {Q : FV → S → Prop} (q : Q (.ret .none) σ) : WX X (.Return none pos) σ Q E := fun _ st => wpAny_Return_none ⟨.ret .none, _, Post.refl st, VM.none, q⟩
theorem WX_Break {pos : Pos} {Q : FV → S → Prop} (q : Q .brk σ) : WX X (.Break pos) σ Q E := fun _ st => wpAny_Break ⟨.brk, _, Post.refl st, trivial, q⟩
theorem WX_Expr {e : Expr} {pos : Pos} {Q : FV → S → Prop} (ok : Ok X n) (h : WE X e σ (fun _ σ₁ => Q .next σ₁) E) (hs : ∀ env, swapsWith e none pos.line env = pure false) : WX X (.Expr e pos) σ Q E := fun _ st =>
  wpAny_Expr_any (h.run (Post.refl st) fun _ _ a _ _ P₁ va q => ⟨.next, _, P₁, trivial, q⟩) (by unfold interactive; rw [ok.kind]; rfl) (hs _)
noncomputable def put (fs : List (Str × V)) (x : Str) (d : V) : List (Str × V) := (x, d) :: fs.filter (fun p => !(p.1 == x))
theorem lk_put_self {fs : List (Str × V)} {x : Str} {d : V} : lk (put fs x d) x = some d := by simp [lk, put, List.lookup]
theorem lk_put_ne {fs : List (Str × V)} {x y : Str} {d : V} (h : y ≠ x) : lk (put fs x d) y = lk fs y := by
  have e : (y == x) = false := by simpa using h
  unfold lk put
  rw [List.lookup_cons, e]
  dsimp only
  induction fs with
  | nil => rfl
  | cons p r ih =>
    rw [List.filter_cons]
    by_cases q : p.1 = x
    · have e1 : (p.1 == x) = true := by simpa using q
      simp only [e1, Bool.not_true, Bool.false_eq_true, if_false]
      rw [ih, List.lookup_cons]
      have : (y == p.1) = false := by simpa [q] using h
      rw [this]
    · have e1 : (p.1 == x) = false := by simpa using q
      simp only [e1, Bool.not_false, if_true]
      rw [List.lookup_cons, List.lookup_cons, ih]
theorem Post.frame {s : Shared} {h' : Heap} {tk : Nat} {loc : List (Str × V)} {m : Str → Option Value} (ok : Ok X n) (st : St X σ s.heap) (hs : Heap.SameBut X.env.locals s.heap h') (hn : h'.Ns X.env.locals m)
    (hm : ∀ x d, lk loc x = some d → ∃ v, m x = some v ∧ VM σ.mu s.heap v d) : Post X σ s { σ with loc := loc } { s with heap := h', toks := tk } := by
  obtain ⟨m₀, hn₀, _⟩ := st.names
  obtain ⟨oL, esL, epL, gL, dL, _⟩ := hn₀
  have x : Ext X.env.locals X.prot σ.mu s.heap σ.mu h' := by
    refine ⟨fun a o e nm q => ⟨(hs.2 a fun z => ?_).trans e, nm⟩, fun a o e nm l q => ⟨nm, o.slots, (hs.2 a l).trans e⟩, fun a ha o e => ⟨(hs.2 a fun z => ?_).trans e, st.protOff a ha⟩⟩
    · rw [z, gL] at e; cases e; rw [dL] at q; exact q
    · exact ok.locProt (z ▸ ha)
  refine ⟨⟨h', tk, rfl⟩, x, ⟨fun b o e => (hs.2 b (Nat.ne_of_lt (Nat.lt_of_lt_of_le (Heap.lt_size e) ok.above))).trans (st.base b o e), ⟨m, hn, fun y d e => let ⟨v, a, b⟩ := hm y d e; ⟨v, a, b.mono x⟩⟩, fun a o q => ?_, st.locOff, fun a ha => ?_, fun e he => ?_⟩⟩
  · obtain ⟨y, z⟩ := st.own a o q
    exact ⟨y.mono x (hs.2 a fun e => st.locOff (by rw [← e]; show σ.hp a ≠ none; rw [q]; exact Option.some_ne_none o)), z⟩
  · obtain ⟨z, o, vs, g, d⟩ := st.prot a ha
    exact ⟨z, o, vs, (hs.2 a fun e => ok.locProt (e ▸ ha)).trans g, d⟩
  · obtain ⟨z, L, o, es, ep, hf, hnb, hmu, g, d⟩ := st.frs e he
    by_cases q : L = X.env.locals
    · obtain ⟨o', es', ep', g', d', _⟩ := hn
      exact ⟨z, L, o', es', ep', hf, hnb, hmu, q ▸ g', d'⟩
    · exact ⟨z, L, o, es, ep, hf, hnb, hmu, (hs.2 L q).trans g, d⟩
theorem store_local {x : Str} {d : V} {Q : Unit → S → Prop} (ok : Ok X n) (hx : X.env.kindOf x = some .local) (q : Q () { σ with loc := put σ.loc x d }) {σ₀ : S} {s₀ s : Shared} (P : Post X σ₀ s₀ σ s) {v : Value} (vm : VM σ.mu s.heap v d) :
    wpAny (model X.prog X.w) X.A (storeName X.env x v) (Qw X σ₀ s₀ RU Q) (Ew X σ₀ s₀ E) s := by
  obtain ⟨m, hn, hm⟩ := P.st.names
  refine wpAny_storeName_local hx hn (fun h' hn' hs => ⟨(), _, P.trans (Post.frame ok P.st hs hn' fun y e he => ?_), trivial, q⟩) (by rw [ok.kind]; rfl)
  by_cases z : y = x
  · subst z
    rw [lk_put_self] at he
    cases he
    exact ⟨v, if_pos rfl, vm⟩
  · rw [lk_put_ne z] at he
    obtain ⟨w, a, b⟩ := hm y e he
    exact ⟨w, by rw [if_neg z]; exact a, b⟩
theorem WX_Assign {x : Str} {px pos : Pos} {e : Expr} {Q : FV → S → Prop} (ok : Ok X n) (hx : X.env.kindOf x = some .local) (h : WE X e σ (fun d σ₁ => Q .next { σ₁ with loc := put σ₁.loc x d }) E)
    (hs : ∀ env, swapsWith e (some (.Name x px)) pos.line env = pure false) : WX X (.Assign [.Name x px] e pos) σ Q E := fun _ st =>
  wpAny_Assign_Name (h.run (Post.refl st) fun v s₁ d σ₁ _ P₁ vm q => wpAny_mono (store_local (E := E) (Q := fun _ σ' => Q .next σ') ok hx q P₁ vm) (fun _ _ ⟨_, σ', P', _, q'⟩ => ⟨.next, σ', P', trivial, q'⟩) fun _ _ e => e) (hs _)
theorem WX_Aug {x : Str} {px pos : Pos} {e : Expr} {op : Operator} {d : V} {Q : FV → S → Prop} (ok : Ok X n) (hx : X.env.kindOf x = some .local) (hd : lk σ.loc x = some d)
    (h : WE X e σ (fun b σ₁ => Op2 X (inplaceOp op) d b σ₁ (fun r σ₂ => Q .next { σ₂ with loc := put σ₂.loc x r }) E) E) : WX X (.AugAssign (.Name x px) op e pos) σ Q E := fun _ st => by
  obtain ⟨m, hn, hm⟩ := st.names
  obtain ⟨v, hv, vm⟩ := hm x d hd
  refine wpAny_AugAssign_Name (wpAny_loadName_local ok.kind hx hn hv (h.run (Post.refl st) fun w s₁ b σ₁ p₁ P₁ wm h₁ => ?_))
  refine wpAny_mono (h₁.go P₁ (vm.mono p₁.ext) wm) (fun r s₂ q => ?_) fun _ _ e => e
  obtain ⟨c, σ₂, P₂, rm, h₂⟩ := q
  exact wpAny_mono (store_local (E := E) (Q := fun _ σ' => Q .next σ') ok hx h₂ P₂ rm) (fun _ _ ⟨_, σ', P', _, q'⟩ => ⟨.next, σ', P', trivial, q'⟩) fun _ _ e => e
end
end Mine
namespace Mine
open PySem PySem.W PySem.Calls PySem.Spec PyProof.Rows
section
variable {X : Cx} {n : Nat} {σ : S} {E : Value → S → Prop}
noncomputable def upd (hp : Addr → Option HO) (a : Addr) (o : HO) : Addr → Option HO := fun b => if b = a then some o else hp b
theorem upd_self {hp : Addr → Option HO} {a : Addr} {o : HO} : upd hp a o a = some o := if_pos rfl
theorem upd_ne {hp : Addr → Option HO} {a b : Addr} {o : HO} (h : b ≠ a) : upd hp a o b = hp b := if_neg h
theorem upd_upd {hp : Addr → Option HO} {a : Addr} {o o' : HO} : upd (upd hp a o) a o' = upd hp a o' := by
  funext b; unfold upd; split <;> rfl
theorem post_write {s : Shared} {h' : Heap} {tk : Nat} {a : Addr} {o : HO} (ok : Ok X n) (st : St X σ s.heap) (k : ∀ b o, b ≠ a → b ≠ X.env.locals → s.heap.get? b = some o → h'.get? b = some o)
    (hL : ∃ m, h'.Ns X.env.locals m ∧ ∀ x d, lk σ.loc x = some d → ∃ v, m x = some v ∧ VM σ.mu s.heap v d) (hown : σ.hp a ≠ none ∨ (s.heap.get? a = none))
    (om : (∀ v d, VM σ.mu s.heap v d → VM (S.mu { σ with hp := upd σ.hp a o }) h' v d) → (∀ es fs, Ents σ.mu s.heap es fs → Ents (S.mu { σ with hp := upd σ.hp a o }) h' es fs) → (∀ vs ds, VMs σ.mu s.heap vs ds → VMs (S.mu { σ with hp := upd σ.hp a o }) h' vs ds) → OM (S.mu { σ with hp := upd σ.hp a o }) h' a o) :
    Post X σ s { σ with hp := upd σ.hp a o } { s with heap := h', toks := tk } := by
  obtain ⟨m₀, hn₀, _⟩ := st.names
  obtain ⟨oL, esL, epL, gL, dL, _⟩ := id hn₀
  have hne : ∀ b ob, s.heap.get? b = some ob → ¬ σ.mu b → b ≠ a := fun b ob g nm e => by
    subst e
    rcases hown with q | q
    · exact nm q
    · rw [q] at g; cases g
  have nmu : ∀ b, ¬ σ.mu b → b ≠ a → ¬ S.mu { σ with hp := upd σ.hp a o } b := fun b nm ne q => nm (by
    have : upd σ.hp a o b ≠ none := q
    rwa [upd_ne ne] at this)
  have x : Ext X.env.locals X.prot σ.mu s.heap (S.mu { σ with hp := upd σ.hp a o }) h' := by
    refine ⟨fun b ob g nm q => ⟨k b ob (hne b ob g nm) (fun z => ?_) g, nmu b nm (hne b ob g nm)⟩, fun b ob g nm l q => ⟨nmu b nm (hne b ob g nm), ob.slots, k b ob (hne b ob g nm) l g⟩, fun b hb ob g => ?_⟩
    · rw [z, gL] at g; cases g; rw [dL] at q; exact q
    · have nm := st.protOff b hb
      exact ⟨k b ob (hne b ob g nm) (fun z => ok.locProt (z ▸ hb)) g, nmu b nm (hne b ob g nm)⟩
  have La : X.env.locals ≠ a := hne _ _ gL st.locOff
  have ba : X.base.get? a = none := by
    rcases hown with q | q
    · cases e : σ.hp a with
      | none => exact absurd e q
      | some o' => exact (st.own a o' e).2
    · cases e : X.base.get? a with
      | none => rfl
      | some o' => have := st.base a o' e; rw [q] at this; cases this
  refine ⟨⟨h', tk, rfl⟩, x, ⟨fun b ob e => k b ob (fun z => by rw [z, ba] at e; cases e) (Nat.ne_of_lt (Nat.lt_of_lt_of_le (Heap.lt_size e) ok.above)) (st.base b ob e), ?_, fun b ob e => ?_, nmu _ st.locOff La, fun p hp => ?_, fun e he => ?_⟩⟩
  · obtain ⟨m, hn, hm⟩ := hL
    exact ⟨m, hn, fun y d e => let ⟨v, q, r⟩ := hm y d e; ⟨v, q, r.mono x⟩⟩
  · by_cases z : b = a
    · subst z
      have e' : Mine.upd σ.hp b o b = some ob := e
      rw [upd_self] at e'
      cases e'
      exact ⟨om (fun _ _ q => q.mono x) (fun _ _ q => q.mono x) (fun _ _ q => q.mono x), ba⟩
    · replace e : Mine.upd σ.hp a o b = some ob := e
      rw [upd_ne z] at e
      obtain ⟨y, r⟩ := st.own b ob e
      obtain ⟨oc, g⟩ := y.there
      refine ⟨y.mono x ((k b oc z (fun q => st.locOff (by rw [← q]; show σ.hp b ≠ none; rw [e]; exact Option.some_ne_none ob)) g).trans g.symm), r⟩
  · obtain ⟨z, ob, vs, g, d⟩ := st.prot p hp
    exact ⟨nmu p z (hne p ob g z), ob, vs, k p ob (hne p ob g z) (fun q => ok.locProt (q ▸ hp)) g, d⟩
  · obtain ⟨z, L, ob, es, ep, hf, hn, hm, g, d⟩ := st.frs e he
    by_cases q : L = X.env.locals
    · obtain ⟨m, hnn, _⟩ := hL
      obtain ⟨o', es', ep', g', d', _⟩ := hnn
      exact ⟨z, L, o', es', ep', hf, hn, nmu L hm (hne L ob g hm), q ▸ g', d'⟩
    · exact ⟨z, L, ob, es, ep, hf, hn, nmu L hm (hne L ob g hm), k L ob (hne L ob g hm) q g, d⟩
noncomputable def restOf (base h : Heap) (L a : Addr) : List (Addr × Obj) :=
  (List.range h.objs.size).filterMap fun b => if b = L ∨ b = a ∨ (base.get? b).isSome then none else (h.get? b).map fun o => (b, o)
theorem restOf_mem {base h : Heap} {L a : Addr} {p : Addr × Obj} (hp : p ∈ restOf base h L a) : h.get? p.1 = some p.2 ∧ p.1 ≠ L ∧ p.1 ≠ a ∧ base.get? p.1 = none := by
  obtain ⟨b, _, e⟩ := List.mem_filterMap.mp hp
  split at e
  · cases e
  · rename_i q
    rw [not_or, not_or] at q
    obtain ⟨o, g, rfl⟩ := Option.map_eq_some_iff.mp e
    exact ⟨g, q.1, q.2.1, by simpa using q.2.2⟩
theorem mem_restOf {base h : Heap} {L a b : Addr} {o : Obj} (g : h.get? b = some o) (h1 : b ≠ L) (h2 : b ≠ a) (h3 : base.get? b = none) : (b, o) ∈ restOf base h L a := by
  refine List.mem_filterMap.mpr ⟨b, List.mem_range.mpr (Heap.lt_size g), ?_⟩
  rw [if_neg (by rw [h3]; simp [h1, h2]), g]; rfl
theorem restOf_news {base h : Heap} {L a : Addr} : News base L h (restOf base h L a) := fun p hp =>
  let ⟨g, h1, _, h3⟩ := restOf_mem hp
  ⟨g, h1, h3⟩
theorem kept_of {base h h' : Heap} {L a : Addr} {m : Str → Option Value} (F : Fr base L h' m) (sb : base.StaysIn h) (N : News base L h' (restOf base h L a)) : ∀ b o, b ≠ a → b ≠ L → h.get? b = some o → h'.get? b = some o := fun b o h1 h2 g => by
  cases e : base.get? b with
  | none => exact (N _ (mem_restOf g h2 h1 e)).1
  | some o' =>
    have := sb b o' e
    rw [g] at this
    cases this
    exact F.keep b o e
theorem Ents.getL {mu : Addr → Prop} {h : Heap} {es : List DictEntry} {fs : List (Str × V)} (x : Ents mu h es fs) {name : Str} : (∀ d, lk fs name = some d → ∃ v, PySem.W.getL name es = some (some v) ∧ VM mu h v d) ∧ (lk fs name = none → PySem.W.getL name es = some none) := by
  induction x with
  | nil => exact ⟨fun d e => by simp [lk] at e, fun _ => rfl⟩
  | @cons e es x t d fs hk vm r ih =>
    have ik : e.key.isStr name = (x == name) := by rw [hk]; rfl
    have rk : e.refKey = false := by unfold DictEntry.refKey; rw [hk]
    by_cases q : x = name
    · subst q
      refine ⟨fun d' e' => ⟨e.val, ?_, ?_⟩, fun e' => ?_⟩
      · unfold PySem.W.getL; rw [List.find?_cons, ik]; simp
      · simp [lk, List.lookup] at e'; subst e'; exact vm
      · simp [lk, List.lookup] at e'
    · have q1 : (x == name) = false := by simpa using q
      have q2 : (name == x) = false := by simpa using fun z => q z.symm
      have gl : PySem.W.getL name (e :: es) = PySem.W.getL name es := by
        unfold PySem.W.getL; rw [List.find?_cons, ik, q1]; simp [rk]
      have ll : lk ((x, d) :: fs) name = lk fs name := by unfold lk; rw [List.lookup_cons, q2]
      rw [gl, ll]; exact ih
noncomputable def updF : List (Str × V) → Str → V → List (Str × V)
  | [], x, d => [(x, d)]
  | (y, e) :: r, x, d => if y == x then (y, d) :: r else (y, e) :: updF r x d
theorem Ents.put {mu : Addr → Prop} {h : Heap} {es : List DictEntry} {fs : List (Str × V)} (x : Ents mu h es fs) {name : Str} {hs : Int} {tk : Tok} {v : Value} {d : V} (vm : VM mu h v d) : Ents mu h (putL name hs (.str name tk) v es) (updF fs name d) := by
  induction x with
  | nil => exact .cons rfl vm .nil
  | @cons e es x t d' fs hk vm' r ih =>
    have ik : e.key.isStr name = (x == name) := by rw [hk]; rfl
    unfold putL updF
    rw [ik]
    split
    · exact .cons hk vm r
    · exact .cons hk vm' ih
theorem Ents.length {mu : Addr → Prop} {h : Heap} {es : List DictEntry} {fs : List (Str × V)} (x : Ents mu h es fs) : es.length = fs.length := by
  induction x with
  | nil => rfl
  | cons _ _ _ ih => simp [ih]
theorem updF_length (fs : List (Str × V)) (x : Str) (d : V) : (updF fs x d).length ≤ fs.length + 1 := by
  induction fs with
  | nil => simp [updF]
  | cons p r ih => obtain ⟨y, e⟩ := p; unfold updF; split <;> simp <;> omega
structure KGet (K : Frag) (C : Addr) (name : Str) : Prop where
  get : plainGet K C name = true
  dict : hasDictIn K C = true
  cls : ∃ attr, findIn K (.ref C) name = some attr ∧ noGet K attr = true
structure KSet (K : Frag) (C : Addr) (name : Str) : Prop where
  set : findIn K (.ref C) "__setattr__" = some (some (.builtin "object.__setattr__"))
  plain : plainOver K C = true
  taker : takerIn K C name = some none
  dict : hasDictIn K C = true
structure KMeth (K : Frag) (C : Addr) (name : Str) (f : Addr) : Prop where
  get : plainGet K C name = true
  cls : findIn K (.ref C) name = some (some (.ref f))
  fn : isFn K (.ref f) = true
  keep : keepIn K (.ref f) = true
theorem VM.handed {mu : Addr → Prop} {h : Heap} {v : Value} {d : V} (x : VM mu h v d) (hd : ∀ w, d ≠ .lit w) : handedIn v = true := by
  cases x <;> first | rfl | exact absurd rfl (hd _)
theorem inst_at {a C dx : Addr} {fs : List (Str × V)} {h : Heap} (st : St X σ h) (h1 : σ.hp a = some (.inst C dx)) (h2 : σ.hp dx = some (.dict fs)) : ∃ es k, InstAt h a (instObj C dx) C (some (dictOf es k)) ∧ Ents σ.mu h es fs ∧ es.length ≤ 100 := by
  obtain ⟨g1, _⟩ := st.own a _ h1
  obtain ⟨⟨es, k, g2, en, hl⟩, _⟩ := st.own dx _ h2
  exact ⟨es, k, ⟨g1, rfl, rfl, g2⟩, en, hl⟩
theorem get_field {a C dx : Addr} {fs : List (Str × V)} {name : Str} {d : V} {ex : Bool} {Q : V → S → Prop} (ok : Ok X n) (h1 : σ.hp a = some (.inst C dx)) (h2 : σ.hp dx = some (.dict fs)) (kg : KGet X.K C name)
    (hd : lk fs name = some d) (hl : ∀ w, d ≠ .lit w) (q : Q d σ) : Op1 X (fun v => getAttr v name ex) (.ref a) σ Q E := by
  intro v s st vm
  cases vm
  obtain ⟨m, F, _⟩ := st.fr ok
  obtain ⟨es, k, I, en, _⟩ := inst_at st h1 h2
  obtain ⟨w, e, wm⟩ := en.getL.1 d hd
  obtain ⟨attr, c1, c2⟩ := kg.cls
  exact get_own F ok.inK I kg.get kg.dict c1 c2 e (wm.handed hl) (qw_same st _ wm q)
theorem W_Attr {x attr : Str} {xp pos : Pos} {Q : V → S → Prop} (h : WE X (.Name x xp) σ (fun a σ₁ => Op1 X (fun v => getAttr v attr true) a σ₁ Q E) E) : WE X (.Attribute (.Name x xp) attr pos) σ Q E := fun _ st =>
  Attribute_name (h.run (Post.refl st) fun _ _ _ _ _ P₁ va h₁ => h₁.go P₁ va)
theorem set_field {a C dx : Addr} {fs : List (Str × V)} {name : Str} {d : V} {Q : Unit → S → Prop} (ok : Ok X n) (h1 : σ.hp a = some (.inst C dx)) (h2 : σ.hp dx = some (.dict fs)) (ks : KSet X.K C name)
    (hlen : fs.length ≤ 90) (q : Q () { σ with hp := upd σ.hp dx (.dict (updF fs name d)) }) {σ₀ : S} {s₀ s : Shared} (P : Post X σ₀ s₀ σ s) {v : Value} (vm : VM σ.mu s.heap v d) :
    wpAny (model X.prog X.w) X.A (setAttr (.ref a) name v) (Qw X σ₀ s₀ RU Q) (Ew X σ₀ s₀ E) s := by
  have st := P.st
  obtain ⟨m, F, hm⟩ := st.fr ok
  obtain ⟨es, k, I, en, _⟩ := inst_at st h1 h2
  have hl : (PySem.W.getL name es).isSome = true := by
    cases e : lk fs name with
    | none => rw [en.getL.2 e]; rfl
    | some d' => obtain ⟨w, e', _⟩ := en.getL.1 d' e; rw [e']; rfl
  obtain ⟨⟨es₂, k₂, g2, _⟩, nb⟩ := st.own dx _ h2
  have g2' : s.heap.get? dx = some (dictOf es k) := I.dict
  have dL : dx ≠ X.env.locals := fun e => st.locOff (by rw [← e]; show σ.hp dx ≠ none; rw [h2]; exact Option.some_ne_none _)
  have N : News X.base X.env.locals s.heap ((dx, dictOf es k) :: restOf X.base s.heap X.env.locals dx) := fun p hp => by
    rcases List.mem_cons.mp hp with rfl | hp
    · exact ⟨g2', dL, nb⟩
    · exact restOf_news p hp
  have el := en.length
  have en' := en.put (name := name) (hs := PyData.keyHash X.w.params name) (tk := s.toks + 1) vm
  have el' := en'.length
  have ul := updF_length fs name d
  refine set_dict F ok.inK N I rfl ks.set ks.plain ks.taker ks.dict hl rfl (Upd.head fun p hp => (restOf_mem hp).2.2.1) (by omega) fun h' F' N' => ?_
  refine ⟨(), _, P.trans (post_write ok st (kept_of F' st.base (fun p hp => N' p (.tail _ hp))) ⟨m, F'.ns, hm⟩ (.inl (by rw [h2]; exact Option.some_ne_none _)) fun _ me _ => ?_), trivial, q⟩
  exact ⟨_, _, (N' _ (.head _)).1, me _ _ en', by omega⟩
end
end Mine
namespace Mine
open PySem PySem.W PySem.Calls PySem.Spec PyProof.Rows
section
variable {X : Cx} {n : Nat} {σ : S} {E : Value → S → Prop}
noncomputable def Cx.frs (X : Cx) : List Addr := (X.fenv :: X.outer).filterMap (·.frame)
theorem frs_of {h : Heap} (st : St X σ h) {b : Addr} (hb : b ∈ X.frs) : X.base.get? b = none ∧ ¬ σ.mu b ∧ ∃ o es ep, h.get? b = some o ∧ o.data = .dict es ep := by
  obtain ⟨e, he, hf⟩ := List.mem_filterMap.mp hb
  obtain ⟨_, L, o, es, ep, hf', hn, hm, g, d⟩ := st.frs e he
  rw [hf'] at hf
  cases hf
  exact ⟨hn, hm, o, es, ep, g, d⟩
theorem post_slots {s : Shared} {h' : Heap} {tk : Nat} {bad : List Addr} (st : St X σ s.heap) (k1 : ∀ b o, s.heap.get? b = some o → b ∉ X.frs → b ∉ bad → h'.get? b = some o) (k2 : s.heap.UpToSlots h')
    (hb : ∀ b ∈ bad, (X.base.get? b = none ∧ ¬ σ.mu b) ∧ b ∉ X.prot ∧ ∃ o vs, s.heap.get? b = some o ∧ o.data = .fields vs) : Post X σ s σ { s with heap := h', toks := tk } := by
  have nf : ∀ b o, s.heap.get? b = some o → (∀ es ep, o.data ≠ .dict es ep) → b ∉ X.frs := fun b o g q hm => by
    obtain ⟨_, _, o', es, ep, g', d⟩ := frs_of st hm
    rw [g] at g'; cases g'; exact q _ _ d
  have nb : ∀ b o, s.heap.get? b = some o → (∀ vs, o.data ≠ .fields vs) → b ∉ bad := fun b o g q hm => by
    obtain ⟨_, _, o', vs, g', d⟩ := hb b hm
    rw [g] at g'; cases g'; exact q _ d
  have x : Ext X.env.locals X.prot σ.mu s.heap σ.mu h' := by
    refine ⟨fun a o g nm q => ⟨k1 a o g (nf a o g ?_) (nb a o g ?_), nm⟩, fun a o g nm _ q => ⟨nm, k2 a o g q⟩, fun a ha o g => ?_⟩
    · intro es ep d; rw [d] at q; exact q
    · intro vs d; rw [d] at q; exact q
    · obtain ⟨z, o', vs, g', d, _⟩ := st.prot a ha
      rw [g] at g'; cases g'
      exact ⟨k1 a o g (nf a o g fun es ep d' => by rw [d] at d'; cases d') (fun hm => (hb a hm).2.1 ha), z⟩
  refine ⟨⟨h', tk, rfl⟩, x, ⟨fun b o e => k1 b o (st.base b o e) (fun hm => ?_) (fun hm => ?_), ?_, fun a o e => ?_, st.locOff, fun a ha => ?_, fun e he => ?_⟩⟩
  · have := (frs_of st hm).1; rw [e] at this; cases this
  · have := (hb b hm).1.1; rw [e] at this; cases this
  · obtain ⟨m, hn, hm⟩ := st.names
    exact ⟨m, k2.ns hn, fun y d e => let ⟨v, q, r⟩ := hm y d e; ⟨v, q, r.mono x⟩⟩
  · obtain ⟨y, z⟩ := st.own a o e
    obtain ⟨ob, g⟩ := y.there
    exact ⟨y.mono x ((k1 a ob g (fun hm => (frs_of st hm).2.1 (by show σ.hp a ≠ none; rw [e]; exact Option.some_ne_none _)) (fun hm => (hb a hm).1.2 (by show σ.hp a ≠ none; rw [e]; exact Option.some_ne_none _))).trans g.symm), z⟩
  · obtain ⟨z, o', vs, g', d⟩ := st.prot a ha
    exact ⟨z, o', vs, (x.watch a ha o' g').1, d⟩
  · obtain ⟨z, L, o, es, ep, hf, hn, hm, g, d⟩ := st.frs e he
    obtain ⟨sl, g'⟩ := k2 L o g fun vs q => by rw [d] at q; cases q
    exact ⟨z, L, _, es, ep, hf, hn, hm, g', d⟩
noncomputable def ExcTb (X : Cx) (mu : Addr → Prop) (h : Heap) (e : Addr) (cls fl : Value) : Prop :=
  (X.base.get? e = none ∧ ¬ mu e) ∧ e ∉ X.prot ∧ ∃ oe vs a0 T oT ts, h.get? e = some oe ∧ oe.cls = cls ∧ oe.data = .fields vs ∧ (vs[0]? = some a0 ∧ Ctx0 cls vs) ∧ vs[1]? = some (.ref T) ∧ (X.base.get? T = none ∧ ¬ mu T) ∧ T ∉ X.prot ∧ T ≠ e ∧
    h.get? T = some oT ∧ oT.data = .fields ts ∧ ts[3]? = some fl
theorem ExcTb.own {mu : Addr → Prop} {h : Heap} {e : Addr} {cls : Value} (x : ExcTb X mu h e cls (rawInt X.L)) : ExcAt X mu h e cls := by
  obtain ⟨a, b, oe, vs, a0, T, oT, ts, g, c, d, v0, v1, bT, pT, ne, gT, dT, v3⟩ := x
  exact ⟨a, b, oe, vs, a0, g, c, d, v0, .inr ⟨T, oT, ts, v1, bT, pT, ne, gT, dT, .inr v3⟩⟩
theorem set_flight {s : Shared} {e : Addr} {cls fl : Value} {fr : Option Addr} {Q : Unit → Shared → Prop} {E' : Value → Shared → Prop} {A : Around} (st : St X σ s.heap) (x : ExcTb X σ.mu s.heap e cls fl)
    (h : ∀ h', Post X σ s σ { s with heap := h' } → ExcTb X σ.mu h' e cls (fr.elim .none fun f => rawInt f) → Q () { s with heap := h' }) : wpAny (model X.prog X.w) A (setFlight (.ref e) fr) Q E' s := by
  obtain ⟨be, pe, oe, vs, a0, T, oT, ts, g, c, d, v0, v1, bT, pT, ne, gT, dT, v3⟩ := x
  have hsz3 : 3 < ts.size := (Array.getElem?_eq_some_iff.mp v3).1
  have other : ∀ b, b ≠ T → (s.heap.update T (Obj.mapFields (·.setIfInBounds 3 (fr.elim Value.none fun f => rawInt f)))).get? b = s.heap.get? b :=
    fun b hb => Heap.get?_update_other _ _ (Ne.symm hb)
  unfold setFlight
  refine wpAny_bind (wpAny_field g d v1 ?_)
  rw [if_pos (show (Value.ref T != Value.none) = true from by simp)]
  refine wpAny_setField gT dT hsz3 (h _ ?_ ?_)
  · refine post_slots (bad := [T]) st (fun b o g' _ nb => (other b fun q => nb (by simp [q])).trans g') (fun b o g' nf => ⟨o.slots, (other b fun q => ?_).trans g'⟩) fun b hb => ?_
    · rw [q, gT] at g'; cases g'; exact nf _ dT
    · rw [List.mem_singleton.mp hb]; exact ⟨bT, pT, oT, ts, gT, dT⟩
  · exact ⟨be, pe, oe, vs, a0, T, _, _, (other e (Ne.symm ne)).trans g, c, d, v0, v1, bT, pT, ne, Heap.get?_update_self _ gT (Obj.isFreed_of_fields (Obj.data_mapFields dT _)), Obj.data_mapFields dT _, by simp [hsz3]⟩
theorem entry_new {s : Shared} {e : Addr} {oe : Obj} {vs : Array Value} {head : Value} {hadNext : Bool} {Q : Unit → Shared → Prop} {E' : Value → Shared → Prop} {A : Around} (ok : Ok X n) (st : St X σ s.heap) (hA : A.frames = some (X.fenv :: X.outer))
    (he : s.heap.get? e = some oe) (hd : oe.data = .fields vs) (hsz : 1 < vs.size)
    (h : ∀ h' T ts, (∀ b o, b ≠ e → b ∉ X.frs → s.heap.get? b = some o → h'.get? b = some o) → s.heap.UpToSlots h' → s.heap.get? T = none → T ≠ e → h'.get? e = some (oe.mapFields (·.setIfInBounds 1 (.ref T))) →
      (∃ oT, h'.get? T = some oT ∧ oT.data = .fields ts) → ts[3]? = some (rawInt X.L) → Q () { s with heap := h' }) :
    wpAny (model X.prog X.w) A (do let a ← frameOf X.fenv; let pl ← entryPlaceOf X.L hadNext; let b ← EntryCells.newEntry head a .none (rawInt X.L) .none pl; setField (.ref e) 1 b) Q E' s := by
  have hl := funs_of st.frs
  have hene : e ∉ X.frs := fun hm => by
    obtain ⟨_, _, o', es, ep, g', d'⟩ := frs_of st hm
    rw [he] at g'; cases g'; rw [hd] at d'; cases d'
  refine wpAny_bind (wpAny_frameOf_fun hA hl ok.frame fun h₁ hs₁ => ?_)
  refine wpAny_bind (wpAny_entryPlaceOf fun pl hpl => ?_)
  unfold EntryCells.newEntry newFields
  refine wpAny_bind (wpAny_newObj_type ?_ (hpl.sizeOk5 _ _ _ _ _))
  generalize hts : ([head, .ref X.L, .none, rawInt X.L, .none] ++ (if pl.isEmpty then List.replicate 6 Value.none else pl)).toArray = ts
  have he₁ : h₁.get? e = some oe := (hs₁.2.1 e hene).trans he
  have he₂ := Heap.get?_push_of_some (h := h₁) { cls := .type "traceback", dict := none, data := .fields ts } he₁
  have hTe : h₁.objs.size ≠ e := Nat.ne_of_gt (Heap.lt_size he₁)
  have hd₃ := Obj.data_mapFields hd (·.setIfInBounds 1 (Value.ref h₁.objs.size))
  have keep : ∀ b o, b ≠ e → h₁.get? b = some o → ((h₁.push { cls := .type "traceback", dict := none, data := .fields ts }).update e (Obj.mapFields (·.setIfInBounds 1 (Value.ref h₁.objs.size)))).get? b = some o := fun b o hbe hb => by
    rw [Heap.get?_update_other _ _ (Ne.symm hbe)]
    exact Heap.get?_push_of_some _ hb
  refine wpAny_setField he₂ hd hsz (h _ h₁.objs.size ts (fun b o ne nf g => keep b o ne ((hs₁.2.1 b nf).trans g)) (fun b o g nf => ?_) ?_ hTe ?_ ⟨{ cls := .type "traceback", dict := none, data := .fields ts }, ?_, rfl⟩ ?_)
  · obtain ⟨sl, g'⟩ := hs₁.2.2 b o g
    exact ⟨sl, keep b _ (fun q => by rw [q, he] at g; cases g; exact nf _ hd) g'⟩
  · rw [hs₁.1]; exact Heap.get?_none_of_le (Nat.le_refl _)
  · exact Heap.get?_update_self _ he₂ (Obj.isFreed_of_fields hd₃)
  · exact (Heap.get?_update_other _ _ (Ne.symm hTe)).trans (Heap.get?_push_size h₁ rfl)
  · rw [← hts]; simp
theorem note_any {s : Shared} {e : Addr} {cls : Value} {Q : Unit → Shared → Prop} {E' : Value → Shared → Prop} (ok : Ok X n) (he : X.env = X.fenv) (st : St X σ s.heap) (x : ExcAt X σ.mu s.heap e cls)
    (h : ∀ h', Post X σ s σ { s with heap := h' } → ExcTb X σ.mu h' e cls (rawInt X.L) → Q () { s with heap := h' }) {A : Around} (hA : A.frames = some (X.fenv :: X.outer)) : wpAny (model X.prog X.w) A (noteFrame (.ref e) X.env) Q E' s := by
  obtain ⟨be, pe, oe, vs, a0, g, c, d, ⟨v0, c0⟩, hx⟩ := x
  rw [he]
  have fin : ∀ (s₁ : Shared), Post X σ s σ s₁ → s₁.heap.get? e = some oe → ∀ h' T ts, (∀ b o, b ≠ e → b ∉ X.frs → s₁.heap.get? b = some o → h'.get? b = some o) → s₁.heap.UpToSlots h' → s₁.heap.get? T = none → T ≠ e →
      h'.get? e = some (oe.mapFields (·.setIfInBounds 1 (.ref T))) → (∃ oT, h'.get? T = some oT ∧ oT.data = .fields ts) → ts[3]? = some (rawInt X.L) → 1 < vs.size → Post X σ s σ { s₁ with heap := h' } ∧ ExcTb X σ.mu h' e cls (rawInt X.L) := by
    intro s₁ P₁ g₁ h' T ts k1 k2 gT hTe ge ⟨oT, gT', dT⟩ t3 hsz
    refine ⟨P₁.trans (post_slots (bad := [e]) P₁.st (fun b o gb n1 n2 => k1 b o (fun q => n2 (by simp [q])) n1 gb) k2 fun b hb => by rw [List.mem_singleton.mp hb]; exact ⟨be, pe, oe, vs, g₁, d⟩), ?_⟩
    refine ⟨be, pe, _, _, a0, T, oT, ts, ge, (Obj.cls_mapFields _ _).trans c, Obj.data_mapFields d _, ⟨by rw [Array.getElem?_setIfInBounds_ne (by decide)]; exact v0, fun q => by rw [Array.getElem?_setIfInBounds_ne (by decide)]; exact c0 q⟩, by simp [hsz], ?_, fun hp => ?_, hTe, gT', dT, t3⟩
    · refine ⟨?_, fun hm => ?_⟩
      · cases q : X.base.get? T with
        | none => rfl
        | some o => have := P₁.st.base T o q; rw [gT] at this; cases this
      · cases q : σ.hp T with
        | none => exact hm q
        | some o =>
          obtain ⟨ob, g⟩ := (P₁.st.own T o q).1.there
          rw [gT] at g; cases g
    · obtain ⟨_, o, ws, gp, _⟩ := P₁.st.prot T hp
      rw [gT] at gp; cases gp
  rcases hx with v1 | ⟨T, oT, ts, v1, bT, pT, ne, gT, dT, v3 | v3⟩
  · have hsz := (Array.getElem?_eq_some_iff.mp v1).1
    unfold noteFrame
    simp only [ok.frame]
    refine wpAny_bind (wpAny_field g d v1 ?_)
    rw [if_neg (by decide)]
    refine entry_new ok st hA g d hsz fun h' T ts k1 k2 gT hTe ge gT' t3 => ?_
    obtain ⟨P, x⟩ := fin s (Post.refl st) g h' T ts k1 k2 gT hTe ge gT' t3 hsz
    exact h h' P x
  · have hsz := (Array.getElem?_eq_some_iff.mp v1).1
    unfold noteFrame
    simp only [ok.frame]
    refine wpAny_bind (wpAny_field g d v1 ?_)
    rw [if_pos (show (Value.ref T != Value.none) = true from by simp)]
    refine wpAny_bind (wpAny_field gT dT v3 ?_)
    rw [if_neg (show ¬ ((Value.none == rawInt X.L) = true) from by simp [rawInt])]
    have other : ∀ b, b ≠ T → (s.heap.update T (Obj.mapFields (·.setIfInBounds 3 Value.none))).get? b = s.heap.get? b := fun b hb => Heap.get?_update_other _ _ (Ne.symm hb)
    refine wpAny_bind (wpAny_setField gT dT (Array.getElem?_eq_some_iff.mp v3).1 ?_)
    have P₁ : Post X σ s σ { s with heap := s.heap.update T (Obj.mapFields (·.setIfInBounds 3 Value.none)) } :=
      post_slots (tk := s.toks) (bad := [T]) st (fun b o g' _ nb => (other b fun q => nb (by simp [q])).trans g') (fun b o g' nf => ⟨o.slots, (other b fun q => by rw [q, gT] at g'; cases g'; exact nf _ dT).trans g'⟩) fun b hb => by
        rw [List.mem_singleton.mp hb]; exact ⟨bT, pT, oT, ts, gT, dT⟩
    have g₁ := (other e (Ne.symm ne)).trans g
    refine entry_new ok P₁.st hA g₁ d hsz fun h' T' ts' k1 k2 gT₂ hTe ge gT' t3 => ?_
    obtain ⟨P, x⟩ := fin _ P₁ g₁ h' T' ts' k1 k2 gT₂ hTe ge gT' t3 hsz
    exact h h' P x
  · refine wpAny_noteFrame_againW (base := X.base) (cls := cls) (a0 := a0) ok.frame ⟨oe, vs, T, oT, ts, g, ⟨c, v0⟩, d, v1, bT.1, ne, gT, dT, v3⟩ ?_
    exact h s.heap ⟨⟨s.heap, s.toks, rfl⟩, Ext.refl _ _ _ _ st.protOff, st⟩ ⟨be, pe, oe, vs, a0, T, oT, ts, g, c, d, ⟨v0, c0⟩, v1, bT, pT, ne, gT, dT, v3⟩
theorem leave_any {s : Shared} {e : Addr} {cls : Value} {Q : Unit → Shared → Prop} {E' : Value → Shared → Prop} (ok : Ok X n) (he : X.env = X.fenv) (st : St X σ s.heap) (x : ExcAt X σ.mu s.heap e cls)
    (h : ∀ h', Post X σ s σ { s with heap := h' } → ExcTb X σ.mu h' e cls .none → Q () { s with heap := h' }) : wpAny (model X.prog X.w) X.A (leaving X.env (.ref e)) Q E' s := by
  unfold leaving
  refine wpAny_bind (note_any ok he st x (fun h₁ P₁ x₁ => ?_) ok.frames)
  exact set_flight (fr := none) P₁.st x₁ fun h₂ P₂ x₂ => h h₂ (P₁.trans P₂) x₂
end
end Mine
namespace Mine
open PySem PySem.W PySem.Calls PySem.Spec PyProof.Rows
section
variable {X : Cx} {n : Nat} {σ : S} {E : Value → S → Prop}
noncomputable def Cx.into (X : Cx) (A' : Around) (fd : FuncData) (f L : Addr) : Cx :=
  { X with A := A'.deeper (callEnv fd L f), env := callEnv fd L f, fenv := callEnv fd L f, L := L, outer := X.fenv :: X.outer }
structure FnIs (K : Frag) (f : Addr) (fd : FuncData) (body : List Stmt) : Prop where
  at_ : ∃ oc od osl, K.lookup f = some ⟨oc, od, .func fd, osl⟩
  code : codeIn K fd.code fd.qualname = true
  body : fd.body = .stmts body
  glob : fd.globals = mainGlobals
  bult : fd.builtins = builtinsNs
  kind : fd.scope.kind = .function
  co : fd.scope.isCoroutine = false
  gen : fd.scope.isGenerator = false
  cell : ∀ x ∈ fd.scope.names, x.2 ≠ .cell
structure Under (X : Cx) (A' : Around) : Prop where
  frames : A'.frames = X.A.frames
  depth : A'.depth ≤ X.A.depth + 1
  units : A'.units ≤ X.A.units + 10
  handled : A'.handled = X.A.handled
theorem Under.self : Under X X.A := ⟨rfl, Nat.le_succ _, Nat.le_add_right _ _, rfl⟩
theorem ok_into {A' : Around} {fd : FuncData} {f L : Addr} {body : List Stmt} (ok : Ok X (n + 1)) (hf : FnIs X.K f fd body) (hA : Under X A') (hL : X.base.objs.size ≤ L) (hp : L ∉ X.prot) : Ok (X.into A' fd f L) n where
  inK := ok.inK
  top := ok.top
  frames := Around.frames_deeper (hA.frames.trans ok.frames)
  frame := rfl
  eframe := rfl
  kind := hf.kind
  genv := hf.glob
  benv := hf.bult
  above := hL
  locProt := hp
  handled := hA.handled.trans ok.handled
  ctxIn := ok.ctxIn
  depth := by
    have := ok.depth
    have := hA.depth
    show A'.depth + 1 + 2 * n + 8 < _
    omega
  units := by
    have := ok.units
    have := hA.units
    show A'.units + 3 + 20 * n + 300 < _
    omega
theorem enter {A' : Around} {fd : FuncData} {f : Addr} {body : List Stmt} {s : Shared} {h₀ : Heap} {m : Str → Option Value} {loc0 : List (Str × V)} (hf : FnIs X.K f fd body) (st : St X σ s.heap) (hn : h₀.Ns s.heap.objs.size m) (k : ∀ b o, s.heap.get? b = some o → h₀.get? b = some o)
    (hm : ∀ x d, lk loc0 x = some d → ∃ v, m x = some v ∧ VM σ.mu s.heap v d) : St (X.into A' fd f s.heap.objs.size) ⟨loc0, σ.hp⟩ h₀ := by
  have x : Ext X.env.locals X.prot σ.mu s.heap σ.mu h₀ := Ext.keeps st.protOff k
  have bn : X.base.get? s.heap.objs.size = none := by
    cases q : X.base.get? s.heap.objs.size with
    | none => rfl
    | some o => exact absurd (Heap.lt_size (st.base _ o q)) (Nat.lt_irrefl _)
  refine ⟨fun b o e => k b o (st.base b o e), ⟨m, hn, fun y d e => let ⟨v, q, r⟩ := hm y d e; ⟨v, q, r.mono x⟩⟩, fun a o e => ?_, new_off (σ := σ) st, fun a ha => ?_, fun e he => ?_⟩
  · obtain ⟨y, z⟩ := st.own a o e
    obtain ⟨ob, g⟩ := y.there
    exact ⟨y.mono x ((k a ob g).trans g.symm), z⟩
  · obtain ⟨z, o, vs, g, d⟩ := st.prot a ha
    exact ⟨z, o, vs, k a o g, d⟩
  · rcases List.mem_cons.mp he with rfl | he
    · obtain ⟨o, es, ep, g, d, _⟩ := hn
      exact ⟨by show fd.scope.kind ≠ .module; rw [hf.kind]; decide, _, o, es, ep, rfl, bn, new_off (σ := σ) st, g, d⟩
    · obtain ⟨z, L, o, es, ep, hfr, hb, hmu, g, d⟩ := st.frs e he
      exact ⟨z, L, o, es, ep, hfr, hb, hmu, k L o g, d⟩
theorem post_back {A' : Around} {fd : FuncData} {f : Addr} {s s' : Shared} {h₀ : Heap} {loc0 : List (Str × V)} {tk : Nat} {σ' : S} (st : St X σ s.heap) (k : ∀ b o, s.heap.get? b = some o → h₀.get? b = some o)
    (P : Post (X.into A' fd f s.heap.objs.size) ⟨loc0, σ.hp⟩ { s with heap := h₀, toks := tk } σ' s') : Post X σ s ⟨σ.loc, σ'.hp⟩ s' := by
  obtain ⟨h', tk', e⟩ := P.upd
  have lt : ∀ a o, s.heap.get? a = some o → a ≠ s.heap.objs.size := fun a o g => Nat.ne_of_lt (Heap.lt_size g)
  have x : Ext X.env.locals X.prot σ.mu s.heap σ'.mu s'.heap := ⟨fun a o g nm q => P.ext.seq a o (k a o g) nm q, fun a o g nm l q => P.ext.obj a o (k a o g) nm (lt a o g) q, fun a ha o g => P.ext.watch a ha o (k a o g)⟩
  refine ⟨⟨h', tk', e⟩, x, ⟨P.st.base, ?_, P.st.own, ?_, P.st.prot, fun e he => P.st.frs e (.tail _ he)⟩⟩
  · obtain ⟨m, hn, hm⟩ := st.names
    obtain ⟨o, es, ep, g, d, r⟩ := hn
    obtain ⟨_, sl, g'⟩ := P.ext.obj _ o (k _ o g) st.locOff (lt _ o g) fun vs q => by rw [d] at q; cases q
    exact ⟨m, ⟨_, es, ep, g', d, r⟩, fun y d e => let ⟨v, q, r⟩ := hm y d e; ⟨v, q, r.mono x⟩⟩
  · obtain ⟨m, ⟨o, es, ep, g, d, r⟩, hm⟩ := st.names
    exact (P.ext.obj _ o (k _ o g) st.locOff (lt _ o g) fun vs q => by rw [d] at q; cases q).1
noncomputable def retV : FV → V
  | .ret d => d
  | _ => .none
theorem code_fn {fd : FuncData} {f : Addr} {body : List Stmt} {A' : Around} {R : Result → Shared → Prop} {s : Shared} {args : Args} {binds : List (Str × Value)} {loc0 : List (Str × V)} {Qb : FV → S → Prop} {Eb : Value → S → Prop}
    (ok : Ok X (n + 1)) (hf : FnIs X.K f fd body) (hA : Under X A') (st : St X σ s.heap) (hb : BindsTo s fd args binds) (hl : ∀ y ∈ binds, fd.scope.names.lookup y.1 = some .local)
    (hm : ∀ x d, lk loc0 x = some d → ∃ v, binds.reverse.lookup x = some v ∧ VM σ.mu s.heap v d)
    (h : ∀ L, Ok (X.into A' fd f L) n → WXs (X.into A' fd f L) body ⟨loc0, σ.hp⟩ Qb Eb)
    (ret : ∀ v s' fl σ', Post X σ s ⟨σ.loc, σ'.hp⟩ s' → VM σ'.mu s'.heap v (retV fl) → Qb fl σ' → R (.ok (.ret v)) s')
    (exc : ∀ e s' cls σ', Post X σ s ⟨σ.loc, σ'.hp⟩ s' → ExcAt X σ'.mu s'.heap e cls → Eb cls σ' → R (.error (.ref e)) s') : codeAny (model X.prog X.w) A' (.call (.ref f) args) R s := by
  obtain ⟨oc, od, osl, hat⟩ := hf.at_
  have inK := ok.inK.keeps st.base
  have hroom : A'.depth < recursionLimit := by have := ok.depth; have := hA.depth; omega
  refine codeAny_call_def (fd := fd) (body := body) (binds := binds) hroom (inK _ _ hat) rfl (ok.top.nolimit.keeps st.base) (codeRec_of inK hf.code) hf.body hb hf.cell hl (fun h₀ hn hk => ?_) hf.co hf.gen hf.kind
  have bL : X.base.objs.size ≤ s.heap.objs.size := by
    obtain ⟨m, hn, _⟩ := st.names
    exact Nat.le_trans ok.above (Nat.le_of_lt hn.lt)
  have pL : s.heap.objs.size ∉ X.prot := fun hp => by
    obtain ⟨_, o, vs, g, _⟩ := st.prot _ hp
    exact absurd (Heap.lt_size g) (Nat.lt_irrefl _)
  have ok' := ok_into (L := s.heap.objs.size) ok hf hA bL pL
  have st' := enter (A' := A') hf st hn hk hm
  refine wpAny_mono (h s.heap.objs.size ok' _ st') (fun fl s' q => ?_) fun e s' q => ?_
  · obtain ⟨g, σ', P, r, q⟩ := q
    have P' := post_back st hk P
    refine ret _ s' g σ' P' ?_ q
    cases fl <;> cases g <;> first | exact r.elim | exact VM.none | exact r
  · obtain ⟨ea, cls, σ', P, rfl, x, q⟩ := q
    refine leave_any ok' rfl P.st x fun h' P₂ x₂ => ?_
    have P' := post_back st hk (P.trans P₂)
    refine exc ea _ cls σ' P' ?_ q
    obtain ⟨a, b, oe, vs, a0, T, oT, ts, g, c, d, v0, v1, bT, pT, ne, gT, dT, v3⟩ := x₂
    exact ⟨a, b, oe, vs, a0, g, c, d, v0, .inr ⟨T, oT, ts, v1, bT, pT, ne, gT, dT, .inl v3⟩⟩
noncomputable def Call (X : Cx) (f : Value) (ds : List V) (σ : S) (Q : V → S → Prop) (E : Value → S → Prop) : Prop :=
  ∀ vs s, St X σ s.heap → VMs σ.mu s.heap vs ds → wpAny (model X.prog X.w) X.A (call f vs) (Qw X σ s VM Q) (Ew X σ s E) s
theorem Call.fn {fd : FuncData} {f : Addr} {body : List Stmt} {ds : List V} {loc0 : List (Str × V)} {Q : V → S → Prop} (ok : Ok X (n + 1)) (hf : FnIs X.K f fd body)
    (hb : ∀ vs s, St X σ s.heap → VMs σ.mu s.heap vs ds → ∃ binds, BindsTo s fd ⟨vs, []⟩ binds ∧ (∀ y ∈ binds, fd.scope.names.lookup y.1 = some .local) ∧ (∀ x d, lk loc0 x = some d → ∃ v, binds.reverse.lookup x = some v ∧ VM σ.mu s.heap v d))
    (h : ∀ L, Ok (X.into X.A fd f L) n → WXs (X.into X.A fd f L) body ⟨loc0, σ.hp⟩ (fun fl σ' => Q (retV fl) ⟨σ.loc, σ'.hp⟩) (fun c σ' => E c ⟨σ.loc, σ'.hp⟩)) : Call X (.ref f) ds σ Q E := by
  intro vs s st vm
  obtain ⟨binds, h1, h2, h3⟩ := hb vs s st vm
  refine wpAny_call (code_fn ok hf Under.self st h1 h2 h3 h (fun v s' fl σ' P r q => ?_) fun e s' cls σ' P x q => ?_)
  · exact ⟨retV fl, _, P, r, q⟩
  · exact ⟨e, cls, _, P, rfl, x, q⟩
theorem binds_place {fd : FuncData} {names : List Str} {ds : List V} {mu : Addr → Prop} {s : Shared} (hb : ∀ vs : List Value, vs.length = names.length → BindsTo s fd ⟨vs, []⟩ (names.zip vs)) (hl : (names.all fun x => fd.scope.names.lookup x == some .local) = true) (hn : names.Nodup) (hlen : ds.length = names.length)
    {vs : List Value} (vm : VMs mu s.heap vs ds) : ∃ binds, BindsTo s fd ⟨vs, []⟩ binds ∧ (∀ y ∈ binds, fd.scope.names.lookup y.1 = some .local) ∧ (∀ x d, lk (names.zip ds) x = some d → ∃ v, binds.reverse.lookup x = some v ∧ VM mu s.heap v d) := by
  refine ⟨names.zip vs, hb vs (vm.length.trans hlen), fun y hy => ?_, fun x d e => ?_⟩
  · have := List.all_eq_true.mp hl y.1 (List.of_mem_zip hy).1
    simpa using this
  · have rev : ∀ (l : List (Str × Value)), (l.map (·.1)).Nodup → ∀ x v, (x, v) ∈ l → l.reverse.lookup x = some v := by
      intro l hnd x v hm
      have hnd' : ((l.reverse).map (·.1)).Nodup := by rw [List.map_reverse]; exact (List.reverse_perm _).nodup_iff.mpr hnd
      have hm' : (x, v) ∈ l.reverse := List.mem_reverse.mpr hm
      generalize l.reverse = r at hnd' hm'
      induction r with
      | nil => cases hm'
      | cons p r ih =>
        rw [List.map_cons, List.nodup_cons] at hnd'
        rcases List.mem_cons.mp hm' with rfl | hm'
        · simp [List.lookup]
        · have : x ≠ p.1 := fun q => hnd'.1 (q ▸ List.mem_map.mpr ⟨(x, v), hm', rfl⟩)
          rw [List.lookup_cons, show (x == p.1) = false from by simpa using this]
          exact ih hnd'.2 hm'
    have key : ∀ (ns : List Str) (vs : List Value) (ds : List V), VMs mu s.heap vs ds → ns.length = ds.length → lk (ns.zip ds) x = some d → ∃ v, (x, v) ∈ ns.zip vs ∧ VM mu s.heap v d := by
      intro ns
      induction ns with
      | nil => intro vs ds _ _ e; simp [lk] at e
      | cons y ns ih =>
        intro vs ds vm hl e
        cases vm with
        | nil => simp at hl
        | @cons v vs d' ds a r =>
          by_cases q : x = y
          · subst q
            simp [lk, List.lookup] at e
            subst e
            exact ⟨v, by simp, a⟩
          · have e' : lk (ns.zip ds) x = some d := by
              simp only [lk, List.zip_cons_cons, List.lookup_cons, show (x == y) = false from by simpa using q] at e
              exact e
            obtain ⟨w, hm, wm⟩ := ih vs ds r (by simpa using hl) e'
            exact ⟨w, by simp [hm], wm⟩
    obtain ⟨v, hm, wm⟩ := key names vs ds vm hlen.symm e
    refine ⟨v, rev _ ?_ x v hm, wm⟩
    rw [List.map_fst_zip (by rw [vm.length, hlen]; exact Nat.le_refl _)]
    exact hn
noncomputable def Keeps (X : Cx) (f : Value) : Prop := ∀ h, X.K.In h → ∃ k, (k = Keeper.frame ∨ k = Keeper.machine ∨ k = Keeper.boundFrame) ∧ Looks (model X.prog X.w) h (keeperOf f) k
theorem keeps_of {f : Value} (e : keepIn X.K f = true) : Keeps X f := fun h x => keeps_K e h x
theorem keeps_builtin {id : String} : Keeps X (.builtin id) := fun _ _ => ⟨.machine, .inr (.inl rfl), Looks.of_pure rfl⟩
theorem keeps_type {id : String} : Keeps X (.type id) := fun _ _ => ⟨.machine, .inr (.inl rfl), Looks.of_pure rfl⟩
theorem call_with {pos : Pos} {f : Value} {first : List Value} {fd : List V} {trees : List (Bool × Sem Value)} {Q : V → S → Prop} (ok : Ok X n) (hk : Keeps X f) (hplain : trees.any (·.1) = false)
    (h : W X (spliced trees) VMs σ (fun ds σ₂ => Call X f (fd ++ ds) σ₂ Q E) E) {σ₀ : S} {s₀ s : Shared} (P : Post X σ₀ s₀ σ s) (fm : VMs σ.mu s.heap first fd) :
    wpAny (model X.prog X.w) X.A (callWith pos f first trees []) (Qw X σ₀ s₀ VM Q) (Ew X σ₀ s₀ E) s := by
  have fin : ∀ {A : Around}, A = X.A → wpAny (model X.prog X.w) A (evalArgs f true trees []) (fun a s₁ => X.K.In s₁.heap ∧ wpAny (model X.prog X.w) A (call f (first ++ a.pos) a.kw) (Qw X σ₀ s₀ VM Q) (Ew X σ₀ s₀ E) s₁) (Ew X σ₀ s₀ E) s := by
    rintro A rfl
    have main : wpAny (model X.prog X.w) X.A (spliced trees) (fun vs s₁ => X.K.In s₁.heap ∧ wpAny (model X.prog X.w) X.A (call f (first ++ vs) []) (Qw X σ₀ s₀ VM Q) (Ew X σ₀ s₀ E) s₁) (Ew X σ₀ s₀ E) s :=
      h.run P fun vs s₁ ds σ₁ p₁ P₁ vm c => ⟨P₁.st.inK ok, wpAny_mono (c _ s₁ P₁.st ((fm.mono p₁.ext).append vm)) (fun _ _ q => q.after P₁) fun _ _ q => q.after P₁⟩
    cases trees with
    | nil =>
      unfold evalArgs
      show wpAny _ _ (spliced [] >>= _) _ _ s
      refine wpAny_bind (wpAny_mono main (fun vs s' h' => ?_) fun _ _ x => x)
      refine wpAny_holding ?_
      exact wpAny_bind (wpAny_pure (wpAny_bind (wpAny_pure (wpAny_pure h'))))
    | cons t r =>
      obtain ⟨b, t⟩ := t
      cases b
      · exact evalArgs_plain main
      · simp at hplain
  exact callWith_of (P := X.K.In) (by rw [hplain]; rfl) hk (fin rfl)
theorem W_Call {x : Str} {np pos : Pos} {args : List Expr} {Q : V → S → Prop} (ok : Ok X n)
    (h : WE X (.Name x np) σ (fun f σ₁ => ∃ fv, f = .lit fv ∧ Keeps X fv ∧ W X (spliced (backTo pos (starEach args X.env))) VMs σ₁ (fun ds σ₂ => Call X fv ds σ₂ Q E) E) E)
    (hplain : ∀ env, (backTo pos (starEach args env)).any (·.1) = false) (hlit : ∀ {mu : Addr → Prop} {h : Heap} {v w : Value}, VM mu h v (.lit w) → v = w) : WE X (.Call (.Name x np) args [] pos) σ Q E := fun _ st =>
  wpAny_Call_NameR (h.run (Post.refl st) fun v s₁ f σ₁ _ P₁ vm h₁ => by
    obtain ⟨fv, rfl, hk, h₂⟩ := h₁
    cases hlit vm
    exact call_with (fd := []) ok hk (hplain _) h₂ P₁ .nil)
noncomputable def GetM (X : Cx) (a : V) (name : Str) (σ : S) (Q : Value → List V → S → Prop) (E : Value → S → Prop) : Prop :=
  ∀ v s pl, St X σ s.heap → VM σ.mu s.heap v a → wpAny (model X.prog X.w) X.A (getMethod v name pl) (fun r s' => ∃ ds σ', Post X σ s σ' s' ∧ VMs σ'.mu s'.heap r.2 ds ∧ Q r.1 ds σ') (Ew X σ s E) s
theorem W_Method {o : Expr} {name : Str} {apos pos : Pos} {args : List Expr} {Q : V → S → Prop} (ok : Ok X n)
    (h : WE X o σ (fun a σ₁ => GetM X a name σ₁ (fun f fd σ₂ => Keeps X f ∧ W X (spliced (backTo pos (starEach args X.env))) VMs σ₂ (fun ds σ₃ => Call X f (fd ++ ds) σ₃ Q E) E) E) E)
    (hbase : ∀ env, attributeBase o name env (eval o env) = eval o env)
    (hfew : ∀ env, ((backTo pos (starEach args env)).all (fun x => !x.1) && (backToKw pos (keywordEach [] env)).all (fun x => x.1.isSome)
      && decide (args.length + ([] : List Keyword).length + (if ([] : List Keyword).isEmpty then 0 else 1) < 30)) = true)
    (hline : (apos.endLine == pos.line) = true) (hplain : ∀ env, (backTo pos (starEach args env)).any (·.1) = false) : WE X (.Call (.Attribute o name apos) args [] pos) σ Q E := fun _ st => by
  rw [arm_eval_Call, hbase]
  refine wpAny_bind (h.run (Post.refl st) fun v s₁ a σ₁ _ P₁ vm h₁ => wpAny_bind (wpAny_standAt ?_))
  unfold methodCall calleeOf methodCallPos
  have e : methodCallForm (args.length + ([] : List Keyword).length) (backTo pos (starEach args X.env)) (backToKw pos (keywordEach [] X.env)) = true := hfew X.env
  rw [e]
  rw [if_pos rfl]
  dsimp only
  rw [hline]
  refine wpAny_bind (wpAny_holding (wpAny_mono (h₁ v s₁ _ P₁.st vm) (fun r s₂ q => ?_) fun _ _ q => q.after P₁))
  obtain ⟨ds, σ₂, P₂, rm, hk, h₃⟩ := q
  refine wpAny_bind (wpAny_pure ?_)
  exact call_with ok hk (hplain _) h₃ (P₁.trans P₂) rm
theorem getm_inst {a C dx f : Addr} {fs : List (Str × V)} {name : Str} {Q : Value → List V → S → Prop} (ok : Ok X n) (h1 : σ.hp a = some (.inst C dx)) (h2 : σ.hp dx = some (.dict fs)) (km : KMeth X.K C name f) (hd : lk fs name = none)
    (q : Q (.ref f) [.ref a] σ) : GetM X (.ref a) name σ Q E := by
  intro v s pl st vm
  cases vm
  obtain ⟨m, F, _⟩ := st.fr ok
  obtain ⟨es, k, I, en, _⟩ := inst_at st h1 h2
  exact method_inst F ok.inK I km.get km.cls km.fn (en.getL.2 hd) ⟨_, σ, Post.refl st, .cons (.ref a) .nil, q⟩
end
end Mine
namespace Mine
open PySem PySem.W PySem.Calls PySem.Spec PyProof.Rows
section
variable {X : Cx} {n : Nat} {σ : S} {E : Value → S → Prop}
noncomputable def Cx.mark (X : Cx) (e : Addr) (b : Bool) : Cx := { X with A := X.A.mark (some (.ref e)), prot := e :: X.prot, ctx := some (e, b) }
noncomputable def isB : Value → Bool
  | .type _ => true
  | _ => false
theorem st_mark {h : Heap} {e : Addr} {b : Bool} {o : Obj} {vs : Array Value} (st : St X σ h) (g : h.get? e = some o) (d : o.data = .fields vs) (hm : ¬ σ.mu e) (hb : b = true → vs[2]? = some .none) : St (X.mark e b) σ h := by
  refine ⟨st.base, st.names, st.own, st.locOff, fun a ha => ?_, st.frs⟩
  rcases List.mem_cons.mp ha with rfl | ha
  · exact ⟨hm, o, vs, g, d, fun q => hb (by cases q; rfl)⟩
  · obtain ⟨z, o', vs', g', d', c'⟩ := st.prot a ha
    refine ⟨z, o', vs', g', d', fun q => ?_⟩
    have q' : some (e, b) = some (a, true) := q
    cases q'
    rw [g] at g'
    cases g'
    rw [d] at d'
    cases d'
    exact hb rfl
theorem st_unmark {h h₀ : Heap} {e : Addr} {b : Bool} {σ₀ : S} (st : St (X.mark e b) σ h) (st₀ : St X σ₀ h₀) (w : ∀ a ∈ X.prot, ∀ o, h₀.get? a = some o → h.get? a = some o) : St X σ h :=
  ⟨st.base, st.names, st.own, st.locOff, fun a ha => by
    obtain ⟨z, _⟩ := st.prot a (.tail _ ha)
    obtain ⟨_, o, vs, g, r⟩ := st₀.prot a ha
    exact ⟨z, o, vs, w a ha o g, r⟩, st.frs⟩
theorem post_unmark {s s' : Shared} {σ' : S} {e : Addr} {b : Bool} (st : St X σ s.heap) (P : Post (X.mark e b) σ s σ' s') : Post X σ s σ' s' :=
  ⟨P.upd, ⟨P.ext.seq, P.ext.obj, fun a ha => P.ext.watch a (.tail _ ha)⟩, st_unmark P.st st fun a ha o g => (P.ext.watch a (.tail _ ha) o g).1⟩
theorem exc_unmark {mu : Addr → Prop} {h : Heap} {e e' : Addr} {b : Bool} {cls : Value} (x : ExcAt (X.mark e b) mu h e' cls) : ExcAt X mu h e' cls := by
  obtain ⟨a, pe, oe, vs, a0, g, c, d, v0, hx⟩ := x
  refine ⟨a, fun q => pe (.tail _ q), oe, vs, a0, g, c, d, v0, ?_⟩
  rcases hx with v1 | ⟨T, oT, ts, v1, bT, pT, r⟩
  · exact .inl v1
  · exact .inr ⟨T, oT, ts, v1, bT, (fun q => pT (.tail _ q)), r⟩
theorem ok_mark {e : Addr} {b : Bool} (ok : Ok X n) (he : e ≠ X.env.locals) : Ok (X.mark e b) n :=
  ⟨ok.inK, ok.top, ok.frames, ok.frame, ok.eframe, ok.kind, ok.genv, ok.benv, ok.above, (fun q => (List.mem_cons.mp q).elim (fun z => he z.symm) ok.locProt), rfl, (fun p q => by cases q; exact .head _), ok.depth, ok.units⟩
theorem came_back {s : Shared} {e : Addr} {cls : Value} (ok : Ok X n) (st : St X σ s.heap) (x : ExcTb X σ.mu s.heap e cls (rawInt X.L)) {σ₀ : S} {s₀ : Shared} (P : Post X σ₀ s₀ σ s) (q : E cls σ) :
    cameBackBy (model X.prog X.w) X.A X.env (Ew X σ₀ s₀ E) (.ref e) s := by
  have x' := x
  obtain ⟨be, pe, oe, vs, a0, T, oT, ts, g, c, d, v0, v1, bT, pT, ne, gT, dT, v3⟩ := x
  unfold cameBackBy
  refine wpAny_bind (wpAny_field g d v1 ?_)
  rw [if_neg (by simp)]
  rw [ok.eframe]
  exact set_flight (fr := some X.L) st x' fun h' P' x'' => ⟨e, cls, σ, P.trans P', rfl, x''.own, q⟩
theorem noted_back {s : Shared} {e : Addr} {cls : Value} (ok : Ok X n) (he : X.env = X.fenv) (st : St X σ s.heap) (x : ExcAt X σ.mu s.heap e cls) {σ₀ : S} {s₀ : Shared} (P : Post X σ₀ s₀ σ s) (q : E cls σ) {A : Around} (hA : A.frames = some (X.fenv :: X.outer)) :
    notedBy (model X.prog X.w) A X.env (cameBackBy (model X.prog X.w) X.A X.env (Ew X σ₀ s₀ E)) (.ref e) s := by
  unfold notedBy
  exact note_any ok he st x (fun h' P' x' => came_back ok P'.st x' (P.trans P') q) hA
noncomputable def Match (X : Cx) (cls c : Value) (b : Bool) : Prop := ∀ (A : Around) (s : Shared) (e : Addr) (oe : Obj) (Q : Bool → Shared → Prop) (E' : Value → Shared → Prop), X.K.In s.heap → s.heap.get? e = some oe → oe.cls = cls → Q b s → wpAny (model X.prog X.w) A (excMatches (.ref e) c) Q E' s
theorem match_builtin {T U : String} {b : Bool} (hexc : isSubtype (.type U) (.type "BaseException") = pure true) (hnt : isSubtype (.type ((Manifest.find? U).elim "type" fun x => x.metatype)) (.type "tuple") = pure false)
    (hsub : isSubtype (.type T) (.type U) = pure b) : Match X (.type T) (.type U) b := fun A s e oe Q E' _ g c q => wpAny_excMatches_type ⟨oe, g, c⟩ hexc hnt hsub q
theorem WX_Try {body hbody : List Stmt} {b₀ : Stmt} {t : Expr} {hp pos : Pos} {c : Value} {Q : FV → S → Prop} (ok : Ok X n) (he : X.env = X.fenv)
    (ht : ∀ (A : Around) (σ' : S) (s : Shared) (Q' : Value → Shared → Prop) (E' : Value → Shared → Prop), St X σ' s.heap → Q' c s → wpAny (model X.prog X.w) A (eval t X.env) Q' E' s)
    (h : WXs X body σ Q (fun cls σ' => ∃ b, Match X cls c b ∧ if b then ∀ e, Ok (X.mark e (isB cls)) n → WXs (X.mark e (isB cls)) (b₀ :: hbody) σ' Q E else E cls σ')) :
    WX X (.Try body [.ExceptHandler (some t) none (b₀ :: hbody) hp] [] [] pos) σ Q E := fun s st => by
  refine wpAny_Try_except (wpAny_mono (h s st) (fun f s₁ q => ?_) fun e s₁ q => ?_)
  · obtain ⟨g, σ₁, P₁, r, q⟩ := q
    cases f <;> cases g <;> first | exact r.elim | exact wpAny_execs_nil (⟨FV.next, σ₁, P₁, trivial, q⟩ : Qw X σ s FM Q Flow.next s₁) | exact ⟨_, _, P₁, r, q⟩
  · obtain ⟨ea, cls, σ₁, P₁, rfl, x, b, hm, q⟩ := q
    refine note_any ok he P₁.st x (fun h₂ P₂ x₂ => ?_) ok.frames
    refine set_flight (fr := none) P₂.st x₂ fun h₃ P₃ x₃ => ?_
    have P := (P₁.trans P₂).trans P₃
    have x₃' := x₃
    obtain ⟨be, pe, oe, vs, a0, T, oT, ts, g, cc, d, v0, v1, bT, pT, ne, gT, dT, v3⟩ := x₃
    refine wpAny_handleBy_cons (codeAny_handlers_test (ht _ σ₁ _ _ _ P₃.st ?_)) (by intro q; cases q)
    refine hm _ _ ea oe _ _ (P₃.st.inK ok) g cc ?_
    cases b
    · simp only [Bool.false_eq_true, if_false] at q ⊢
      refine wpAny_handleBy_nil ?_
      unfold PySem.passOn
      refine wpAny_bind (wpAny_field g d v1 ?_)
      rw [if_neg (by simp)]
      rw [ok.eframe]
      refine wpAny_bind (set_flight (fr := some X.L) P₃.st x₃' fun h₄ P₄ x₄ => wpAny_throw ?_)
      exact ⟨ea, cls, σ₁, P.trans P₄, rfl, x₄.own, q⟩
    · simp only [if_true] at q ⊢
      refine codeAny_handlers_suite ?_
      refine set_flight (fr := none) P₃.st x₃' fun h₄ P₄ x₄ => ?_
      have PP := P.trans P₄
      obtain ⟨bm', _, oe', vs', _, T', _, _, g', _, d', ⟨_, c0⟩, _⟩ := x₄
      have eL : ea ≠ X.env.locals := fun z => by
        obtain ⟨m, ⟨oL, es, ep, gL, dL, _⟩, _⟩ := P₄.st.names
        rw [← z] at gL
        have : some oe' = some oL := g'.symm.trans gL
        cases this
        rw [d'] at dL; cases dL
      refine wpAny_mono (q ea (ok_mark ok eL) _ (st_mark P₄.st g' d' bm'.2 fun z => c0 (by cases cls <;> first | exact ⟨_, rfl⟩ | cases z))) (fun f s₅ q => ?_) fun e' s₅ q => ?_
      · obtain ⟨gv, σ₅, P₅, r, q⟩ := q
        exact ⟨gv, σ₅, PP.trans (post_unmark P₄.st P₅), r, q⟩
      · obtain ⟨e₅, cls₅, σ₅, P₅, rfl, x₅, q⟩ := q
        exact noted_back ok he (post_unmark P₄.st P₅).st (exc_unmark x₅) (PP.trans (post_unmark P₄.st P₅)) q ok.frames
end
end Mine
namespace Mine
open PySem PySem.W PySem.Calls PySem.Spec PyProof.Rows
section
variable {X : Cx} {n : Nat} {σ : S} {E : Value → S → Prop}
theorem post_drop {s s' : Shared} {σ' : S} {hp : Addr → Option HO} {loc : List (Str × V)} (P : Post X σ s σ' s') (h : ∀ a o, hp a = some o → σ'.hp a = some o) (hl : ∀ x d, lk loc x = some d → lk σ'.loc x = some d) : Post X σ s ⟨loc, hp⟩ s' := by
  have nm : ∀ a, ¬ σ'.mu a → ¬ S.mu ⟨loc, hp⟩ a := fun a n m => by
    cases q : hp a with
    | none => exact m q
    | some o => exact n (by show σ'.hp a ≠ none; rw [h a o q]; exact Option.some_ne_none _)
  have x : Ext X.env.locals X.prot σ'.mu s'.heap (S.mu ⟨loc, hp⟩) s'.heap := ⟨fun a o e n _ => ⟨e, nm a n⟩, fun a o e n _ _ => ⟨nm a n, o.slots, e⟩, fun a ha _ e => ⟨e, nm a (P.st.protOff a ha)⟩⟩
  refine ⟨P.upd, P.ext.trans x, ⟨P.st.base, ?_, fun a o e => ?_, nm _ P.st.locOff, fun a ha => ⟨nm a (P.st.protOff a ha), (P.st.prot a ha).2⟩, fun e he => ?_⟩⟩
  · obtain ⟨m, hn, hm⟩ := P.st.names
    exact ⟨m, hn, fun y d e => let ⟨v, q, r⟩ := hm y d (hl y d e); ⟨v, q, r.mono x⟩⟩
  · obtain ⟨y, z⟩ := P.st.own a o (h a o e)
    exact ⟨y.mono x rfl, z⟩
  · obtain ⟨z, L, o, es, ep, hf, hn, hm, g, d⟩ := P.st.frs e he
    exact ⟨z, L, o, es, ep, hf, hn, nm L hm, g, d⟩
theorem vm_drop {σ' : S} {hp : Addr → Option HO} {loc : List (Str × V)} {h : Heap} {v : Value} {d : V} (y : VM σ'.mu h v d) (k : ∀ a o, hp a = some o → σ'.hp a = some o) : VM (S.mu ⟨loc, hp⟩) h v d := by
  refine y.mono (L := 0) (prot := []) ⟨fun a o e n _ => ⟨e, fun m => ?_⟩, fun a o e n _ _ => ⟨fun m => ?_, o.slots, e⟩, fun a ha => nomatch ha⟩ <;>
  · cases q : hp a with
    | none => exact m q
    | some o => exact n (by show σ'.hp a ≠ none; rw [k a o q]; exact Option.some_ne_none _)
structure KExc (K : Frag) (C : Addr) : Prop where
  cls : ∃ oc od cd sl, K.lookup C = some ⟨oc, od, .cls cd, sl⟩
  base : subIn K (.ref C) (.type "BaseException") = some true
  type : typeIn K (.ref C) = some (.type "type")
theorem upd_same {hp : Addr → Option HO} {a : Addr} {o : HO} (h : hp a = some o) : upd hp a o = hp := by
  funext b; unfold upd; split
  · rename_i e; rw [e, h]
  · rfl
end
end Mine
namespace Mine
open PySem PySem.W PySem.Calls PySem.Spec PyProof.Rows Builtin Builtin.ObjectAttr
section
variable {X : Cx} {n : Nat} {σ : S} {E : Value → S → Prop}
structure KExcSet (K : Frag) (C : Addr) (name : Str) : Prop where
  set : findIn K (.ref C) "__setattr__" = some (some (.builtin "object.__setattr__"))
  cls : ∃ cd, clsIn K C = some cd ∧ cd.hasDict = true ∧ ∀ self, refuseLoop self "__setattr__" cd.mro = pure ()
  obj : mroIn K C (.type "object") = some true
  taker : takerIn K C name = some none
end
end Mine
namespace Mine
open PySem PySem.W PySem.Calls PySem.Spec PyProof.Rows Builtin Builtin.ObjectAttr Builtin.BaseException
section
variable {X : Cx} {n : Nat} {σ : S} {E : Value → S → Prop}
structure KSup (X : Cx) (fI C : Addr) (sf : Str) : Prop where
  func : X.env.func = some fI
  fd : ∃ oc od fd osl ar, X.K.lookup fI = some ⟨oc, od, .func fd, osl⟩ ∧ (fd.params.posonlyargs ++ fd.params.args).head? = some ar ∧ ar.arg = sf
  code : ∃ c oc od vs sl file tf, X.env.code = .ref c ∧ X.K.lookup c = some ⟨oc, od, .fields vs, sl⟩ ∧ vs[2]? = some (.str file tf) ∧ ((X.prog.main.file : Str) == file) = true
  top : (X.prog.main.scope.names.lookup ("super" : Str)).isSome = false
  super : X.env.kindOf "super" = some .globalImplicit
  cls : X.env.kindOf "__class__" = some .free
  cell : ∃ cc oc od sl, X.env.cells.lookup ("__class__" : Str) = some cc ∧ X.K.lookup cc = some ⟨oc, od, .cell (some (.ref C)), sl⟩
  glob : nsIn X.K mainGlobals "super" = some none
  boot : bootBuiltins "super" = some (.type "super")
  sub : mroIn X.K C (.ref C) = some true
  exc : mroIn X.K C (.type "Exception") = some true
  opaq : nsIn X.K cStatics "thirdparty.any" = some none
  selfLoc : X.env.kindOf sf = some .local
end
end Mine
namespace Mine
open PySem PySem.W PySem.Calls PySem.Spec PyProof.Rows
section
variable {X : Cx} {n : Nat} {σ : S} {E : Value → S → Prop}
theorem VM.strI {mu : Addr → Prop} {h : Heap} {v : Value} {l : List Nat} (x : VM mu h v (.str l)) : ∃ t, v = .str ⟨l.toArray⟩ t := by
  generalize e : V.str l = d at x
  cases x <;> cases e
  exact ⟨_, by rw [Array.toArray_toList]⟩
theorem VM.strE {mu : Addr → Prop} {h : Heap} {x : Str} {t : Tok} {l : List Nat} (e : x.cps.toList = l) : VM mu h (.str x t) (.str l) := e ▸ .str x t
theorem VM.litI {mu : Addr → Prop} {h : Heap} {v w : Value} (x : VM mu h v (.lit w)) : v = w := by cases x; rfl
theorem VM.tupI {mu : Addr → Prop} {h : Heap} {v : Value} {ds : List V} (x : VM mu h v (.tup ds)) : ∃ a o vs n, v = .ref a ∧ h.get? a = some o ∧ o.cls = .type "tuple" ∧ o.data = .seq vs.toArray n ∧ ¬ mu a ∧ VMs mu h vs ds := by
  generalize e : V.tup ds = d at x
  cases x <;> cases e
  exact ⟨_, _, _, _, rfl, by assumption, by assumption, by assumption, by assumption, by assumption⟩
theorem VM.lstI {mu : Addr → Prop} {h : Heap} {v : Value} {ds : List V} (x : VM mu h v (.lst ds)) : ∃ a o vs n, v = .ref a ∧ h.get? a = some o ∧ o.cls = .type "list" ∧ o.data = .seq vs.toArray n ∧ ¬ mu a ∧ VMs mu h vs ds := by
  generalize e : V.lst ds = d at x
  cases x <;> cases e
  exact ⟨_, _, _, _, rfl, by assumption, by assumption, by assumption, by assumption, by assumption⟩
section ops
variable {a b : Int} {x y : List Nat} {Q : V → S → Prop}
theorem o_addi (q : Q (.int (a + b)) σ) : Op2 X (binaryOp .Add) (.int a) (.int b) σ Q E := fun _ _ _ st va wb => by
  cases va; cases wb; exact PyProof.Rows.add_int (qw_same st _ (.int _ _) q)
theorem o_subi (q : Q (.int (a - b)) σ) : Op2 X (binaryOp .Sub) (.int a) (.int b) σ Q E := fun _ _ _ st va wb => by
  cases va; cases wb; exact PyProof.Rows.sub_int (qw_same st _ (.int _ _) q)
theorem o_negi {Q : V → S → Prop} (q : Q (.int (-a)) σ) : Op1 X (unaryOp .USub) (.int a) σ Q E := fun _ _ st va => by
  cases va; exact PyProof.Rows.neg_int (qw_same st _ (.int _ _) q)
theorem o_modi (hb : b ≠ 0) (q : Q (.int (a.fmod b)) σ) : Op2 X (binaryOp .Mod) (.int a) (.int b) σ Q E := fun _ _ _ st va wb => by
  cases va; cases wb; exact PyProof.Rows.mod_int' hb (qw_same st _ (.int _ _) q)
theorem o_iaddi (q : Q (.int (a + b)) σ) : Op2 X (inplaceOp .Add) (.int a) (.int b) σ Q E := fun _ _ _ st va wb => by
  cases va; cases wb; exact wpAny_iadd_int (qw_same st _ (.int _ _) q)
theorem o_nei (q : Q (.bool (a != b)) σ) : Op2 X (compareOp .NotEq) (.int a) (.int b) σ Q E := fun _ _ _ st va wb => by
  cases va; cases wb; exact PyProof.Rows.ne_int (qw_self st (.bool _) q)
theorem o_lti (q : Q (.bool (decide (a < b))) σ) : Op2 X (compareOp .Lt) (.int a) (.int b) σ Q E := fun _ _ _ st va wb => by
  cases va; cases wb; exact PyProof.Rows.lt_int (qw_self st (.bool _) q)
theorem catLen {x y : List Nat} (h : x.length + y.length ≤ 10000) : (⟨x.toArray⟩ : Str).length + (⟨y.toArray⟩ : Str).length ≤ sizeLine := by
  simp only [Str.length, List.size_toArray]; rw [sizeLine_eq]; omega
theorem cat_cps {x y : List Nat} : ((⟨x.toArray⟩ : Str) ++ (⟨y.toArray⟩ : Str)).cps.toList = x ++ y := by rw [PySem.Str.cps_append]; simp
theorem o_adds (h : x.length + y.length ≤ 10000) (q : Q (.str (x ++ y)) σ) : Op2 X (binaryOp .Add) (.str x) (.str y) σ Q E := fun _ _ _ st va wb => by
  obtain ⟨t, rfl⟩ := va.strI
  obtain ⟨u, rfl⟩ := wb.strI
  exact PyProof.Rows.add_str (fun t' tk => qw_same st _ (.strE cat_cps) q) (catLen h)
theorem o_iadds (h : x.length + y.length ≤ 10000) (q : Q (.str (x ++ y)) σ) : Op2 X (inplaceOp .Add) (.str x) (.str y) σ Q E := fun _ _ _ st va wb => by
  obtain ⟨t, rfl⟩ := va.strI
  obtain ⟨u, rfl⟩ := wb.strI
  exact SB.iadd (fun t' tk => qw_same st _ (.strE cat_cps) q) (catLen h)
theorem str_beq {x y : List Nat} : ((⟨x.toArray⟩ : Str) == ⟨y.toArray⟩) = (x == y) := by
  by_cases h : x = y
  · subst h; simp
  · have : (⟨x.toArray⟩ : Str) ≠ ⟨y.toArray⟩ := fun e => h (by have := congrArg (fun s => s.cps.toList) e; simpa using this)
    rw [beq_eq_false_iff_ne.mpr this, beq_eq_false_iff_ne.mpr h]
theorem o_eqs (q : Q (.bool (x == y)) σ) : Op2 X (compareOp .Eq) (.str x) (.str y) σ Q E := fun _ _ _ st va wb => by
  obtain ⟨t, rfl⟩ := va.strI
  obtain ⟨u, rfl⟩ := wb.strI
  exact PyProof.Rows.eq_str (qw_self st (.bool _) (by rw [str_beq]; exact q))
theorem o_nes (q : Q (.bool (x != y)) σ) : Op2 X (compareOp .NotEq) (.str x) (.str y) σ Q E := fun _ _ _ st va wb => by
  obtain ⟨t, rfl⟩ := va.strI
  obtain ⟨u, rfl⟩ := wb.strI
  refine PyProof.Rows.ne_str (qw_self st (.bool _) ?_)
  rw [bne, str_beq]; exact q
end ops
noncomputable def isN : V → Bool
  | .none => true
  | _ => false
noncomputable def known : V → Prop
  | .lit _ => False
  | _ => True
theorem isN_of {mu : Addr → Prop} {h : Heap} {v : Value} {d : V} (x : VM mu h v d) (k : known d) : (v == Value.none) = isN d := by
  cases x <;> first | rfl | exact k.elim
section ops
variable {d : V} {Q : V → S → Prop}
theorem o_notnone (k : known d) (q : Q (.bool (!isN d)) σ) : Op2 X (compareOp .IsNot) d .none σ Q E := fun _ _ _ st va wb => by
  cases wb
  refine isnot_none_gen (qw_self st (.bool _) ?_)
  rw [isN_of va k]; exact q
end ops
section tr
variable {Q : Bool → S → Prop}
theorem t_bool {b : Bool} (q : Q b σ) : Tr X (.bool b) σ Q E := fun _ _ st va => by cases va; exact wpAny_truthy_bool (qw_self st rfl q)
theorem t_none (q : Q false σ) : Tr X .none σ Q E := fun _ _ st va => by cases va; exact wpAny_pure (qw_self st rfl q)
theorem t_str {x : List Nat} (h : x.length ≤ 10000) (q : Q (!x.isEmpty) σ) : Tr X (.str x) σ Q E := fun _ s st va => by
  obtain ⟨t, rfl⟩ := va.strI
  refine P.truthy_str (by simp only [Str.length, List.size_toArray]; omega) (qw_same st _ rfl ?_)
  have : (((⟨x.toArray⟩ : Str).length : Int) != 0) = !x.isEmpty := by cases x <;> simp [Str.length]; omega
  rw [this]; exact q
end tr
end
end Mine
namespace Mine
open PySem PySem.W PySem.Calls PySem.Spec PyProof.Rows
section
variable {X : Cx} {n : Nat} {σ : S} {E : Value → S → Prop}
section
open Builtin Builtin.Str
end
theorem VMs.consI {mu : Addr → Prop} {h : Heap} {vs : List Value} {d : V} {ds : List V} (x : VMs mu h vs (d :: ds)) : ∃ v ws, vs = v :: ws ∧ VM mu h v d ∧ VMs mu h ws ds := by cases x with | cons a b => exact ⟨_, _, rfl, a, b⟩
theorem VMs.one {mu : Addr → Prop} {h : Heap} {vs : List Value} {d : V} (x : VMs mu h vs [d]) : ∃ v, vs = [v] ∧ VM mu h v d := by
  obtain ⟨v, ws, rfl, a, r⟩ := x.consI; cases r; exact ⟨v, rfl, a⟩
theorem VMs.two {mu : Addr → Prop} {h : Heap} {vs : List Value} {d e : V} (x : VMs mu h vs [d, e]) : ∃ v w, vs = [v, w] ∧ VM mu h v d ∧ VM mu h w e := by
  obtain ⟨v, ws, rfl, a, r⟩ := x.consI; obtain ⟨w, rfl, b⟩ := r.one; exact ⟨v, w, rfl, a, b⟩
theorem gm_str {l : List Nat} {name : Str} {id : String} {Q : Value → List V → S → Prop} (slot : Slot "str" name id) (ty : typeOf (.builtin id) = pure (.type "method_descriptor")) (q : Q (.builtin id) [.str l] σ) : GetM X (.str l) name σ Q E := by
  intro v s pl st vm
  obtain ⟨t, rfl⟩ := vm.strI
  exact GM.of (.str _ t) (typeIs_str _ _ _) slot ty GM.noRef ⟨[.str l], σ, Post.refl st, .cons vm .nil, q⟩
section
variable {x y : List Nat} {Q : V → S → Prop}
theorem c_isstr (q : Q (.bool true) σ) : Call X (.builtin "isinstance") [.str x, .lit (.type "str")] σ Q E := fun vs s st vm => by
  obtain ⟨_, _, rfl, a, b⟩ := vm.two
  obtain ⟨t, rfl⟩ := a.strI
  cases b
  exact call_isinstance_yes (typeIs_str _ _ _) (by kernel_rfl) (by rw [isSubtype_type]; kernel_rfl) (qw_self st (.bool _) q)
theorem c_lens (h : x.length ≤ 10000) (q : Q (.int x.length) σ) : Call X (.builtin "len") [.str x] σ Q E := fun vs s st vm => by
  obtain ⟨_, rfl, a⟩ := vm.one
  obtain ⟨t, rfl⟩ := a.strI
  refine PyProof.Rows.len_str (by simp only [Str.length, List.size_toArray]; omega) (qw_same st _ ?_ q)
  have : ((⟨x.toArray⟩ : Str).length) = x.length := by simp [Str.length]
  rw [this]; exact .int _ _
end
end
end Mine
namespace Mine
open PySem PySem.W PySem.Calls PySem.Spec PyProof.Rows
section
variable {X : Cx} {n : Nat} {σ : S} {E : Value → S → Prop}
end
end Mine
namespace Mine
open PySem PySem.W PySem.Calls PySem.Spec PyProof.Rows
section
variable {X : Cx} {n : Nat} {σ : S} {E : Value → S → Prop}
structure KExcGet (K : Frag) (C : Addr) (name : Str) : Prop where
  ga : findIn K (.ref C) "__getattribute__" = some (some (.builtin "BaseException.__getattribute__"))
  hook : findIn K (.ref C) "__getattr__" = some none
  base : mroIn K C (.type "BaseException") = some true
  dict : hasDictIn K C = true
  cls : ∃ attr, findIn K (.ref C) name = some attr ∧ noGet K attr = true
noncomputable def SetA (X : Cx) (o : V) (attr : Str) (d : V) (σ : S) (Q : S → Prop) (E : Value → S → Prop) : Prop :=
  ∀ ov v s, St X σ s.heap → VM σ.mu s.heap ov o → VM σ.mu s.heap v d → wpAny (model X.prog X.w) X.A (setAttr ov attr v) (Qw X σ s RU (fun _ => Q)) (Ew X σ s E) s
theorem sa_inst {a C dx : Addr} {fs : List (Str × V)} {name : Str} {d : V} {Q : S → Prop} (ok : Ok X n) (h1 : σ.hp a = some (.inst C dx)) (h2 : σ.hp dx = some (.dict fs)) (ks : KSet X.K C name)
    (hlen : fs.length ≤ 90) (q : Q { σ with hp := upd σ.hp dx (.dict (updF fs name d)) }) : SetA X (.ref a) name d σ Q E := fun _ _ _ st om vm => by
  cases om
  exact set_field (Q := fun _ => Q) ok h1 h2 ks hlen q (Post.refl st) vm
theorem WX_SetAttr {e : Expr} {x attr : Str} {xp p' pos : Pos} {Q : FV → S → Prop}
    (h : WE X e σ (fun d σ₁ => WE X (.Name x xp) σ₁ (fun od σ₂ => SetA X od attr d σ₂ (Q .next) E) E) E)
    (hs : ∀ env, swapsWith e (some (.Attribute (.Name x xp) attr p')) pos.line env = pure false) : WX X (.Assign [.Attribute (.Name x xp) attr p'] e pos) σ Q E := fun _ st =>
  plainObj_wpAny_Assign_Attribute (h.run (Post.refl st) fun v s₁ d σ₁ _ P₁ vm h₁ => h₁.run P₁ fun ov s₂ od σ₂ p₂ P₂ om h₂ =>
    wpAny_mono (h₂ ov v s₂ P₂.st om (vm.mono p₂.ext)) (fun _ _ ⟨_, σ', P', _, q'⟩ => ⟨.next, σ', P₂.trans P', trivial, q'⟩) fun _ _ e => e.after P₂) (hs _)
end
end Mine
namespace Mine
open PySem PySem.W PySem.Calls PySem.Spec PyProof.Rows
section
variable {X : Cx} {n : Nat} {σ : S} {E : Value → S → Prop}
theorem under_tc (X : Cx) (C : Addr) (rest : List Value) : Under X (X.A.under (.builtin "type.__call__" ⟨.ref C :: rest, []⟩)) where
  frames := by
    show pushEnvs (Code.envs (.builtin "type.__call__" ⟨.ref C :: rest, []⟩)) X.A.frames = X.A.frames
    have e : Code.envs (.builtin "type.__call__" ⟨.ref C :: rest, []⟩) = [] := rfl
    rw [e]; rfl
  depth := by
    show X.A.depth + Code.weight (.builtin "type.__call__" ⟨.ref C :: rest, []⟩) ≤ _
    have e : Code.weight (.builtin "type.__call__" ⟨.ref C :: rest, []⟩) = 1 := rfl
    omega
  units := by
    show X.A.units + Code.cUnits (.builtin "type.__call__" ⟨.ref C :: rest, []⟩) ≤ _
    have e : Code.cUnits (.builtin "type.__call__" ⟨.ref C :: rest, []⟩) = 1 := rfl
    omega
  handled := rfl
structure KMakeExc (K : Frag) (C fI : Addr) : Prop where
  call : specialIn K (.ref C) "__call__" = some (some (.builtin "type.__call__"))
  type : instIn K (.ref C) (.type "type") = some true
  self : subIn K (.ref C) (.ref C) = some true
  init : findIn K (.ref C) "__init__" = some (some (.ref fI))
  fn : typeIn K (.ref fI) = some (.type "function")
structure KMake (K : Frag) (C fI : Addr) : Prop where
  makes : makesIn K C = true
  init : findIn K (.ref C) "__init__" = some (some (.ref fI))
  fn : typeIn K (.ref fI) = some (.type "function")
theorem Call.make {fI C : Addr} {fd : FuncData} {body : List Stmt} {ds : List V} {loc0 : Addr → List (Str × V)} {Q : V → S → Prop}
    (ok : Ok X (n + 1)) (km : KMake X.K C fI) (hf : FnIs X.K fI fd body)
    (hb : ∀ a vs s (mu : Addr → Prop), X.K.In s.heap → VMs mu s.heap vs (.ref a :: ds) → ∃ binds, BindsTo s fd ⟨vs, []⟩ binds ∧ (∀ y ∈ binds, fd.scope.names.lookup y.1 = some .local) ∧ (∀ x d, lk (loc0 a) x = some d → ∃ v, binds.reverse.lookup x = some v ∧ VM mu s.heap v d))
    (h : ∀ A' a dx L, Under X A' → σ.hp a = none → σ.hp dx = none → a ≠ dx → Ok (X.into A' fd fI L) n → WXs (X.into A' fd fI L) body ⟨loc0 a, upd (upd σ.hp dx (.dict [])) a (.inst C dx)⟩ (fun fl σ' => retV fl = .none ∧ Q (.ref a) ⟨σ.loc, σ'.hp⟩) (fun c σ' => E c ⟨σ.loc, σ'.hp⟩)) : Call X (.ref C) ds σ Q E := by
  intro vs s st vm
  obtain ⟨hh, gn, dr, tk, os⟩ := s
  have inK := st.inK ok
  have n0 := new_none st
  have P₁ := post_write (h' := hh.push emptyDict) (tk := tk) (a := hh.objs.size) (o := .dict []) ok st (fun b o _ _ e => Heap.get?_push_of_some _ e) (by obtain ⟨m, hn, hm⟩ := st.names; exact ⟨m, hn.push _, hm⟩) (.inr (Heap.get?_none_of_le (Nat.le_refl _)))
    fun _ _ _ => ⟨[], 0, Heap.get?_push_size _ rfl, .nil, by decide⟩
  have nn := new_none P₁.st
  have P₂ := post_write (h' := (hh.push emptyDict).push (instObj C hh.objs.size)) (tk := tk) (a := hh.objs.size + 1) (o := .inst C hh.objs.size) ok P₁.st
    (fun b o _ _ e => Heap.get?_push_of_some _ e) (by obtain ⟨m, hn, hm⟩ := P₁.st.names; exact ⟨m, hn.push _, hm⟩) (.inr (by have := Heap.get?_none_of_le (h := hh.push emptyDict) (Nat.le_refl _); rwa [Heap.size_push] at this))
    fun _ _ _ => (by show Heap.get? _ _ = _; heap_get)
  have PP := P₁.trans P₂
  refine wpAny_call (make_core (makes_of inK km.makes) (looks_findIn inK km.init) (fun self => bind_fn inK self km.fn) (.inl rfl) ?_)
  have vm' : VMs (S.mu { σ with hp := upd (upd σ.hp hh.objs.size (.dict [])) (hh.objs.size + 1) (.inst C hh.objs.size) }) ((hh.push emptyDict).push (instObj C hh.objs.size)) (.ref (hh.objs.size + 1) :: vs) (.ref (hh.objs.size + 1) :: ds) := .cons (.ref _) (vm.mono PP.ext)
  obtain ⟨binds, b1, b2, b3⟩ := hb (hh.objs.size + 1) _ ⟨(hh.push emptyDict).push (instObj C hh.objs.size), gn, dr, tk, os⟩ _ (P₂.st.inK ok) vm'
  have nn' : σ.hp (hh.objs.size + 1) = none := by
    rw [Heap.size_push] at nn
    have : upd σ.hp hh.objs.size (.dict []) (hh.objs.size + 1) = none := nn
    rwa [upd_ne (Nat.succ_ne_self _)] at this
  refine code_fn (σ := { σ with hp := upd (upd σ.hp hh.objs.size (.dict [])) (hh.objs.size + 1) (.inst C hh.objs.size) }) ok hf (under_tc X C vs) P₂.st b1 b2 b3 (fun L ok' => h _ _ _ L (under_tc X C vs) nn' n0 (Nat.succ_ne_self _) ok') (fun v s' fl σ' P r q => ?_) fun e s' cls σ' P x q => ?_
  · rw [q.1] at r
    cases r
    exact ⟨rfl, .ref _, _, PP.trans P, .ref _, q.2⟩
  · exact ⟨e, cls, _, PP.trans P, rfl, x, q⟩
end
end Mine
namespace Mine
open PySem PySem.W PySem.Calls PySem.Spec PyProof.Rows
section
variable {X : Cx} {n : Nat} {σ : S} {E : Value → S → Prop}
noncomputable def slc {α : Type} (l : List α) (lo hi : Option Int) : List α := (l.drop (kms_lo lo l.length)).take (kms_hi hi l.length - kms_lo lo l.length)
theorem slicePick_slc (items : Array Value) (lo hi : Option Int) : slicePick items lo hi none = (slc items.toList lo hi).toArray := kms_pick_eq items lo hi
inductive IsP : V → Option Int → Prop
  | none : IsP .none none
  | int (i : Int) : IsP (.int i) (some i)
noncomputable abbrev WP (X : Cx) (x : Option Expr) (σ : S) (Q : V → S → Prop) (E : Value → S → Prop) : Prop := W X (evalPart x X.env) VM σ Q E
theorem WP_none {Q : V → S → Prop} (q : Q .none σ) : WP X none σ Q E := fun _ st => evalPart_none_step (qw_self st .none q)
theorem WP_some {e : Expr} {Q : V → S → Prop} (h : WE X e σ Q E) : WP X (some e) σ Q E := fun s st => evalPart_some_step (h s st)
theorem VMs.drop {mu : Addr → Prop} {h : Heap} {vs : List Value} {ds : List V} (x : VMs mu h vs ds) (k : Nat) : VMs mu h (vs.drop k) (ds.drop k) := by
  induction k generalizing vs ds with
  | zero => exact x
  | succ k ih => cases x with
    | nil => simp; exact .nil
    | cons a r => simpa using ih r
theorem VMs.take {mu : Addr → Prop} {h : Heap} {vs : List Value} {ds : List V} (x : VMs mu h vs ds) (k : Nat) : VMs mu h (vs.take k) (ds.take k) := by
  induction k generalizing vs ds with
  | zero => simp; exact .nil
  | succ k ih => cases x with
    | nil => simp; exact .nil
    | cons a r => simpa using .cons a (ih r)
theorem VMs.slc {mu : Addr → Prop} {h : Heap} {vs : List Value} {ds : List V} (x : VMs mu h vs ds) (lo hi : Option Int) : VMs mu h (slc vs lo hi) (slc ds lo hi) := by
  unfold Mine.slc
  rw [x.length]
  exact (x.drop _).take _
inductive Lst (σ : S) : V → List V → Prop
  | val (ds : List V) : Lst σ (.lst ds) ds
  | own (a : Addr) (ds : List V) (e : σ.hp a = some (.lst ds)) : Lst σ (.ref a) ds
theorem Lst.get {h : Heap} {v : Value} {d : V} {ds : List V} (l : Lst σ d ds) (st : St X σ h) (x : VM σ.mu h v d) : ∃ a o vs n, v = .ref a ∧ h.get? a = some o ∧ o.cls = .type "list" ∧ o.data = .seq vs.toArray n ∧ VMs σ.mu h vs ds := by
  cases l with
  | val => obtain ⟨a, o, vs, n, e, g, c, d, _, r⟩ := x.lstI; exact ⟨a, o, vs, n, e, g, c, d, r⟩
  | own a ds e =>
    cases x
    obtain ⟨⟨vs, n, g, r⟩, _⟩ := st.own a _ e
    exact ⟨a, _, vs, n, rfl, g, rfl, rfl, r⟩
theorem W_SliceLst {value : Expr} {lower upper : Option Expr} {p pos : Pos} {Q : V → S → Prop}
    (h : WE X value σ (fun a σ₁ => WP X lower σ₁ (fun lo σ₂ => WP X upper σ₂ (fun hi σ₃ => ∃ l i j, Lst σ₃ a l ∧ l.length ≤ 10000 ∧ IsP lo i ∧ IsP hi j ∧ Q (.lst (slc l i j)) σ₃) E) E) E)
    (ht : ∀ o r, letTemporaryGo value o r = pure ()) :
    WE X (.Subscript value (.Slice lower upper none p) pos) σ Q E := fun s st => by
  refine wpAny_Subscript_list_slice (h.run (Post.refl st) fun v s₁ a σ₁ _ P₁ va h₁ => h₁.run P₁ fun vl s₂ lo σ₂ p₂ P₂ vlo h₂ => h₂.run P₂ fun vu s₃ hi σ₃ p₃ P₃ vhi h₃ => ?_) ht
  obtain ⟨l, i, j, hll, hlen, pi, pj, q⟩ := h₃
  obtain ⟨b, o, vs, k, rfl, g, c, d, vm⟩ := hll.get P₃.st ((va.mono p₂.ext).mono p₃.ext)
  have ip : IsPart vl i := by cases pi <;> cases vlo <;> constructor
  have jp : IsPart vu j := by cases pj <;> cases vhi <;> constructor
  refine ⟨b, vs.toArray, i, j, rfl, ⟨o, g, c, k, d⟩, by rw [List.size_toArray, vm.length, sizeLine_eq]; omega, ip, jp, ?_⟩
  have P₄ := (st_push P₃.st { cls := .type "slice", data := .fields #[vl, vu, .none] })
  have P₅ := st_push P₄.st { cls := .type "list", data := .seq (slicePick vs.toArray i j none) }
  have PP := P₃.trans (P₄.trans P₅)
  have g5 := Heap.get?_push_size (s₃.heap.push { cls := .type "slice", data := .fields #[vl, vu, .none] }) (o := { cls := .type "list", data := .seq (slicePick vs.toArray i j none) }) rfl
  rw [Heap.size_push] at g5
  refine ⟨_, σ₃, PP, .lst g5 rfl (by rw [slicePick_slc]) (fun m => ?_) ((vm.mono (P₄.trans P₅).ext).slc i j), q⟩
  have := new_off P₄.st
  rw [Heap.size_push] at this
  exact this m
theorem W_Sub {value slice : Expr} {pos : Pos} {Q : V → S → Prop} (h : WE X value σ (fun a σ₁ => WE X slice σ₁ (fun b σ₂ => Op2 X (subscriptTail value slice) a b σ₂ Q E) E) E) : WE X (.Subscript value slice pos) σ Q E := fun _ st =>
  Subscript_ (h.run (Post.refl st) fun _ _ _ _ _ P₁ va h₁ => h₁.run P₁ fun _ _ _ _ p₂ P₂ vb h₂ => h₂.go P₂ (va.mono p₂.ext) vb)
theorem fits_ssize {i : Int} (h0 : -100000 ≤ i) (h : i ≤ 100000) : fitsSsize i = true := by unfold fitsSsize; simp; omega
theorem item_cps {l : List Nat} {k : Nat} {c : Nat} (e : l[k]? = some c) : (Txt.item ⟨l.toArray⟩ (k : Int)).cps.toList = [c] := by
  unfold Txt.item Txt.charAt seqIndex?
  have hk := (List.getElem?_eq_some_iff.mp e).1
  have e1 : ¬ ((k : Int) < 0) := by omega
  have e2 : (⟨l.toArray⟩ : Str).length = l.length := by simp [Str.length]
  simp [e1, e2, hk, e]
  obtain ⟨_, h2⟩ := List.getElem?_eq_some_iff.mp e
  exact h2
theorem new_exc {s : Shared} {h' : Heap} {tk : Nat} {e : Addr} {T : String} (st : St X σ s.heap) (N : Heap.NewExc s.heap h' e T) : Post X σ s σ { s with heap := h', toks := tk } ∧ ExcAt X σ.mu h' e (.type T) := by
  have P : Post X σ s σ { s with heap := h', toks := tk } := Post.keeps st h' tk rfl N.keeps
  obtain ⟨ob, t, g, c, d⟩ := N.there
  refine ⟨P, ⟨?_, fun m => ?_⟩, fun hp => ?_, ob, _, t, g, c, d, ⟨rfl, fun _ => rfl⟩, .inl rfl⟩
  · cases q : X.base.get? e with
    | none => rfl
    | some o => have := st.base e o q; rw [N.new] at this; cases this
  · cases q : σ.hp e with
    | none => exact m q
    | some o => obtain ⟨ob, g⟩ := (st.own e o q).1.there; rw [N.new] at g; cases g
  · obtain ⟨_, o, ws, g, _⟩ := st.prot e hp
    rw [N.new] at g; cases g
theorem s_strItem {l : List Nat} {k : Nat} {value slice : Expr} {Q : V → S → Prop} (ok : Ok X n) (hc : X.ctx = none) (hl : l.length ≤ 10000) (hk : k ≤ 10000) (q : match l[k]? with | some c => Q (.str [c]) σ | none => E (.type "IndexError") σ)
    (hs : ∀ x t i u, subscripted slice false (.str x t) (.int i u) = operate [.str x t, .int i u] (getItem (.str x t) (.int i u)))
    (ht : ∀ x t r, letTemporaryGo value (.str x t) r = pure ()) : Op2 X (subscriptTail value slice) (.str l) (.int k) σ Q E := fun v w s st va wb => by
  obtain ⟨t, rfl⟩ := va.strI
  cases wb
  have hlen : (⟨l.toArray⟩ : Str).length = l.length := by simp [Str.length]
  refine item_str_or (by rw [ok.handled, hc]; rfl) (fits_ssize (by omega) (by omega)) (fun ho h' tk e N => ?_) (fun h1 h2 => ?_) (hs _ _ _ _) (ht _ _)
  · rw [hlen] at ho
    have : l[k]? = none := List.getElem?_eq_none (by omega)
    rw [this] at q
    obtain ⟨P, x⟩ := new_exc (tk := tk) st N
    exact ⟨e, _, σ, P, rfl, x, q⟩
  · rw [hlen] at h2
    have hk' : k < l.length := by omega
    have e : l[k]? = some l[k] := List.getElem?_eq_getElem hk'
    rw [e] at q
    exact qw_same st _ (.strE (item_cps e)) q
end
end Mine
namespace Mine
open PySem PySem.W PySem.Calls PySem.Spec PyProof.Rows
section
variable {X : Cx} {n : Nat} {σ : S} {E : Value → S → Prop}
structure Sub (σ' σ : S) : Prop where
  loc : ∀ x d, lk σ'.loc x = some d → lk σ.loc x = some d
  hp : ∀ a o, σ'.hp a = some o → σ.hp a = some o
theorem Sub.post {σ' : S} {s : Shared} (u : Sub σ' σ) (st : St X σ s.heap) : Post X σ s σ' s := post_drop (Post.refl st) u.hp u.loc
theorem W.drop {α β : Type} {t : Sem α} {R : (Addr → Prop) → Heap → α → β → Prop} {Q : β → S → Prop} {σ' : S} (u : Sub σ' σ) (h : W X t R σ' Q E) : W X t R σ Q E := fun s st => h.go (u.post st)
theorem noted_Ew {σ₀ : S} {s₀ s : Shared} {e : Value} (ok : Ok X n) (he : X.env = X.fenv) (h : Ew X σ₀ s₀ E e s) : notedBy (model X.prog X.w) X.A X.env (fun e s' => cameBackBy (model X.prog X.w) X.A X.env (Ew X σ₀ s₀ E) e s') e s := by
  obtain ⟨ea, cls, σ', P, rfl, x, q⟩ := h
  exact noted_back ok he P.st x P q ok.frames
theorem WX_While {test : Expr} {body orelse : List Stmt} {pos : Pos} {Q : FV → S → Prop} (ok : Ok X n) (he : X.env = X.fenv) (I : Nat → S → Prop)
    (turn : ∀ k σ, I k σ → WT X test σ (fun b σ₁ => if b then WXs X body σ₁ (fun f σ₂ => match f with | .next => ∃ m, m < k ∧ I m σ₂ | .cont => ∃ m, m < k ∧ I m σ₂ | .brk => Q .next σ₂ | .ret d => Q (.ret d) σ₂) E else WXs X orelse σ₁ Q E) E)
    (k : Nat) (h : I k σ) : WX X (.While test body orelse pos) σ Q E := fun s st => by
  refine wpAny_While (codeAny_whileLoop (fun k s' => ∃ σ', Post X σ s σ' s' ∧ I k σ') (fun k s₁ hI => ?_) k ⟨σ, Post.refl st, h⟩)
  obtain ⟨σ₁, P₁, i₁⟩ := hI
  refine wpAny_mono ((turn k σ₁ i₁).run P₁ (Q' := fun b s₂ => if b then wpAny (model X.prog X.w) X.A (execs body X.env) (fun f s₃ => match f with
            | .next | .cont => ∃ m, m < k ∧ ∃ σ', Post X σ s σ' s₃ ∧ I m σ'
            | .brk => Qw X σ s FM Q .next s₃
            | .ret v => Qw X σ s FM Q (.ret v) s₃) (Ew X σ s E) s₂
        else wpAny (model X.prog X.w) X.A (execs orelse X.env) (fun f s₃ => Qw X σ s FM Q f s₃) (Ew X σ s E) s₂) fun b s₂ b' σ₂ _ P₂ e q => ?_) (fun b s₂ q => ?_) fun e s₂ q => noted_Ew ok he q
  · subst e
    cases b
    · simp only [Bool.false_eq_true, if_false] at q ⊢
      exact q.go P₂
    · simp only [if_true] at q ⊢
      refine q.run P₂ fun f s₃ g σ₃ _ P₃ r q => ?_
      cases f <;> cases g <;> first | exact r.elim | skip
      · obtain ⟨m, hm, im⟩ := q
        exact ⟨m, hm, σ₃, P₃, im⟩
      · exact ⟨FV.next, σ₃, P₃, trivial, q⟩
      · obtain ⟨m, hm, im⟩ := q
        exact ⟨m, hm, σ₃, P₃, im⟩
      · exact ⟨_, σ₃, P₃, r, q⟩
  · cases b
    · simp only [Bool.false_eq_true, if_false] at q ⊢
      exact wpAny_mono q (fun _ _ z => z) fun _ _ z => noted_Ew ok he z
    · simp only [if_true] at q ⊢
      exact wpAny_mono q (fun f _ z => by cases f <;> exact z) fun _ _ z => noted_Ew ok he z
inductive Iter (X : Cx) (σ : S) (h : Heap) (I : Addr) (n : Nat) (ds : Nat → V) : Prop
  | mk (fp wr : List Addr) (P : Nat → Value → Prop) (St : Nat → Heap → Prop) (hW : ∀ A' : Around, A'.handled = none → Walks X.prog X.w A' I fp wr n P St) (st0 : St 0 h) (hrec : ∀ i h', St i h' → ∀ b ∈ wr, ∃ o vs, h'.get? b = some o ∧ o.data = .fields vs)
    (hwr : ∀ b ∈ wr, X.base.get? b = none ∧ ¬ σ.mu b ∧ b ∉ X.prot) (hfp : ∀ b ∈ fp, b ∉ wr → ¬ σ.mu b ∧ ∃ o, h.get? b = some o ∧ isSeq o.data)
    (hvm : ∀ i v mu' h', i < n → P i v → SeqX σ.mu h mu' h' → VM mu' h' v (ds i))
noncomputable def Itb (X : Cx) (a : V) (σ : S) (n : Nat) (ds : Nat → V) : Prop := ∀ v s (Q : Value → Shared → Prop) (E' : Value → Shared → Prop), St X σ s.heap → VM σ.mu s.heap v a →
  (∀ I s', Post X σ s σ s' → Iter X σ s'.heap I n ds → Q (.ref I) s') → wpAny (model X.prog X.w) X.A (pyIter v) Q E' s
noncomputable def Cx.watch (X : Cx) (wr : List Addr) : Cx := { X with prot := wr ++ X.prot }
theorem ok_watch {wr : List Addr} (ok : Ok X n) (h : X.env.locals ∉ wr) : Ok (X.watch wr) n :=
  ⟨ok.inK, ok.top, ok.frames, ok.frame, ok.eframe, ok.kind, ok.genv, ok.benv, ok.above, (fun q => (List.mem_append.mp q).elim h ok.locProt), ok.handled, (fun p q => List.mem_append_right _ (ok.ctxIn p q)), ok.depth, ok.units⟩
theorem st_watch {h : Heap} {wr : List Addr} (hc : X.ctx = none) (st : St X σ h) (hw : ∀ b ∈ wr, ¬ σ.mu b ∧ ∃ o vs, h.get? b = some o ∧ o.data = .fields vs) : St (X.watch wr) σ h :=
  ⟨st.base, st.names, st.own, st.locOff, (fun a ha => (List.mem_append.mp ha).elim (fun q => let ⟨z, o, vs, g, d⟩ := hw a q; ⟨z, o, vs, g, d, fun e => by have e' : X.ctx = some (a, true) := e; rw [hc] at e'; cases e'⟩) fun q => st.prot a q), st.frs⟩
theorem st_unwatch {h : Heap} {wr : List Addr} (st : St (X.watch wr) σ h) : St X σ h := ⟨st.base, st.names, st.own, st.locOff, fun a ha => st.prot a (List.mem_append_right _ ha), st.frs⟩
theorem post_unwatch {s s' : Shared} {σ' : S} {wr : List Addr} (P : Post (X.watch wr) σ s σ' s') : Post X σ s σ' s' :=
  ⟨P.upd, ⟨P.ext.seq, P.ext.obj, fun a ha => P.ext.watch a (List.mem_append_right _ ha)⟩, st_unwatch P.st⟩
theorem exc_unwatch {mu : Addr → Prop} {h : Heap} {e : Addr} {wr : List Addr} {cls : Value} (x : ExcAt (X.watch wr) mu h e cls) : ExcAt X mu h e cls := by
  obtain ⟨a, pe, oe, vs, a0, g, c, d, v0, hx⟩ := x
  refine ⟨a, fun q => pe (List.mem_append_right _ q), oe, vs, a0, g, c, d, v0, ?_⟩
  rcases hx with v1 | ⟨T, oT, ts, v1, bT, pT, r⟩
  · exact .inl v1
  · exact .inr ⟨T, oT, ts, v1, bT, (fun q => pT (List.mem_append_right _ q)), r⟩
inductive ItAt (X : Cx) (σ : S) (s : Shared) (Q : Nat → (Nat → V) → S → Prop) (it : Value) (s₂ : Shared) : Prop
  | mk (I : Addr) (N : Nat) (ds : Nat → V) (σ₂ : S) (e : it = .ref I) (P : Post X σ s σ₂ s₂) (IT : Iter X σ₂ s₂.heap I N ds) (q : Q N ds σ₂)
noncomputable def WIt (X : Cx) (iter : Expr) (σ : S) (Q : Nat → (Nat → V) → S → Prop) (E : Value → S → Prop) : Prop :=
  ∀ s, St X σ s.heap → wpAny (model X.prog X.w) X.A (eval iter X.env) (fun x s₁ => wpAny (model X.prog X.w) X.A (pyIter x) (ItAt X σ s Q) (Ew X σ s E) s₁) (Ew X σ s E) s
theorem wit_val {iter : Expr} {Q : Nat → (Nat → V) → S → Prop} (h : WE X iter σ (fun a σ₁ => ∃ N ds, Itb X a σ₁ N ds ∧ Q N ds σ₁) E) : WIt X iter σ Q E := fun s st =>
  h.run (Post.refl st) fun v s₁ a σ₁ _ P₁ va ⟨N, ds, itb, q⟩ => itb v s₁ _ _ P₁.st va fun J s₂ P₂ IT => ⟨J, N, ds, σ₁, rfl, P₁.trans P₂, IT, q⟩
theorem new_facts {s : Shared} (st : St X σ s.heap) : X.base.get? s.heap.objs.size = none ∧ ¬ σ.mu s.heap.objs.size ∧ s.heap.objs.size ∉ X.prot := by
  refine ⟨?_, new_off st, fun hp => ?_⟩
  · cases q : X.base.get? s.heap.objs.size with
    | none => rfl
    | some o => exact absurd (Heap.lt_size (st.base _ o q)) (Nat.lt_irrefl _)
  · obtain ⟨_, o, vs, g, _⟩ := st.prot _ hp
    exact absurd (Heap.lt_size g) (Nat.lt_irrefl _)
theorem itb_lst {ds : List V} : Itb X (.lst ds) σ ds.length (fun i => ds.getD i .none) := fun v s Q E' st vm q => by
  obtain ⟨a, o, vs, n, rfl, g, c, d, nm, vms⟩ := vm.lstI
  refine wpAny_pyIter_list (items := vs.toArray) ⟨o, g, c, n, d⟩ (q _ _ (st_push st _) ?_)
  have P := st_push st { cls := .type "list_iterator", data := .fields #[.ref a, .int 0 0] }
  have ga := Heap.get?_push_of_some { cls := .type "list_iterator", data := .fields #[.ref a, .int 0 0] } g
  have ne : a ≠ s.heap.objs.size := Nat.ne_of_lt (Heap.lt_size g)
  have hsz : vs.toArray.size = ds.length := by rw [List.size_toArray, vms.length]
  refine ⟨[s.heap.objs.size, a], [s.heap.objs.size], fun i v => vs.toArray[i]? = some v, fun i h => h.IsListIter s.heap.objs.size a i ∧ h.IsList a vs.toArray, fun A' hA => by rw [← hsz]; exact Walks.list hA _ _ ne _, ⟨⟨_, Heap.get?_push_size _ rfl, rfl, rfl⟩, ⟨o, ga, c, n, d⟩⟩, fun i h' ⟨⟨o, g, c, d⟩, _⟩ b hb => ?_, fun b hb => ?_, fun b hb nb => ?_, fun i v mu' h' hi e x => ?_⟩
  · rw [List.mem_singleton.mp hb]; exact ⟨o, _, g, d⟩
  · rw [List.mem_singleton.mp hb]; exact new_facts st
  · rcases List.mem_cons.mp hb with rfl | hb
    · exact absurd (.head _) nb
    · rw [List.mem_singleton.mp hb]; exact ⟨nm, o, ga, by rw [d]; trivial⟩
  · have e' : vs[i]? = some v := by simpa using e
    obtain ⟨dv, e2, vm'⟩ := vms.get' e'
    have vm'' := (vm'.mono P.ext).monoS x
    show VM mu' h' v (ds.getD i .none)
    rw [List.getD_eq_getElem?_getD, e2]; exact vm''
end
end Mine
namespace Mine
open PySem PySem.W PySem.Calls PySem.Spec PyProof.Rows
section
variable {X : Cx} {n : Nat} {σ : S} {E : Value → S → Prop}
inductive IterT (X : Cx) (σ : S) (h : Heap) (I : Addr) (n : Nat) (d1 d2 : Nat → V) : Prop
  | mk (fp wr : List Addr) (Pt : Nat → Array Value → Prop) (SS : Nat → Heap → Prop) (Mid : Nat → Addr → Heap → Prop) (hW : ∀ A' : Around, A'.handled = none → WalksU X.prog X.w A' I fp wr n Pt SS Mid) (st0 : SS 0 h) (hrec : ∀ i h', SS i h' → ∀ b ∈ wr, ∃ o vs, h'.get? b = some o ∧ o.data = .fields vs)
    (hrec2 : ∀ i T h', Mid i T h' → ∀ b ∈ wr, ∃ o vs, h'.get? b = some o ∧ o.data = .fields vs)
    (hwr : ∀ b ∈ wr, X.base.get? b = none ∧ ¬ σ.mu b ∧ b ∉ X.prot) (hfp : ∀ b ∈ fp, b ∉ wr → ¬ σ.mu b ∧ ∃ o, h.get? b = some o ∧ isSeq o.data)
    (hvm : ∀ i vals mu' h', i < n → Pt i vals → SeqX σ.mu h mu' h' → ∃ v w, vals = #[v, w] ∧ VM mu' h' v (d1 i) ∧ VM mu' h' w (d2 i))
inductive ItAtT (X : Cx) (σ : S) (s : Shared) (Q : Nat → (Nat → V) → (Nat → V) → S → Prop) (it : Value) (s₂ : Shared) : Prop
  | mk (I : Addr) (N : Nat) (d1 d2 : Nat → V) (σ₂ : S) (e : it = .ref I) (P : Post X σ s σ₂ s₂) (IT : IterT X σ₂ s₂.heap I N d1 d2) (q : Q N d1 d2 σ₂)
end
end Mine
namespace Mine
open PySem PySem.W PySem.Calls PySem.Spec PyProof.Rows
section
variable {X : Cx} {n : Nat} {σ : S} {E : Value → S → Prop}
theorem call_raw {pos : Pos} {f : Value} {trees : List (Bool × Sem Value)} {Q : Value → Shared → Prop} {E' : Value → Shared → Prop} {s : Shared} {A : Around} (hk : Keeps X f) (hplain : trees.any (·.1) = false)
    (main : wpAny (model X.prog X.w) A (spliced trees) (fun vs s₁ => X.K.In s₁.heap ∧ wpAny (model X.prog X.w) A (call f vs) Q E' s₁) E' s) : wpAny (model X.prog X.w) A (callWith pos f [] trees []) Q E' s := by
  refine callWith_of (P := X.K.In) (by rw [hplain]; rfl) hk ?_
  cases trees with
  | nil =>
    unfold evalArgs
    show wpAny _ _ (spliced [] >>= _) _ _ s
    refine wpAny_bind (wpAny_mono main (fun vs s' h' => ?_) fun _ _ x => x)
    refine wpAny_holding ?_
    exact wpAny_bind (wpAny_pure (wpAny_bind (wpAny_pure (wpAny_pure h'))))
  | cons t r =>
    obtain ⟨b, t⟩ := t
    cases b
    · exact evalArgs_plain main
    · simp at hplain
structure KB (X : Cx) (x : Str) (v : Value) : Prop where
  kind : X.env.kindOf x = some .globalImplicit
  glob : nsIn X.K mainGlobals x = some none
  boot : bootBuiltins x = some v
theorem W_kb {x : Str} {pos : Pos} {v : Value} {Q : V → S → Prop} (ok : Ok X n) (k : KB X x v) (hn : x ≠ "__name__") (q : Q (.lit v) σ) (hd : (x == ("__debug__" : Str)) = false) : WE X (.Name x pos) σ Q E :=
  W_builtin ok k.kind k.glob k.boot hn q hd
theorem wit_range1 {e : Expr} {np pos : Pos} {Q : Nat → (Nat → V) → S → Prop} (ok : Ok X n) (k : KB X "range" (.type "range")) (hplain : ∀ env, (backTo pos (starEach [e] env)).any (·.1) = false)
    (h : W X (spliced (backTo pos (starEach [e] X.env))) VMs σ (fun ds σ₁ => ∃ b : Nat, ds = [.int b] ∧ b ≤ 100000 ∧ Q b (fun i => .int i) σ₁) E) : WIt X (.Call (.Name "range" np) [e] [] pos) σ Q E := fun s st => by
  refine wpAny_Call_NameR ((W_kb (Q := fun f σ' => f = .lit (.type "range") ∧ σ' = σ) ok k (by decide) ⟨rfl, rfl⟩ (by decide)).run (Post.refl st) fun v s₁ f σ₁ _ P₁ vm h₁ => ?_)
  obtain ⟨rfl, rfl⟩ := h₁
  cases vm.litI
  refine call_raw keeps_type (hplain _) (h.run P₁ fun vs s₂ ds σ₂ p₂ P₂ vms h₂ => ⟨P₂.st.inK ok, ?_⟩)
  obtain ⟨b, rfl, hb, q⟩ := h₂
  obtain ⟨v, rfl, vv⟩ := vms.one
  cases vv
  rename_i tk
  refine call_range_1 ?_
  have P₃ : Post X σ₂ s₂ σ₂ { s₂ with heap := s₂.heap.push { cls := .type "range", data := .fields #[.int 0 s₂.toks, .int b tk, .int 1 (s₂.toks + 1)] }, toks := s₂.toks + 1 + 1 } :=
    Post.keeps P₂.st _ _ rfl fun _ _ e => Heap.get?_push_of_some _ e
  refine wpAny_pyIter_range (s := { s₂ with heap := s₂.heap.push { cls := .type "range", data := .fields #[.int 0 s₂.toks, .int b tk, .int 1 (s₂.toks + 1)] }, toks := s₂.toks + 1 + 1 }) (IsRange.new ..) (small_one (by omega) (by omega) (by omega) (by omega)) ?_
  have P₄ := st_push P₃.st { cls := .type "range_iterator", data := .fields #[rawInt 0, rawInt (Builtin.Range.rangeSize 0 b 1), rawInt 1] }
  have er : Builtin.Range.rangeSize 0 (b : Int) 1 = (b : Int) := by rw [rangeSize_one]; split <;> omega
  refine ⟨_, b, _, σ₂, rfl, P₂.trans (P₃.trans P₄), ?_, q⟩
  refine ⟨[_], [_], fun i v => ∃ t, v = .int (0 + i * 1) t, fun i h => IsRangeIter h (s₂.heap.push { cls := .type "range", data := .fields #[.int 0 s₂.toks, .int b tk, .int 1 (s₂.toks + 1)] }).objs.size (0 + (i : Nat) * 1) ((b : Int) - (i : Nat)) 1, fun A' hA => Walks.range hA _ 0 1 b, ?_, fun i h' g c hc => ?_, fun c hc => ?_, fun c hc nb => absurd hc nb, fun i v mu' h' _ hv _ => ?_⟩
  · have g := Heap.get?_push_size (s₂.heap.push { cls := .type "range", data := .fields #[.int 0 s₂.toks, .int b tk, .int 1 (s₂.toks + 1)] }) (o := { cls := .type "range_iterator", data := .fields #[rawInt 0, rawInt (Builtin.Range.rangeSize 0 b 1), rawInt 1] }) rfl
    rw [er] at g
    show Heap.get? _ _ = _
    simpa [er] using g
  · rw [List.mem_singleton.mp hc]; exact ⟨_, _, g, rfl⟩
  · rw [List.mem_singleton.mp hc]; exact new_facts P₃.st
  · obtain ⟨t, rfl⟩ := hv
    have e : ((0 : Int) + (i : Int) * 1) = (i : Int) := by omega
    rw [e]; exact .int _ _
end
end Mine
namespace Mine
open PySem PySem.W PySem.Calls PySem.Spec PyProof.Rows
section
variable {X : Cx} {n : Nat} {σ : S} {E : Value → S → Prop}
theorem W_ListO {elts : List Expr} {pos : Pos} {Q : V → S → Prop} (ok : Ok X n) (h : W X (spliced (backTo pos (starEach elts X.env))) VMs σ (fun as σ₁ => as.length ≤ 1000 ∧ ∀ a, σ₁.hp a = none → Q (.ref a) { σ₁ with hp := upd σ₁.hp a (.lst as) }) E) : WE X (.List elts pos) σ Q E := fun _ st =>
  List_ (h.run (Post.refl st) fun vs s₁ as σ₁ _ P₁ va q => wpAny_newList (by
    have P := post_write (h' := s₁.heap.push { cls := .type "list", data := .seq vs.toArray }) (tk := s₁.toks) (a := s₁.heap.objs.size) (o := .lst as) ok P₁.st (fun b o _ _ e => Heap.get?_push_of_some _ e) (by obtain ⟨m, hn, hm⟩ := P₁.st.names; exact ⟨m, hn.push _, hm⟩) (.inr (Heap.get?_none_of_le (Nat.le_refl _)))
      fun _ _ mv => ⟨vs, 0, Heap.get?_push_size _ rfl, mv _ _ va⟩
    exact ⟨.ref s₁.heap.objs.size, _, P₁.trans P, .ref _, q.2 _ (new_none P₁.st)⟩) (by rw [va.length, sizeLine_eq]; omega))
theorem c_append {a : Addr} {ds : List V} {d : V} {Q : V → S → Prop} (ok : Ok X n) (h1 : σ.hp a = some (.lst ds)) (hl : ds.length ≤ 10000000) (q : Q .none { σ with hp := upd σ.hp a (.lst (ds ++ [d])) }) : Call X (.builtin "list.append") [.ref a, d] σ Q E := fun vs s st vm => by
  obtain ⟨v, w, rfl, va, vb⟩ := vm.two
  cases va
  obtain ⟨⟨vs, k, g, vms⟩, _⟩ := st.own a _ h1
  refine append_at g (fun h' hs g' => ?_) (by rw [List.size_toArray, vms.length, sizeLine_eq]; omega)
  obtain ⟨m, hn, hm⟩ := st.names
  have aL : X.env.locals ≠ a := fun e => st.locOff (by rw [e]; show σ.hp a ≠ none; rw [h1]; exact Option.some_ne_none _)
  have P := post_write (h' := h') (tk := s.toks) (a := a) (o := .lst (ds ++ [d])) ok st (fun b o n1 _ e => (hs.2 b n1).trans e) ⟨m, hn.at' (fun o e => (hs.2 _ aL).trans e), hm⟩ (.inl (by rw [h1]; exact Option.some_ne_none _))
    fun mv _ mvs => ⟨vs ++ [w], k + 1, by rw [g']; simp, (mvs _ _ vms).append (.cons (mv _ _ vb) .nil)⟩
  exact ⟨.none, _, P, .none, q⟩
inductive Fz (hp hp' : Addr → Option HO) : V → V → Prop
  | refl (d : V) : Fz hp hp' d d
  | pair {a b a' b' : V} : Fz hp hp' a a' → Fz hp hp' b b' → Fz hp hp' (.tup [a, b]) (.tup [a', b'])
  | own {a : Addr} {ds : List V} : hp a = some (.lst ds) → hp' a = none → Fz hp hp' (.ref a) (.lst ds)
theorem Fz.vm {h : Heap} {hp' : Addr → Option HO} (st : St X σ h) (hs : ∀ a o, hp' a = some o → σ.hp a = some o) {d d' : V} (z : Fz σ.hp hp' d d') : ∀ {v : Value}, VM σ.mu h v d → VM (S.mu ⟨σ.loc, hp'⟩) h v d' := by
  have nm : ∀ a, ¬ σ.mu a → ¬ S.mu ⟨σ.loc, hp'⟩ a := fun a n m => by
    cases q : hp' a with
    | none => exact m q
    | some o => exact n (by show σ.hp a ≠ none; rw [hs a o q]; exact Option.some_ne_none _)
  induction z with
  | refl d => exact fun x => vm_drop x hs
  | pair _ _ iha ihb =>
    intro v x
    obtain ⟨a, o, vs, n, rfl, g, c, e, nmu, vm⟩ := x.tupI
    obtain ⟨v, w, rfl, v1, v2⟩ := vm.two
    exact .tup g c e (nm _ nmu) (.cons (iha v1) (.cons (ihb v2) .nil))
  | own h1 h2 =>
    intro v x
    cases x
    obtain ⟨⟨vs, k, g, vms⟩, _⟩ := st.own _ _ h1
    refine .lst g rfl rfl (fun m => m h2) ?_
    refine vms.mono (L := 0) (prot := []) ⟨fun a o e n _ => ⟨e, nm a n⟩, fun a o e n _ _ => ⟨nm a n, o.slots, e⟩, fun a ha => nomatch ha⟩
structure SubF (σ' σ : S) : Prop where
  hp : ∀ a o, σ'.hp a = some o → σ.hp a = some o
  loc : ∀ x d', lk σ'.loc x = some d' → ∃ d, lk σ.loc x = some d ∧ Fz σ.hp σ'.hp d d'
theorem SubF.post {σ' : S} {s : Shared} (u : SubF σ' σ) (st : St X σ s.heap) : Post X σ s σ' s := by
  have P : Post X σ s ⟨[], σ'.hp⟩ s := post_drop (Post.refl st) u.hp (fun x d e => by simp [lk] at e)
  refine ⟨P.upd, P.ext, ⟨P.st.base, ?_, P.st.own, P.st.locOff, P.st.prot, P.st.frs⟩⟩
  obtain ⟨m, hn, hm⟩ := st.names
  refine ⟨m, hn, fun y d' e => ?_⟩
  obtain ⟨d, e1, z⟩ := u.loc y d' e
  obtain ⟨v, e2, vm⟩ := hm y d e1
  exact ⟨v, e2, z.vm st u.hp vm⟩
theorem W.dropF {α β : Type} {t : Sem α} {R : (Addr → Prop) → Heap → α → β → Prop} {Q : β → S → Prop} {σ' : S} (u : SubF σ' σ) (h : W X t R σ' Q E) : W X t R σ Q E := fun s st => h.go (u.post st)
theorem Call.fz {f : Value} {ds : List V} {Q : V → S → Prop} (h : Call X f ds σ (fun d σ' => ∃ hp' d', (∀ a o, hp' a = some o → σ'.hp a = some o) ∧ Fz σ'.hp hp' d d' ∧ Q d' ⟨σ'.loc, hp'⟩) E) : Call X f ds σ Q E := fun vs s st vm =>
  wpAny_mono (h vs s st vm) (fun v s' q => by
    obtain ⟨d, σ', P, r, hp', d', hs, z, q⟩ := q
    exact ⟨d', _, post_drop P hs (fun _ _ e => e), z.vm P.st hs r, q⟩) fun _ _ q => q
mutual
noncomputable def V.dat : V → PyData
  | .none => .none
  | .bool b => .bool b
  | .int i => .int i
  | .str l => .str ⟨l.toArray⟩
  | .tup ds => .tuple (V.dats ds)
  | .lst ds => .list (V.dats ds)
  | .ref _ => .none
  | .lit _ => .none
noncomputable def V.dats : List V → List PyData
  | [] => []
  | d :: ds => V.dat d :: V.dats ds
end
mutual
noncomputable def V.plain : V → Bool
  | .tup ds => V.plains ds
  | .lst ds => V.plains ds
  | .ref _ => false
  | .lit _ => false
  | _ => true
noncomputable def V.plains : List V → Bool
  | [] => true
  | d :: ds => V.plain d && V.plains ds
end
mutual
theorem VM.reads {mu : Addr → Prop} {h : Heap} : ∀ (d : V) (v : Value), V.plain d = true → VM mu h v d → ∃ as, Reads h v (V.dat d) as
  | .none, v, _, x => by cases x; exact ⟨_, .none⟩
  | .bool b, v, _, x => by cases x; exact ⟨_, .bool b⟩
  | .int i, v, _, x => by cases x; exact ⟨_, .int i _⟩
  | .str l, v, _, x => by obtain ⟨t, rfl⟩ := x.strI; exact ⟨_, .str _ t⟩
  | .tup ds, v, p, x => by
    obtain ⟨a, o, vs, n, rfl, g, c, e, _, vm⟩ := x.tupI
    obtain ⟨as, r⟩ := VMs.reads ds vs (by simpa [V.plain] using p) vm
    exact ⟨_, .tuple g c e (by rw [List.toList_toArray]; exact r)⟩
  | .lst ds, v, p, x => by
    obtain ⟨a, o, vs, n, rfl, g, c, e, _, vm⟩ := x.lstI
    obtain ⟨as, r⟩ := VMs.reads ds vs (by simpa [V.plain] using p) vm
    exact ⟨_, .list g c e (by rw [List.toList_toArray]; exact r)⟩
  | .ref _, v, p, x => by simp [V.plain] at p
  | .lit _, v, p, x => by simp [V.plain] at p
theorem VMs.reads {mu : Addr → Prop} {h : Heap} : ∀ (ds : List V) (vs : List Value), V.plains ds = true → VMs mu h vs ds → ∃ as, ReadsAll h vs (V.dats ds) as
  | [], vs, _, x => by cases x; exact ⟨_, .nil⟩
  | d :: ds, vs, p, x => by
    obtain ⟨v, ws, rfl, a, r⟩ := x.consI
    simp only [V.plains, Bool.and_eq_true] at p
    obtain ⟨as, ra⟩ := VM.reads d v p.1 a
    obtain ⟨bs, rb⟩ := VMs.reads ds ws p.2 r
    exact ⟨_, .cons ra rb⟩
end
structure Shp (d : V) : Prop where
  plain : V.plain d = true
  shaped : (PyData.canLay0 (V.dat d) && decide ((V.dat d).depth ≤ 64)) = true
end
end Mine
namespace Mine
open PySem PySem.W PySem.Calls PySem.Spec PyProof.Rows
section
variable {X : Cx} {n : Nat} {σ : S} {E : Value → S → Prop}
noncomputable abbrev mk (l : List Nat) : Str := ⟨l.toArray⟩
theorem VMs.strs {mu : Addr → Prop} {h : Heap} : ∀ {ls : List (List Nat)} {vs : List Value}, VMs mu h vs (ls.map V.str) → ∃ l : List (Str × Tok), vs = strValues l ∧ l.map (·.1) = ls.map mk
  | [], vs, x => by cases x; exact ⟨[], rfl, rfl⟩
  | a :: ls, vs, x => by
    obtain ⟨v, ws, rfl, y, r⟩ := x.consI
    obtain ⟨t, rfl⟩ := y.strI
    obtain ⟨l, rfl, e⟩ := VMs.strs r
    exact ⟨(mk a, t) :: l, rfl, by simp [e]⟩
theorem VMs.intsI {mu : Addr → Prop} {h : Heap} : ∀ {ns : List Int} {vs : List Value}, VMs mu h vs (ns.map V.int) → IntsAre vs ns
  | [], vs, x => by cases x; exact .nil
  | a :: ns, vs, x => by
    obtain ⟨v, ws, rfl, y, r⟩ := x.consI
    cases y
    exact .cons _ _ (VMs.intsI r)
noncomputable def joinL (sep : List Nat) (ls : List (List Nat)) : List Nat := (Txt.join (mk sep) (ls.map mk)).cps.toList
theorem mk_len (l : List Nat) : (mk l).length = l.length := by simp [Str.length]
section
variable {Q : V → S → Prop}
theorem c_join {sep : List Nat} {ls : List (List Nat)} (hb : ∀ l ∈ ls, l.length ≤ 1000) (hs : sep.length ≤ 1000) (hn : ls.length ≤ 1000) {dl : V} (hll : Lst σ dl (ls.map .str)) (q : Q (.str (joinL sep ls)) σ) : Call X (.builtin "str.join") [.str sep, dl] σ Q E := fun vs s st vm => by
  obtain ⟨v, w, rfl, va, vb⟩ := vm.two
  obtain ⟨t, rfl⟩ := va.strI
  obtain ⟨a, o, vs, k, rfl, g, c, d, vms⟩ := hll.get st vb
  obtain ⟨l, rfl, el⟩ := vms.strs
  refine SC.join ⟨o, g, c, k, d⟩ el ?_ fun t' k' => qw_same st _ (.strE rfl) q
  unfold JoinOk
  rw [Bool.not_eq_true']
  refine StrLaws.joinFits (B := 1000) (fun y hy => ?_) ?_
  · obtain ⟨z, hz, rfl⟩ := List.mem_map.mp hy
    have := mk_len z
    have := hb z hz
    omega
  · rw [mk_len, List.length_map]
    have h1 : ls.length * 1000 ≤ 1000 * 1000 := Nat.mul_le_mul_right _ hn
    have h2 : ls.length * sep.length ≤ 1000 * 1000 := Nat.mul_le_mul hn hs
    omega
theorem c_sum {ns : List Int} (ok : Ok X n) (hc : X.ctx = none) (q : Q (.int ns.sum) σ) : Call X (.builtin "sum") [.lst (ns.map .int)] σ Q E := fun vs s st vm => by
  obtain ⟨v, rfl, va⟩ := vm.one
  obtain ⟨a, o, vs, k, rfl, g, c, d, nm, vms⟩ := va.lstI
  have hA : X.A.handled = none := by rw [ok.handled, hc]; rfl
  have ia := vms.intsI
  refine call_sum_walkG (wpAny_pyIter_list (items := vs.toArray) ⟨o, g, c, k, d⟩ ?_)
  have ga := Heap.get?_push_of_some { cls := .type "list_iterator", data := .fields #[.ref a, .int 0 0] } g
  have ne : a ≠ s.heap.objs.size := Nat.ne_of_lt (Heap.lt_size g)
  have P := st_push st { cls := .type "list_iterator", data := .fields #[.ref a, .int 0 0] }
  refine ⟨_, [s.heap.objs.size, a], [s.heap.objs.size], vs.toArray.size, fun i v => vs.toArray[i]? = some v, fun i h => h.IsListIter s.heap.objs.size a i ∧ h.IsList a vs.toArray, fun i => ns.getD i 0, rfl, Walks.list (A := X.A.in1) hA _ _ ne _,
    ⟨⟨_, Heap.get?_push_size _ rfl, rfl, rfl⟩, ⟨o, ga, c, k, d⟩⟩, fun b hb => ?_, fun i v e => ?_, fun h' tk t' hk => ?_⟩
  · rw [Heap.size_push]
    rcases List.mem_cons.mp hb with rfl | hb
    · exact Nat.lt_succ_self _
    · rw [List.mem_singleton.mp hb]; exact Nat.lt_succ_of_lt (Heap.lt_size g)
  · have e' : vs[i]? = some v := by simpa using e
    obtain ⟨dv, e2, vm'⟩ := vms.get' e'
    rw [List.getElem?_map] at e2
    cases hn : ns[i]? with
    | none => rw [hn] at e2; cases e2
    | some z =>
      rw [hn] at e2
      cases e2
      cases vm'
      exact ⟨_, by show _ = Value.int (ns.getD i 0) _; rw [List.getD_eq_getElem?_getD, hn]; rfl⟩
  · have e1 : preSum (fun i => ns.getD i 0) vs.toArray.size = ns.sum := by
      rw [PyProof.Rows.preSum_getD]
      rw [List.size_toArray, vms.length, List.length_map, List.take_of_length_le (Nat.le_refl _)]
    rw [e1]
    have nf := new_facts st
    refine ⟨_, σ, P.trans (post_slots (bad := [s.heap.objs.size]) P.st (fun b o g' _ nb => hk b o nb g') (fun b o g' nfd => ⟨o.slots, hk b o (fun hb => ?_) g'⟩) fun b hb => ?_), .int _ _, q⟩
    · rw [List.mem_singleton.mp hb] at g'
      have := Heap.get?_push_size s.heap (o := { cls := .type "list_iterator", data := .fields #[.ref a, .int 0 0] }) rfl
      have g2 : (s.heap.push { cls := .type "list_iterator", data := .fields #[.ref a, .int 0 0] }).get? s.heap.objs.size = some o := g'
      rw [this] at g2; cases g2; exact nfd _ rfl
    · rw [List.mem_singleton.mp hb]; exact ⟨⟨nf.1, nf.2.1⟩, nf.2.2, _, _, Heap.get?_push_size _ rfl, rfl⟩
theorem s_lstItem {dl : V} {ds : List V} {k : Nat} {d : V} {value slice : Expr} (hll : Lst σ dl ds) (hk : k ≤ 100000) (e : ds[k]? = some d) (q : Q d σ)
    (hs : ∀ l i u, subscripted slice false (.ref l) (.int i u) = operate [.ref l, .int i u] (getItem (.ref l) (.int i u))) : Op2 X (subscriptTail value slice) dl (.int k) σ Q E := fun v w s st va wb => by
  obtain ⟨a, o, vs, m, rfl, g, c, d', vms⟩ := hll.get st va
  cases wb
  obtain ⟨v, e2, vm⟩ := vms.get e
  have hl : s.heap.IsList a vs.toArray := ⟨o, g, c, m, d'⟩
  exact tail_any hl.typeIs slot_list_getitem.lookup (wpAny_getItem_list (x := v) hl (by omega) (by omega) (by simpa using e2) (qw_self st vm q)) (hs _ _ _)
theorem c_lenL {dl : V} {ds : List V} (hll : Lst σ dl ds) (h : ds.length ≤ 100000) (q : Q (.int ds.length) σ) : Call X (.builtin "len") [dl] σ Q E := fun vs s st vm => by
  obtain ⟨v, rfl, va⟩ := vm.one
  obtain ⟨a, o, vs, k, rfl, g, c, d, vms⟩ := hll.get st va
  refine PyProof.Rows.len_list (items := vs.toArray) ⟨o, g, c, k, d⟩ (by rw [List.size_toArray, vms.length]; omega) (qw_same st _ ?_ q)
  rw [List.size_toArray, vms.length]; exact .int _ _
end
end
end Mine
namespace Mine
open PySem PySem.W PySem.Calls PySem.Spec PyProof.Rows
section
variable {X : Cx} {n : Nat} {σ : S} {E : Value → S → Prop}
theorem W_cell {x : Str} {pos : Pos} {c : Addr} {d : V} {Q : V → S → Prop} (ok : Ok X n) (hx : X.env.kindOf x = some .cell) (hc : X.env.cells.lookup x = some c) (e : σ.hp c = some (.cell (some d))) (q : Q d σ) (hd : (x == ("__debug__" : Str)) = false) :
    WE X (.Name x pos) σ Q E := fun _ st => by
  obtain ⟨⟨o, v, g, dd, w, rfl, vm⟩, _⟩ := st.own c _ e
  exact wpAny_Name (wpAny_loadName_cell ok.kind hx hc ⟨o, g, dd⟩ (qw_self st vm q)) hd
noncomputable def StoN (X : Cx) (x : Str) (d : V) (σ σ' : S) : Prop := ∀ v s, St X σ s.heap → VM σ.mu s.heap v d → wpAny (model X.prog X.w) X.A (storeName X.env x v) (Qw X σ s RU (fun _ σ'' => σ'' = σ')) (fun _ _ => False) s
theorem sto_local {x : Str} {d : V} (ok : Ok X n) (hx : X.env.kindOf x = some .local) : StoN X x d σ { σ with loc := put σ.loc x d } := fun v s st vm =>
  wpAny_mono (store_local (E := fun _ _ => False) (Q := fun _ σ'' => σ'' = { σ with loc := put σ.loc x d }) ok hx rfl (Post.refl st) vm) (fun _ _ z => z) fun _ _ z => by obtain ⟨_, _, _, _, _, _, z⟩ := z; exact z
theorem sto_cell {x : Str} {c : Addr} {d : V} {v₀ : Option V} (ok : Ok X n) (hx : X.env.kindOf x = some .cell) (hc : X.env.cells.lookup x = some c) (e : σ.hp c = some (.cell v₀)) : StoN X x d σ { σ with hp := upd σ.hp c (.cell (some d)) } := fun v s st vm => by
  obtain ⟨⟨o, w, g, dd, _⟩, _⟩ := st.own c _ e
  obtain ⟨m, hn, hm⟩ := st.names
  have cL : X.env.locals ≠ c := fun z => st.locOff (by rw [z]; show σ.hp c ≠ none; rw [e]; exact Option.some_ne_none _)
  refine wpAny_storeName_cell ok.kind hx hc ⟨o, g, dd⟩ fun h' hv hs => ?_
  refine ⟨(), _, post_write (tk := s.toks) (a := c) (o := .cell (some d)) ok st (fun b o n1 _ z => (hs.2 b n1).trans z) ⟨m, hn.at' (fun o z => (hs.2 _ cL).trans z), hm⟩ (.inl (by rw [e]; exact Option.some_ne_none _)) (fun mv _ _ => ?_), trivial, rfl⟩
  obtain ⟨o', g', d'⟩ := hv
  exact ⟨o', some v, g', d', v, rfl, mv _ _ vm⟩
theorem WX_AssignC {x : Str} {px pos : Pos} {c : Addr} {e : Expr} {Q : FV → S → Prop} (ok : Ok X n) (hx : X.env.kindOf x = some .cell) (hc : X.env.cells.lookup x = some c)
    (h : WE X e σ (fun d σ₁ => ∃ v₀, σ₁.hp c = some (.cell v₀) ∧ Q .next { σ₁ with hp := upd σ₁.hp c (.cell (some d)) }) E)
    (hs : ∀ env, swapsWith e (some (.Name x px)) pos.line env = pure false) : WX X (.Assign [.Name x px] e pos) σ Q E := fun _ st =>
  wpAny_Assign_Name (h.run (Post.refl st) fun v s₁ d σ₁ _ P₁ vm ⟨v₀, e₀, q⟩ => wpAny_mono (sto_cell ok hx hc e₀ v s₁ P₁.st vm) (fun _ _ ⟨_, σ', P', _, q'⟩ => ⟨.next, σ', P₁.trans P', trivial, q' ▸ q⟩) fun _ _ z => z.elim) (hs _)
end
end Mine
namespace Mine
open PySem PySem.W PySem.Calls PySem.Spec PyProof.Rows
section
variable {X : Cx} {n : Nat} {σ : S} {E : Value → S → Prop}
noncomputable def Cx.comp (X : Cx) (cenv : Env) : Cx := { X with env := cenv }
structure CEnv (X : Cx) (cenv : Env) : Prop where
  kind : cenv.scope.kind = .function
  glob : cenv.globals = X.env.globals
  bult : cenv.builtins = X.env.builtins
  frame : cenv.frame = X.env.frame
theorem ok_comp {cenv : Env} (ok : Ok X n) (c : CEnv X cenv) (ha : X.base.objs.size ≤ cenv.locals) (hp : cenv.locals ∉ X.prot) : Ok (X.comp cenv) n :=
  ⟨ok.inK, ok.top, ok.frames, ok.frame, c.frame.trans ok.eframe, c.kind, c.glob.trans ok.genv, c.bult.trans ok.benv, ha, hp, ok.handled, ok.ctxIn, ok.depth, ok.units⟩
theorem st_comp {cenv : Env} {h h₀ : Heap} {m : Str → Option Value} {loc0 : List (Str × V)} (st : St X σ h) (hC : h.get? cenv.locals = none) (hn : h₀.Ns cenv.locals m) (k : ∀ b o, h.get? b = some o → h₀.get? b = some o)
    (hm : ∀ x d, lk loc0 x = some d → ∃ v, m x = some v ∧ VM σ.mu h v d) : St (X.comp cenv) ⟨loc0, σ.hp⟩ h₀ := by
  have x : Ext X.env.locals X.prot σ.mu h σ.mu h₀ := Ext.keeps st.protOff k
  refine ⟨fun b o e => k b o (st.base b o e), ⟨m, hn, fun y d e => let ⟨v, q, r⟩ := hm y d e; ⟨v, q, r.mono x⟩⟩, fun a o e => ?_, fun q => ?_, fun a ha => ?_, fun e he => ?_⟩
  · obtain ⟨y, z⟩ := st.own a o e
    obtain ⟨ob, g⟩ := y.there
    exact ⟨y.mono x ((k a ob g).trans g.symm), z⟩
  · cases e : σ.hp cenv.locals with
    | none => exact q e
    | some o => obtain ⟨ob, g⟩ := (st.own _ o e).1.there; rw [hC] at g; cases g
  · obtain ⟨z, o, vs, g, d⟩ := st.prot a ha
    exact ⟨z, o, vs, k a o g, d⟩
  · obtain ⟨z, L, o, es, ep, hfr, hb, hmu, g, d⟩ := st.frs e he
    exact ⟨z, L, o, es, ep, hfr, hb, hmu, k L o g, d⟩
theorem comp_back {cenv : Env} {s s₀ s' : Shared} {h' : Heap} {loc0 : List (Str × V)} {σ' : S} (st : St X σ s.heap) (hC : s.heap.get? cenv.locals = none) (k : ∀ b o, s.heap.get? b = some o → s₀.heap.get? b = some o) (he : ∃ h t, s₀ = { s with heap := h, toks := t })
    (P : Post (X.comp cenv) ⟨loc0, σ.hp⟩ s₀ σ' s') (hs : Heap.SameBut cenv.locals s'.heap h') : Post X σ s ⟨σ.loc, σ'.hp⟩ { s' with heap := h' } := by
  obtain ⟨h₁, t₁, rfl⟩ := he
  obtain ⟨h₂, tk', e⟩ := P.upd
  have ne : ∀ a o, s.heap.get? a = some o → a ≠ cenv.locals := fun a o g q => by rw [q, hC] at g; cases g
  have sb : ∀ b o, b ≠ cenv.locals → s'.heap.get? b = some o → h'.get? b = some o := fun b o n g => (hs.2 b n).trans g
  have cb : X.base.get? cenv.locals = none := by
    cases q : X.base.get? cenv.locals with
    | none => rfl
    | some o => have := st.base _ o q; rw [hC] at this; cases this
  have x : Ext X.env.locals X.prot σ.mu s.heap σ'.mu h' := ⟨fun a o g nm q => let ⟨g', n'⟩ := P.ext.seq a o (k a o g) nm q; ⟨sb a o (ne a o g) g', n'⟩, fun a o g nm l q => let ⟨n', sl, g'⟩ := P.ext.obj a o (k a o g) nm (ne a o g) q; ⟨n', sl, sb a _ (ne a o g) g'⟩,
    fun a ha o g => let ⟨g', n'⟩ := P.ext.watch a ha o (k a o g); ⟨sb a o (ne a o g) g', n'⟩⟩
  refine ⟨⟨h', tk', by rw [e]⟩, x, ⟨fun b o g => sb b o (fun q => by rw [q, cb] at g; cases g) (P.st.base b o g), ?_, fun a o g => ?_, ?_, fun a ha => ?_, fun e he => ?_⟩⟩
  · obtain ⟨m, hn, hm⟩ := st.names
    obtain ⟨o, es, ep, g, d, r⟩ := hn
    obtain ⟨_, sl, g'⟩ := P.ext.obj _ o (k _ o g) st.locOff (ne _ o g) fun vs q => by rw [d] at q; cases q
    exact ⟨m, ⟨_, es, ep, sb _ _ (ne _ o g) g', d, r⟩, fun y d e => let ⟨v, q, r⟩ := hm y d e; ⟨v, q, r.mono x⟩⟩
  · obtain ⟨y, z⟩ := P.st.own a o g
    have an : a ≠ cenv.locals := fun q => P.st.locOff (by show σ'.hp cenv.locals ≠ none; rw [← q, g]; exact Option.some_ne_none _)
    refine ⟨y.mono (L := cenv.locals) (prot := []) ⟨fun b ob gb nb qb => ⟨sb b ob (fun q => ?_) gb, nb⟩, fun b ob gb nb lb qb => ⟨nb, ob.slots, sb b ob lb gb⟩, fun b hb => nomatch hb⟩ (hs.2 a an), z⟩
    obtain ⟨m, ⟨o', es, ep, g', d', _⟩, _⟩ := P.st.names
    have g'' : s'.heap.get? cenv.locals = some o' := g'
    rw [← q, gb] at g''; cases g''; rw [d'] at qb; exact qb
  · obtain ⟨m, ⟨o, es, ep, g, d, r⟩, hm⟩ := st.names
    exact (P.ext.obj _ o (k _ o g) st.locOff (ne _ o g) fun vs q => by rw [d] at q; cases q).1
  · obtain ⟨z, o, vs, g, d⟩ := P.st.prot a ha
    refine ⟨z, o, vs, sb a o (fun q => ?_) g, d⟩
    obtain ⟨m, ⟨o', es, ep, g', d', _⟩, _⟩ := P.st.names
    have g'' : s'.heap.get? cenv.locals = some o' := g'
    rw [← q, g] at g''; cases g''; rw [d'] at d; cases d.1
  · obtain ⟨z, L, o, es, ep, hfr, hb, hmu, g, d⟩ := P.st.frs e he
    obtain ⟨_, L', o', es', ep', hf', hb', hm', g', d'⟩ := st.frs e he
    rw [hfr] at hf'; cases hf'
    exact ⟨z, L, o, es, ep, hfr, hb, hmu, sb L o (ne L o' g') g, d⟩
noncomputable abbrev F0 : Value → S → Prop := fun _ _ => False
theorem Ew.elim0 {X : Cx} {σ : S} {s s' : Shared} {e : Value} {P : Prop} (h : Ew X σ s F0 e s') : P := by obtain ⟨_, _, _, _, _, _, z⟩ := h; exact z.elim
noncomputable def tests (ifs : List Expr) (env : Env) : Sem Bool := forIn ifs true fun c r => if r = true then do let ok ← isTrue c env (eval c env); pure (ForInStep.yield ok) else pure (ForInStep.yield r)
theorem CT_one {c : Expr} {Q : Bool → S → Prop} (h : WT X c σ Q E) : W X (tests [c] X.env) RB σ Q E := fun s st => by
  unfold tests
  rw [List.forIn_cons]
  refine wpAny_bind ?_
  rw [if_pos rfl]
  refine wpAny_bind (h.run (Post.refl st) fun b s₁ b' σ₁ _ P₁ e q => ?_)
  refine wpAny_pure ?_
  exact wpAny_pure ⟨b', σ₁, P₁, e, q⟩
noncomputable def accOf (keep : Nat → Bool) (es : Nat → V) (i : Nat) : List V := ((List.range i).filter keep).map es
theorem accOf_succ (keep : Nat → Bool) (es : Nat → V) (i : Nat) : accOf keep es (i + 1) = if keep i then accOf keep es i ++ [es i] else accOf keep es i := by
  unfold accOf
  rw [List.range_succ, List.filter_append]
  cases h : keep i <;> simp [h]
theorem accOf_len (keep : Nat → Bool) (es : Nat → V) (i : Nat) : (accOf keep es i).length ≤ i := by
  unfold accOf
  rw [List.length_map]
  exact Nat.le_trans (List.length_filter_le _ _) (by simp)
end
end Mine
namespace Mine
open PySem PySem.W PySem.Calls PySem.Spec PyProof.Rows
section
variable {X : Cx} {n : Nat} {σ : S} {E : Value → S → Prop}
inductive ItG (X : Cx) (σ : S) (h : Heap) (J : Addr) (tg : Expr) (N : Nat) (P : Nat → (Addr → Prop) → Heap → Value → Prop) : Prop
  | mk (wr : List Addr) (SS : Nat → Heap → Prop) (Mid : Nat → Value → Heap → Prop)
    (next : ∀ A' : Around, A'.handled = none → ∀ i (s : Shared) (Q : Option Value → Shared → Prop) (E' : Value → Shared → Prop), i < N → SS i s.heap → (∀ v h' tk, Mid i v h' → (∀ b o, b ∉ wr → s.heap.get? b = some o → h'.get? b = some o) → Q (some v) { s with heap := h', toks := tk }) → wpAny (model X.prog X.w) A' (pyNext (.ref J)) Q E' s)
    (go : ∀ A' : Around, A'.handled = none → ∀ i v (s : Shared) (Q : Unit → Shared → Prop) (E' : Value → Shared → Prop), Mid i v s.heap → (∀ h', SS (i + 1) h' → (∀ b o, b ∉ wr → s.heap.get? b = some o → h'.get? b = some o) → Q () { s with heap := h' }) → wpAny (model X.prog X.w) A' (letOwnedTupleGo tg (.ref J) v) Q E' s)
    (done : ∀ A' : Around, A'.handled = none → ∀ (s : Shared) (Q : Option Value → Shared → Prop) (E' : Value → Shared → Prop), SS N s.heap → (∀ h' tk, (∀ b o, b ∉ wr → s.heap.get? b = some o → h'.get? b = some o) → Q none { s with heap := h', toks := tk }) → wpAny (model X.prog X.w) A' (pyNext (.ref J)) Q E' s)
    (self : ∀ A' : Around, A'.handled = none → ∀ i (s : Shared) (Q : Value → Shared → Prop) (E' : Value → Shared → Prop), SS i s.heap → Q (.ref J) s → wpAny (model X.prog X.w) A' (pyIter (.ref J)) Q E' s)
    (st0 : SS 0 h) (hrec : ∀ i h', SS i h' → ∀ b ∈ wr, ∃ o vs, h'.get? b = some o ∧ o.data = .fields vs) (hrec2 : ∀ i v h', Mid i v h' → ∀ b ∈ wr, ∃ o vs, h'.get? b = some o ∧ o.data = .fields vs)
    (hwr : ∀ b ∈ wr, X.base.get? b = none ∧ ¬ σ.mu b ∧ b ∉ X.prot)
    (keep : ∀ i h₁ mu₁ h₂, SS i h₁ → SeqX σ.mu h mu₁ h₁ → (∀ a o, h₁.get? a = some o → ¬ mu₁ a → isSeq o.data → h₂.get? a = some o) → (∀ b ∈ wr, ∀ o, h₁.get? b = some o → h₂.get? b = some o) → SS i h₂)
    (val : ∀ i v mu' h₁ h₂, i < N → Mid i v h₁ → SeqX σ.mu h mu' h₂ → (∀ b o, b ∉ wr → h₁.get? b = some o → h₂.get? b = some o) → P i mu' h₂ v)
theorem keep_of {fp wr : List Addr} {SS : Nat → Heap → Prop} {h : Heap} (frame : ∀ i h h', SS i h → (∀ b ∈ fp, ∀ o, h.get? b = some o → h'.get? b = some o) → SS i h') (hfp : ∀ b ∈ fp, b ∉ wr → ¬ σ.mu b ∧ ∃ o, h.get? b = some o ∧ isSeq o.data) :
    ∀ i h₁ mu₁ h₂, SS i h₁ → SeqX σ.mu h mu₁ h₁ → (∀ a o, h₁.get? a = some o → ¬ mu₁ a → isSeq o.data → h₂.get? a = some o) → (∀ b ∈ wr, ∀ o, h₁.get? b = some o → h₂.get? b = some o) → SS i h₂ := fun i h₁ mu₁ h₂ st x k1 k2 => by
  refine frame _ _ _ st fun b hb o g => ?_
  by_cases hw : b ∈ wr
  · exact k2 b hw o g
  · obtain ⟨nm, o₀, g₀, q₀⟩ := hfp b hb hw
    obtain ⟨g₁, nm₁⟩ := x b o₀ g₀ nm q₀
    rw [g] at g₁; cases g₁
    exact k1 b _ g nm₁ q₀
noncomputable abbrev PN (ds : Nat → V) (i : Nat) (mu : Addr → Prop) (h : Heap) (v : Value) : Prop := VM mu h v (ds i)
inductive PT (d1 d2 : Nat → V) (i : Nat) (mu : Addr → Prop) (h : Heap) (v : Value) : Prop
  | mk (T : Addr) (v1 v2 : Value) (e : v = .ref T) (ht : h.IsTuple T #[v1, v2]) (m1 : VM mu h v1 (d1 i)) (m2 : VM mu h v2 (d2 i))
theorem Iter.toG {h : Heap} {J N : Nat} {ds : Nat → V} {x : Str} {tp : Pos} (IT : Iter X σ h J N ds) : ItG X σ h J (.Name x tp) N (PN ds) := by
  obtain ⟨fp, wr, PP, SS, hW, st0, hrec, hwr, hfp, hvm⟩ := IT
  refine ⟨wr, SS, fun i v h' => SS (i + 1) h' ∧ PP i v, fun A' hA i s Q E' hi st q => (hW A' hA).item i s _ _ hi st fun w h' tk pv st' kk => q w h' tk ⟨st', pv⟩ kk, fun A' hA i v s Q E' m q => wpAny_pure (q s.heap m.1 fun _ _ _ e => e), fun A' hA s Q E' st q => (hW A' hA).done s _ _ st q,
    fun A' hA i s Q E' st q => (hW A' hA).self i s _ _ st q, st0, hrec, fun i v h' m => hrec _ _ m.1, hwr, keep_of (hW ⟨none, 0, none, none, 0⟩ rfl).frame hfp, fun i v mu' h₁ h₂ hi m x _ => hvm i v mu' h₂ hi m.2 x⟩
theorem ItG.grow {σ' : S} {cenv : Env} {h h' : Heap} {J N : Nat} {tg : Expr} {P : Nat → (Addr → Prop) → Heap → Value → Prop} (IT : ItG X σ h J tg N P) (k : ∀ b o, h.get? b = some o → h'.get? b = some o) (hm : ∀ b o, h.get? b = some o → ¬ σ.mu b → ¬ σ'.mu b)
    (hw0 : ∀ SS : Nat → Heap → Prop, SS 0 h → (∀ wr : List Addr, (∀ i h₁ mu₁ h₂, SS i h₁ → SeqX σ.mu h mu₁ h₁ → (∀ a o, h₁.get? a = some o → ¬ mu₁ a → isSeq o.data → h₂.get? a = some o) → (∀ b ∈ wr, ∀ o, h₁.get? b = some o → h₂.get? b = some o) → SS i h₂) → SS 0 h') := fun SS st wr keep => keep 0 h σ.mu h' st (fun a o g nm _ => ⟨g, nm⟩) (fun a o g _ _ => k a o g) (fun b _ o g => k b o g)) :
    ItG (X.comp cenv) σ' h' J tg N P := by
  obtain ⟨wr, SS, Mid, next, go, done, self, st0, hrec, hrec2, hwr, keep, val⟩ := IT
  have up : ∀ mu₁ h₁, SeqX σ'.mu h' mu₁ h₁ → SeqX σ.mu h mu₁ h₁ := fun mu₁ h₁ x a o g nm q => x a o (k a o g) (hm a o g nm) q
  refine ⟨wr, SS, Mid, next, go, done, self, hw0 SS st0 wr keep, hrec, hrec2, fun b hb => ?_, fun i h₁ mu₁ h₂ st x => keep i h₁ mu₁ h₂ st (up _ _ x), fun i v mu' h₁ h₂ hi m x => val i v mu' h₁ h₂ hi m (up _ _ x)⟩
  obtain ⟨o, vs, g, d⟩ := hrec _ _ st0 b hb
  exact ⟨(hwr b hb).1, hm b o g (hwr b hb).2.1, (hwr b hb).2.2⟩
noncomputable def Asg (X : Cx) (tg : Expr) (P : (Addr → Prop) → Heap → Value → Prop) (σ σ' : S) : Prop := ∀ v s, St X σ s.heap → P σ.mu s.heap v → wpAny (model X.prog X.w) X.A (assign tg X.env v) (Qw X σ s RU (fun _ σ'' => σ'' = σ')) (fun _ _ => False) s
theorem asg_name {x : Str} {tp : Pos} {ds : Nat → V} {i : Nat} {σ' : S} (h : StoN X x (ds i) σ σ') : Asg X (.Name x tp) (PN ds i) σ σ' := fun v s st p => wpAny_assign_Name (h v s st p)
inductive LoopG (X : Cx) (n : Nat) (σ₁ : S) (s₂ : Shared) (J : Addr) (tg : Expr) (N : Nat) (P : Nat → (Addr → Prop) → Heap → Value → Prop) : Prop
  | mk (wr : List Addr) (G : Nat → S → Shared → Prop) (g0 : G 0 σ₁ s₂) (gp : ∀ i σ' s', G i σ' s' → Post X σ₁ s₂ σ' s')
    (self : ∀ i σ' s' (Q : Value → Shared → Prop) (E' : Value → Shared → Prop), G i σ' s' → Q (.ref J) s' → wpAny (model X.prog X.w) X.A (pyIter (.ref J)) Q E' s')
    (next : ∀ i σ' s' σb (QB : Shared → Prop) (Z : Option Value → Shared → Prop) (E' : Value → Shared → Prop), i < N → G i σ' s' → (Ok (X.watch wr) n → Asg (X.watch wr) tg (P i) σ' σb) →
      (Ok (X.watch wr) n → ∀ s₃, Post X σ' s' σb s₃ → St (X.watch wr) σb s₃.heap → (∀ σ₄ s₄, Post (X.watch wr) σb s₃ σ₄ s₄ → G (i + 1) σ₄ s₄) → QB s₃) →
      (∀ v s₁, wpAny (model X.prog X.w) X.A (letOwnedTupleGo tg (.ref J) v) (fun _ s₁' => wpAny (model X.prog X.w) X.A (assign tg X.env v) (fun _ s₂ => QB s₂) E' s₁') E' s₁ → Z (some v) s₁) → wpAny (model X.prog X.w) X.A (pyNext (.ref J)) Z E' s')
    (done : ∀ σ' s' (Z : Option Value → Shared → Prop) (E' : Value → Shared → Prop), G N σ' s' → (∀ s₃, Post X σ' s' σ' s₃ → Z none s₃) → wpAny (model X.prog X.w) X.A (pyNext (.ref J)) Z E' s')
theorem loopG {σ₁ : S} {s₂ : Shared} {J : Addr} {tg : Expr} {N : Nat} {P : Nat → (Addr → Prop) → Heap → Value → Prop} (ok : Ok X n) (hc : X.ctx = none) (IT : ItG X σ₁ s₂.heap J tg N P) (st : St X σ₁ s₂.heap) : LoopG X n σ₁ s₂ J tg N P := by
  have hA : X.A.handled = none := by rw [ok.handled, hc]; rfl
  obtain ⟨wr, SS, Mid, next, go, done, self, st0, hrec, hrec2, hwr, keep, val⟩ := IT
  have step : ∀ {σ' : S} {s' : Shared}, St X σ' s'.heap → (∀ b ∈ wr, ¬ σ'.mu b) → (∀ b ∈ wr, ∃ o vs, s'.heap.get? b = some o ∧ o.data = .fields vs) → ∀ h' tk, (∀ b o, b ∉ wr → s'.heap.get? b = some o → h'.get? b = some o) → Post X σ' s' σ' { s' with heap := h', toks := tk } := fun {σ' s'} st' hmu hr h' tk kk =>
    post_slots st' (fun b o g _ nb => kk b o nb g) (fun b o g nf => ⟨o.slots, kk b o (fun hb => by obtain ⟨o', vs, g', d⟩ := hr b hb; rw [g] at g'; cases g'; exact nf _ d) g⟩) fun b hb => ⟨⟨(hwr b hb).1, hmu b hb⟩, (hwr b hb).2.2, hr b hb⟩
  refine ⟨wr, fun i σ' s' => Post X σ₁ s₂ σ' s' ∧ SS i s'.heap ∧ ∀ b ∈ wr, ¬ σ'.mu b, ⟨Post.refl st, st0, fun b hb => (hwr b hb).2.1⟩, fun i σ' s' g => g.1, fun i σ' s' Q E' g q => self _ hA i s' _ _ g.2.1 q, fun i σ' s' σb QB Z E' hi g asg qb z => ?_, fun σ' s' Z E' g z => ?_⟩
  · obtain ⟨Pb, sti, hmu⟩ := g
    refine next _ hA i s' _ _ hi sti fun v h' tk mid kk => z _ _ ?_
    have Pc := step Pb.st hmu (hrec i _ sti) h' tk kk
    refine go _ hA i v _ _ _ mid fun h₂ st₂ kk₂ => ?_
    have Pd := step (s' := { s' with heap := h', toks := tk }) Pc.st hmu (hrec2 _ _ _ mid) h₂ tk kk₂
    have Pcd := Pc.trans Pd
    have Pbd := Pb.trans Pcd
    have lw : X.env.locals ∉ wr := fun hb => by
      obtain ⟨o, vs, g, d⟩ := hrec _ _ st₂ _ hb
      obtain ⟨m, ⟨oL, es, ep, gL, dL, _⟩, _⟩ := Pd.st.names
      have gL' : h₂.get? X.env.locals = some oL := gL
      rw [g] at gL'; cases gL'; rw [d] at dL; cases dL
    have okw := ok_watch ok lw
    have stw : St (X.watch wr) σ' h₂ := st_watch hc Pd.st fun b hb => ⟨hmu b hb, hrec _ _ st₂ b hb⟩
    refine wpAny_mono (asg okw v { s' with heap := h₂, toks := tk } stw (val i v σ'.mu _ _ hi mid Pbd.ext.seq kk₂)) (fun _ s₃ q => ?_) fun _ _ q => q.elim
    obtain ⟨_, _, Pe, _, rfl⟩ := q
    refine qb okw s₃ (Pcd.trans (post_unwatch Pe)) Pe.st fun σ₄ s₄ Pf => ?_
    have Pef := Pe.trans Pf
    exact ⟨Pbd.trans (post_unwatch Pef), keep _ _ _ _ st₂ Pbd.ext.seq (fun a o g nm q => (Pef.ext.seq a o g nm q).1) (fun b hb o g => (Pef.ext.watch b (List.mem_append_left _ hb) o g).1), fun b hb => (Pf.st.prot b (List.mem_append_left _ hb)).1⟩
  · obtain ⟨Pb, sti, hmu⟩ := g
    exact done _ hA s' _ _ sti fun h' tk kk => z _ (step Pb.st hmu (hrec _ _ sti) h' tk kk)
inductive ItAtG (X : Cx) (σ : S) (s : Shared) (tg : Expr) (Q : Nat → (Nat → (Addr → Prop) → Heap → Value → Prop) → S → Prop) (it : Value) (s₂ : Shared) : Prop
  | mk (J : Addr) (N : Nat) (P : Nat → (Addr → Prop) → Heap → Value → Prop) (σ₂ : S) (e : it = .ref J) (PP : Post X σ s σ₂ s₂) (IT : ItG X σ₂ s₂.heap J tg N P) (q : Q N P σ₂)
noncomputable def WItG (X : Cx) (iter tg : Expr) (σ : S) (Q : Nat → (Nat → (Addr → Prop) → Heap → Value → Prop) → S → Prop) (E : Value → S → Prop) : Prop :=
  ∀ s, St X σ s.heap → wpAny (model X.prog X.w) X.A (eval iter X.env) (fun x s₁ => wpAny (model X.prog X.w) X.A (pyIter x) (ItAtG X σ s tg Q) (Ew X σ s E) s₁) (Ew X σ s E) s
theorem WIt.toG {iter : Expr} {x : Str} {tp : Pos} {Q : Nat → (Nat → (Addr → Prop) → Heap → Value → Prop) → S → Prop} (h : WIt X iter σ (fun N ds σ₁ => Q N (PN ds) σ₁) E) : WItG X iter (.Name x tp) σ Q E := fun s st =>
  wpAny_mono (h s st) (fun _ _ z => wpAny_mono z (fun _ _ z => by cases z with | mk J N ds σ₂ e PP IT q => exact ⟨J, N, _, σ₂, e, PP, IT.toG, q⟩) fun _ _ z => z) fun _ _ z => z
theorem WX_ForG {tg iter : Expr} {body orelse : List Stmt} {pos : Pos} {Q : FV → S → Prop} (ok : Ok X n) (hc : X.ctx = none) (he : X.env = X.fenv) (I : Nat → S → Prop)
    (h : WItG X iter tg σ (fun N P σ₁ => I 0 σ₁ ∧ (∀ i σ', i < N → I i σ' → ∃ σb, (∀ wr, Ok (X.watch wr) n → Asg (X.watch wr) tg (P i) σ' σb) ∧ ∀ wr, Ok (X.watch wr) n → WXs (X.watch wr) body σb (fun f σ₂ => match f with | .next => I (i + 1) σ₂ | .cont => I (i + 1) σ₂ | .brk => Q .next σ₂ | .ret d => Q (.ret d) σ₂) E) ∧
      (∀ σ', I N σ' → WXs X orelse σ' Q E)) E)
    (hs : ∀ env x, foldedSetIterable iter env x = pure x) : WX X (.For tg iter body orelse pos) σ Q E := fun s st => by
  refine wpAny_For (wpAny_mono (h s st) (fun _ _ z => wpAny_mono z (fun it s₂ hh => ?_) fun _ _ z => z) fun _ _ z => z) (hs _)
  obtain ⟨J, N, P, σ₁, rfl, P12, IT, i0, hbody, hfin⟩ := hh
  obtain ⟨wr, G, g0, gp, self, next, done⟩ := loopG ok hc IT P12.st
  refine codeAny_forLoop_any (fun k s' => ∃ i σ', i + k = N ∧ G i σ' s' ∧ I i σ') (fun k s' hI => ?_) N ⟨0, σ₁, Nat.zero_add _, g0, i0⟩
  obtain ⟨i, σ', hik, g, inv⟩ := hI
  have Pa := P12.trans (gp _ _ _ g)
  by_cases hi : i < N
  · obtain ⟨σb, asg, hb⟩ := hbody i σ' hi inv
    refine next i σ' s' σb _ _ _ hi g (asg wr) (fun okw s₃ P₃ st₃ gn => ?_) fun v s₁ z => z
    refine wpAny_mono (hb wr okw s₃ st₃) (fun f s₄ z => ?_) fun e s₄ z => ?_
    · obtain ⟨gv, σ₄, Pe, r, q⟩ := z
      cases f <;> cases gv <;> first | exact r.elim | skip
      · exact ⟨k - 1, by omega, i + 1, σ₄, by omega, gn _ _ Pe, q⟩
      · exact ⟨FV.next, σ₄, Pa.trans (P₃.trans (post_unwatch Pe)), trivial, q⟩
      · exact ⟨k - 1, by omega, i + 1, σ₄, by omega, gn _ _ Pe, q⟩
      · exact ⟨_, σ₄, Pa.trans (P₃.trans (post_unwatch Pe)), r, q⟩
    · obtain ⟨ea, cls, σ₄, Pe, rfl, x, q⟩ := z
      exact noted_Ew ok he ⟨ea, cls, σ₄, Pa.trans (P₃.trans (post_unwatch Pe)), rfl, exc_unwatch x, q⟩
  · obtain rfl : i = N := by omega
    exact done σ' s' _ _ g fun s₃ P₃ => wpAny_mono ((hfin σ' inv).go (Pa.trans P₃)) (fun _ _ z => z) fun _ _ z => noted_Ew ok he z
theorem WX_For {x : Str} {tp : Pos} {iter : Expr} {body orelse : List Stmt} {pos : Pos} {Q : FV → S → Prop} (ok : Ok X n) (hc : X.ctx = none) (he : X.env = X.fenv) (hx : X.env.kindOf x = some .local) (I : Nat → S → Prop)
    (h : WIt X iter σ (fun N ds σ₁ => I 0 σ₁ ∧ (∀ i σ' wr, i < N → I i σ' → Ok (X.watch wr) n → WXs (X.watch wr) body { σ' with loc := put σ'.loc x (ds i) } (fun f σ₂ => match f with | .next => I (i + 1) σ₂ | .cont => I (i + 1) σ₂ | .brk => Q .next σ₂ | .ret d => Q (.ret d) σ₂) E) ∧
      (∀ σ', I N σ' → WXs X orelse σ' Q E)) E)
    (hs : ∀ env x, foldedSetIterable iter env x = pure x) : WX X (.For (.Name x tp) iter body orelse pos) σ Q E :=
  WX_ForG ok hc he I (WIt.toG fun s st => wpAny_mono (h s st) (fun _ _ z => wpAny_mono z (fun _ _ z => by cases z with | mk J N ds σ₂ e PP IT q => exact ⟨J, N, ds, σ₂, e, PP, IT, q.1, fun i σ' hi inv => ⟨_, fun wr okw => asg_name (sto_local okw hx), fun wr okw => q.2.1 i σ' wr hi inv okw⟩, q.2.2⟩) fun _ _ z => z) fun _ _ z => z) hs
theorem WX_ForC {x : Str} {c : Addr} {tp : Pos} {iter : Expr} {body orelse : List Stmt} {pos : Pos} {Q : FV → S → Prop} (ok : Ok X n) (hc : X.ctx = none) (he : X.env = X.fenv) (hx : X.env.kindOf x = some .cell) (hcl : X.env.cells.lookup x = some c) (I : Nat → S → Prop)
    (h : WIt X iter σ (fun N ds σ₁ => I 0 σ₁ ∧ (∀ i σ', i < N → I i σ' → (∃ v₀, σ'.hp c = some (.cell v₀)) ∧ ∀ wr, Ok (X.watch wr) n → WXs (X.watch wr) body { σ' with hp := upd σ'.hp c (.cell (some (ds i))) } (fun f σ₂ => match f with | .next => I (i + 1) σ₂ | .cont => I (i + 1) σ₂ | .brk => Q .next σ₂ | .ret d => Q (.ret d) σ₂) E) ∧
      (∀ σ', I N σ' → WXs X orelse σ' Q E)) E)
    (hs : ∀ env x, foldedSetIterable iter env x = pure x) : WX X (.For (.Name x tp) iter body orelse pos) σ Q E :=
  WX_ForG ok hc he I (WIt.toG fun s st => wpAny_mono (h s st) (fun _ _ z => wpAny_mono z (fun _ _ z => by cases z with | mk J N ds σ₂ e PP IT q => exact ⟨J, N, ds, σ₂, e, PP, IT, q.1, fun i σ' hi inv => ⟨_, fun wr okw => asg_name (sto_cell okw hx hcl (q.2.1 i σ' hi inv).1.choose_spec), (q.2.1 i σ' hi inv).2⟩, q.2.2⟩) fun _ _ z => z) fun _ _ z => z) hs
end
end Mine
namespace Mine
open PySem PySem.W PySem.Calls PySem.Spec PyProof.Rows
section
variable {X : Cx} {n : Nat} {σ : S} {E : Value → S → Prop}
theorem compLoopG {prog : Program} {w : World} {A : Around} {s : Shared} {elt target iter : Expr} {ifs : List Expr} {scope : Scope} {pos : Pos} {it acc : Value} {env : Env} {R : Result → Shared → Prop} (I : Nat → Shared → Prop)
    (turn : ∀ n s, I n s → wpAny (model prog w) A (pyNext it) (fun r s₁ => match r with
      | none => R (.ok .next) s₁
      | some v => wpAny (model prog w) A (letOwnedTupleGo target it v) (fun _ s₀ => wpAny (model prog w) A (assign target env v) (fun _ s₂ =>
          wpAny (model prog w) A (tests ifs env) (fun ok s₃ =>
            if ok = true then wpAny (model prog w) A (eval elt env) (fun x s₄ =>
              wpAny (model prog w) A (call (.builtin "list.append") [acc, x]) (fun _ s₅ => ∃ m, m < n ∧ I m s₅) (notedBy (model prog w) A env fun e s' => R (.error e) s') s₄) (notedBy (model prog w) A env fun e s' => R (.error e) s') s₃
            else ∃ m, m < n ∧ I m s₃) (notedBy (model prog w) A env fun e s' => R (.error e) s') s₂) (notedBy (model prog w) A env fun e s' => R (.error e) s') s₀) (notedBy (model prog w) A env fun e s' => R (.error e) s') s₁) (notedBy (model prog w) A env fun e s' => R (.error e) s') s)
    (n : Nat) (h : I n s) : codeAny (model prog w) A (.compLoop (.ListComp elt [⟨target, iter, ifs, 0⟩] scope pos) 0 it acc env) R s := by
  refine codeAny_loop rfl I (fun n s hI => ?_) n h
  show wpAny _ A ((compTurn (.ListComp elt [⟨target, iter, ifs, 0⟩] scope pos) 0 it acc env).onRaise (fun x => do noteFrame x env; theTreesLotGoes x)) _ _ s
  refine wpAny_noted ?_
  rw [compTurn_list]
  refine wpAny_bind (wpAny_standAt (wpAny_bind (wpAny_mono (turn n s hI) (fun r s₁ h₁ => ?_) fun _ _ h' => h')))
  cases r with
  | none => exact wpAny_pure h₁
  | some v =>
    refine wpAny_bind (wpAny_mono h₁ (fun _ s₀ h₀ => ?_) fun _ _ h' => h')
    refine wpAny_bind (wpAny_mono h₀ (fun _ s₂ h₂ => wpAny_bind (wpAny_mono h₂ (fun ok s₃ h₃ => ?_) fun _ _ h' => h')) fun _ _ h' => h')
    cases ok with
    | false => exact wpAny_pure ⟨rfl, h₃⟩
    | true =>
      exact wpAny_bind (wpAny_bind (wpAny_mono h₃ (fun x s₄ h₄ => wpAny_bind (wpAny_mono h₄ (fun _ s₅ h₅ => wpAny_pure (wpAny_pure ⟨rfl, h₅⟩)) fun _ _ h' => h')) fun _ _ h' => h'))
structure InC (X Z : Cx) (scope : Scope) (cl : List (Str × Addr)) : Prop where
  K : Z.K = X.K
  w : Z.w = X.w
  prog : Z.prog = X.prog
  ctx : Z.ctx = X.ctx
  scope : Z.env.scope = relabel scope X.env
  cells : Z.env.cells = cl
noncomputable def relS (scope es : Scope) : List (Str × NameKind) := scope.names.map fun (n, k) => if (k == .free && es.kind == .function && es.names.lookup n == some .cell) then (n, .cell) else (n, k)
theorem InC.kind {Z : Cx} {scope es : Scope} {cl : List (Str × Addr)} {x : Str} {k : Option NameKind} (h : InC X Z scope cl) (he : X.env.scope = es) (e : (relS scope es).lookup x = k) : Z.env.kindOf x = k := by
  subst he
  unfold Env.kindOf
  rw [h.scope]; exact e
noncomputable def closL (cells : List (Str × Addr)) : List (Str × NameKind) → List (Str × Addr) → Option (List (Str × Addr))
  | [], acc => some acc
  | (x, k) :: r, acc => if k == .free then (match cells.lookup x with | some c => closL cells r ((x, c) :: acc) | none => none) else closL cells r acc
theorem closL_ok {env : Env} {scope : Scope} {cells cl : List (Str × Addr)} (hc : env.cells = cells) (h : closL cells scope.names [] = some cl) : closureFor scope env = pure cl := by
  subst hc
  have : ∀ (names : List (Str × NameKind)) (acc : List (Str × Addr)), closL env.cells names acc = some cl → (forIn names acc fun (p : Str × NameKind) cs => do
      if p.2 == .free then do let c ← cellOf env p.1; pure (ForInStep.yield ((p.1, c) :: cs)) else pure (ForInStep.yield cs) : Sem (List (Str × Addr))) = pure cl := by
    intro names
    induction names with
    | nil => intro acc e; cases e; rfl
    | cons p r ih =>
      intro acc e
      obtain ⟨x, k⟩ := p
      rw [List.forIn_cons]
      unfold closL at e
      dsimp only
      by_cases hk : (k == NameKind.free) = true
      · rw [if_pos hk] at e ⊢
        cases hl : env.cells.lookup x with
        | none => rw [hl] at e; cases e
        | some c =>
          rw [hl] at e
          have e1 : cellOf env x = pure c := by unfold cellOf; rw [hl]
          rw [e1]
          exact ih _ e
      · rw [if_neg hk] at e ⊢
        exact ih _ e
  have h2 := this scope.names [] h
  exact (congrArg (fun z : Sem (List (Str × Addr)) => z >>= fun s => pure s) h2).trans rfl
theorem post_off {s s' : Shared} {σ' : S} {C : Addr} {h' : Heap} (st : St X σ s.heap) (P : Post X σ s σ' s') (hC : s.heap.get? C = none) (hn : ∃ m, s'.heap.Ns C m) (hmu : ¬ σ'.mu C) (hs : Heap.SameBut C s'.heap h') : Post X σ s σ' { s' with heap := h' } := by
  have ne : ∀ a o, s.heap.get? a = some o → a ≠ C := fun a o g q => by rw [q, hC] at g; cases g
  have sb : ∀ b o, b ≠ C → s'.heap.get? b = some o → h'.get? b = some o := fun b o n g => (hs.2 b n).trans g
  have cb : X.base.get? C = none := by
    cases q : X.base.get? C with
    | none => rfl
    | some o => have := st.base _ o q; rw [hC] at this; cases this
  obtain ⟨h₂, tk', e⟩ := P.upd
  obtain ⟨mC, oC, esC, epC, gC, dC, _⟩ := hn
  refine ⟨⟨h', tk', by rw [e]⟩, ⟨fun a o g nm q => let ⟨g', n'⟩ := P.ext.seq a o g nm q; ⟨sb a o (ne a o g) g', n'⟩, fun a o g nm l q => let ⟨n', sl, g'⟩ := P.ext.obj a o g nm l q; ⟨n', sl, sb a _ (ne a o g) g'⟩, fun a ha o g => let ⟨g', n'⟩ := P.ext.watch a ha o g; ⟨sb a o (ne a o g) g', n'⟩⟩,
    ⟨fun b o g => sb b o (fun q => by rw [q, cb] at g; cases g) (P.st.base b o g), ?_, fun a o g => ?_, P.st.locOff, fun a ha => ?_, fun e he => ?_⟩⟩
  · obtain ⟨m, hn, hm⟩ := P.st.names
    obtain ⟨m0, ⟨o0, _, _, g0, _⟩, _⟩ := st.names
    exact ⟨m, hn.at' fun o g => sb _ o (ne _ _ g0) g, fun y d e => let ⟨v, q, r⟩ := hm y d e; ⟨v, q, r.monoS fun b ob gb nb qb => ⟨sb b ob (fun z => by rw [z, gC] at gb; cases gb; rw [dC] at qb; exact qb) gb, nb⟩⟩⟩
  · obtain ⟨y, z⟩ := P.st.own a o g
    have an : a ≠ C := fun q => hmu (by show σ'.hp C ≠ none; rw [← q, g]; exact Option.some_ne_none _)
    exact ⟨y.mono (L := C) (prot := []) ⟨fun b ob gb nb qb => ⟨sb b ob (fun z => by rw [z, gC] at gb; cases gb; rw [dC] at qb; exact qb) gb, nb⟩, fun b ob gb nb lb qb => ⟨nb, ob.slots, sb b ob lb gb⟩, fun b hb => nomatch hb⟩ (hs.2 a an), z⟩
  · obtain ⟨z, o, vs, g, d⟩ := P.st.prot a ha
    obtain ⟨_, o1, vs1, g1, _⟩ := st.prot a ha
    exact ⟨z, o, vs, sb a o (ne a _ g1) g, d⟩
  · obtain ⟨z, L, o, es, ep, hfr, hb, hmu, g, d⟩ := P.st.frs e he
    obtain ⟨_, L', o', es', ep', hf', hb', hm', g', d'⟩ := st.frs e he
    rw [hfr] at hf'; cases hf'
    exact ⟨z, L, o, es, ep, hfr, hb, hmu, sb L o (ne L o' g') g, d⟩
theorem comp_block {tg elt iter : Expr} {pos : Pos} {ifs : List Expr} {scope : Scope} {cl : List (Str × Addr)} {s₂ : Shared} {J : Addr} {N : Nat} {P : Nat → (Addr → Prop) → Heap → Value → Prop} {keep : Nat → Bool} {es : Nat → V} {RR : Value → Addr → Result → Shared → Prop} {E' : Value → Shared → Prop} (ok : Ok X n) (hc : X.ctx = none)
    (hcell : ∀ y ∈ scope.names, y.2 ≠ .cell) (hkind : scope.kind = .function) (st : St X σ s₂.heap) (IT : ItG X σ s₂.heap J tg N P) (hN : N ≤ 10000)
    (item : ∀ Z D i σ', i < N → σ.hp D = none → σ'.hp = upd σ.hp D (.lst (accOf keep es i)) → InC X Z scope cl → Ok Z n → ∃ σb, Asg Z tg (P i) σ' σb ∧ W Z (tests ifs Z.env) RB σb
      (fun b σ₂ => b = keep i ∧ σ₂.hp = upd σ.hp D (.lst (accOf keep es i)) ∧ (b = true → W Z (eval elt Z.env) VM σ₂ (fun v σ₃ => v = es i ∧ σ₃.hp = upd σ.hp D (.lst (accOf keep es i))) F0)) F0)
    (hRR : ∀ D C s', s₂.heap.get? C = none → σ.hp D = none → σ.hp C = none → D ≠ C → Post X σ s₂ ⟨σ.loc, upd σ.hp D (.lst (accOf keep es N))⟩ s' → (∃ m, s'.heap.Ns C m) → RR (.ref D) C (.ok .next) s') :
    wpAny (model X.prog X.w) X.A (newList []) (fun acc s₃ => wpAny (model X.prog X.w) X.A (newFunctionEnv scope X.env.globals cl [] X.env.qual none .none (some X.env)) (fun cenv s₄ =>
      codeAny (model X.prog X.w) X.A (.compStart (.ListComp elt [⟨tg, iter, ifs, 0⟩] scope pos) 0 (.ref J) acc { cenv with scope := relabel scope X.env }) (RR acc cenv.locals) s₄) E' s₃) E' s₂ := by
  obtain ⟨m₀, hn₀, hm₀⟩ := st.names
  have nD := new_none st
  refine wpAny_newList ?_
  have P3 := post_write (h' := s₂.heap.push { cls := .type "list", data := .seq ([] : List Value).toArray }) (tk := s₂.toks) (a := s₂.heap.objs.size) (o := .lst []) ok st (fun b o _ _ e => Heap.get?_push_of_some _ e) ⟨m₀, hn₀.push _, hm₀⟩ (.inr (Heap.get?_none_of_le (Nat.le_refl _)))
      fun _ _ mv => ⟨[], 0, Heap.get?_push_size _ rfl, .nil⟩
  refine wpAny_newFunctionEnv hcell (by intro y hy; simp at hy) (fun h₁ hns₁ hsb₁ => ?_) hkind
  dsimp only at hns₁ hsb₁ ⊢
  have hCs : (s₂.heap.push { cls := .type "list", data := .seq ([] : List Value).toArray }).objs.size = s₂.heap.objs.size + 1 := Heap.size_push ..
  have hC0 : s₂.heap.get? (s₂.heap.push { cls := .type "list", data := .seq ([] : List Value).toArray }).objs.size = none := by rw [hCs]; exact Heap.get?_none_of_le (Nat.le_succ _)
  have hDC : s₂.heap.objs.size ≠ (s₂.heap.push { cls := .type "list", data := .seq ([] : List Value).toArray }).objs.size := by rw [hCs]; exact (Nat.succ_ne_self _).symm
  have hCn : σ.hp (s₂.heap.push { cls := .type "list", data := .seq ([] : List Value).toArray }).objs.size = none := by
    cases q : σ.hp (s₂.heap.push { cls := .type "list", data := .seq ([] : List Value).toArray }).objs.size with
    | none => rfl
    | some o => obtain ⟨ob, g⟩ := (st.own _ o q).1.there; rw [hC0] at g; cases g
  generalize hH : s₂.heap.push { cls := .type "list", data := .seq ([] : List Value).toArray } = H at P3 hns₁ hsb₁ hC0 hDC hCn ⊢
  have hC : H.get? H.objs.size = none := Heap.get?_none_of_le (Nat.le_refl _)
  have k₁ : ∀ b o, H.get? b = some o → h₁.get? b = some o := fun b o e => hsb₁.extBut b o (Nat.ne_of_lt (Heap.lt_size e)) (Heap.get?_push_of_some _ e)
  have kk : ∀ b o, s₂.heap.get? b = some o → h₁.get? b = some o := fun b o e => k₁ b o (hH ▸ Heap.get?_push_of_some _ e)
  have nf := new_facts P3.st
  have ce : CEnv X (compEnvC scope cl H.objs.size X.env) := ⟨hkind, rfl, rfl, rfl⟩
  have ab : X.base.objs.size ≤ H.objs.size := by
    obtain ⟨m, hn, _⟩ := P3.st.names
    exact Nat.le_trans ok.above (Nat.le_of_lt hn.lt)
  have okc := ok_comp (cenv := compEnvC scope cl H.objs.size X.env) ok ce ab nf.2.2
  have st₀ := st_comp (cenv := compEnvC scope cl H.objs.size X.env) (loc0 := []) P3.st hC hns₁ k₁ (fun y d e => by simp [lk] at e)
  have IT' : ItG (X.comp (compEnvC scope cl H.objs.size X.env)) ⟨[], upd σ.hp s₂.heap.objs.size (.lst [])⟩ h₁ J tg N P := IT.grow kk fun b o g nm mm => nm (by
    have : upd σ.hp s₂.heap.objs.size (.lst []) b ≠ none := mm
    rwa [upd_ne (Nat.ne_of_lt (Heap.lt_size g))] at this)
  obtain ⟨wr, G, g0, gp, self, next, done⟩ := loopG (s₂ := { s₂ with heap := h₁, toks := s₂.toks + ([] : List (Str × Value)).length }) okc hc IT' st₀
  have lp : codeAny (model X.prog X.w) X.A (.compLoop (.ListComp elt [⟨tg, iter, ifs, 0⟩] scope pos) 0 (.ref J) (.ref s₂.heap.objs.size) (compEnvC scope cl H.objs.size X.env)) (RR (.ref s₂.heap.objs.size) H.objs.size) { s₂ with heap := h₁, toks := s₂.toks + ([] : List (Str × Value)).length } := by
    refine compLoopG (fun k s' => ∃ i σ', i + k = N ∧ G i σ' s' ∧ σ'.hp = upd σ.hp s₂.heap.objs.size (.lst (accOf keep es i))) (fun k s' hI => ?_) N ⟨0, _, Nat.zero_add _, g0, rfl⟩
    obtain ⟨i, σ', hik, g, hhp⟩ := hI
    by_cases hi : i < N
    · have it' := fun okw => item ((X.comp (compEnvC scope cl H.objs.size X.env)).watch wr) s₂.heap.objs.size i σ' hi nD hhp ⟨rfl, rfl, rfl, rfl, rfl, rfl⟩ okw
      by_cases okw : Ok ((X.comp (compEnvC scope cl H.objs.size X.env)).watch wr) n
      · obtain ⟨σb, asg, hb⟩ := it' okw
        refine next i σ' s' σb _ _ _ hi g (fun _ => asg) (fun _ s₃ P₃ st₃ gn => ?_) fun v s₁ z => z
        refine wpAny_mono (hb s₃ st₃) (fun ok s₄ z => ?_) fun _ _ z => z.elim0
        obtain ⟨b, σ₂, Pe, e, hbk, hp₂, helt⟩ := z
        cases e
        cases hok : ok
        · simp only [Bool.false_eq_true, if_false]
          exact ⟨k - 1, by omega, i + 1, σ₂, by omega, gn _ _ Pe, by rw [hp₂, accOf_succ, ← hbk, hok]; rfl⟩
        · simp only [if_true]
          refine wpAny_mono ((helt hok).go Pe) (fun v s₅ z => ?_) fun _ _ z => z.elim0
          obtain ⟨vv, σ₃, Pf, vm, rfl, hp₃⟩ := z
          have hDl : σ₃.hp s₂.heap.objs.size = some (.lst (accOf keep es i)) := by rw [hp₃, upd_self]
          refine wpAny_mono (c_append (E := F0) (Q := fun d σ₄ => d = .none ∧ σ₄ = { σ₃ with hp := upd σ₃.hp s₂.heap.objs.size (.lst (accOf keep es i ++ [es i])) }) okw hDl (Nat.le_trans (accOf_len _ _ _) (by omega)) ⟨rfl, rfl⟩ [.ref s₂.heap.objs.size, v] s₅ Pf.st (.cons (.ref _) (.cons vm .nil))) (fun _ s₆ z => ?_) fun _ _ z => z.elim0
          obtain ⟨_, _, Pg, _, _, rfl⟩ := z
          refine ⟨k - 1, by omega, i + 1, _, by omega, gn _ _ (Pf.trans Pg), ?_⟩
          show upd σ₃.hp _ _ = _
          rw [hp₃, upd_upd, accOf_succ, ← hbk, hok]; rfl
      · refine next i σ' s' σ' (fun _ => False) _ _ hi g (fun okw' => absurd okw' okw) (fun okw' => absurd okw' okw) fun v s₁ z => wpAny_mono z (fun _ _ z => wpAny_mono z (fun _ _ z => z.elim) fun _ _ z => z) fun _ _ z => z
    · obtain rfl : i = N := by omega
      refine done σ' s' _ _ g fun s₃ P₃ => ?_
      have PP := (gp _ _ _ g).trans P₃
      have Pf := comp_back (s := { s₂ with heap := H }) (σ := { σ with hp := upd σ.hp s₂.heap.objs.size (.lst []) }) P3.st hC k₁ ⟨_, _, rfl⟩ PP (h' := s₃.heap) ⟨rfl, fun _ _ => rfl⟩
      obtain ⟨m, hn, _⟩ := PP.st.names
      rw [hhp] at Pf
      exact hRR _ _ _ hC0 nD hCn hDC (P3.trans Pf) ⟨m, hn⟩
  exact codeAny_compStart_list lp (self 0 _ _ _ _ g0 lp)
theorem WX_AssignCompG {tg elt iter : Expr} {pos : Pos} {ifs : List Expr} {scope : Scope} {cl : List (Str × Addr)} {y : Str} {py spos : Pos} {Q : FV → S → Prop} (ok : Ok X n) (hc : X.ctx = none)
    (hclos : closureFor scope X.env = pure cl) (hcell : ∀ y ∈ scope.names, y.2 ≠ .cell) (hkind : scope.kind = .function) (hnames : ∀ y ∈ scope.names, y.2 = .local → scope.names.lookup y.1 = some .local)
    (hsw : swapsWith (.ListComp elt [⟨tg, iter, ifs, 0⟩] scope pos) (some (.Name y py)) spos.line X.env = pure true) (hy : X.env.kindOf y = some .local)
    (h : WItG X iter tg σ (fun N P σ₁ => N ≤ 10000 ∧ ∃ keep es, (∀ Z D i σ', i < N → σ₁.hp D = none → σ'.hp = upd σ₁.hp D (.lst (accOf keep es i)) → InC X Z scope cl → Ok Z n → ∃ σb, Asg Z tg (P i) σ' σb ∧ W Z (tests ifs Z.env) RB σb
      (fun b σ₂ => b = keep i ∧ σ₂.hp = upd σ₁.hp D (.lst (accOf keep es i)) ∧ (b = true → W Z (eval elt Z.env) VM σ₂ (fun v σ₃ => v = es i ∧ σ₃.hp = upd σ₁.hp D (.lst (accOf keep es i))) F0)) F0) ∧ Q .next { σ₁ with loc := put σ₁.loc y (.lst (accOf keep es N)) }) E)
    (hs : ∀ env x, foldedSetIterable iter env x = pure x) : WX X (.Assign [.Name y py] (.ListComp elt [⟨tg, iter, ifs, 0⟩] scope pos) spos) σ Q E := fun s st => by
  rw [exec_Assign_Name_used _ _ _ _ hsw]
  refine wpAny_bind (wpAny_standAt (wpAny_bind ?_))
  show wpAny _ _ (do let _ ← comprehension (.ListComp elt [⟨tg, iter, ifs, 0⟩] scope pos) scope X.env _ (newList []) false (eval iter X.env) (some (assign (.Name y py) X.env))) _ _ s
  refine wpAny_bind (wpAny_mono (wpAny_comprehension_free (use := some (assign (.Name y py) X.env)) (Q := fun _ s' => Qw X σ s FM Q .next s') rfl (hs _) hclos hkind hnames (wpAny_mono (h s st) (fun _ _ z => wpAny_mono z (fun it s₂ hh => ?_) fun _ _ z => z) fun _ _ z => z)) (fun _ s' hq => wpAny_pure (wpAny_pure hq)) fun _ _ e => e)
  obtain ⟨J, N, P, σ₁, rfl, P12, IT, hN, keep, es, item, q⟩ := hh
  refine comp_block (RR := fun acc C => compPost (model X.prog X.w) X.A (Ew X σ s E) (some (assign (.Name y py) X.env)) (fun _ s' => Qw X σ s FM Q .next s') acc C) ok hc hcell hkind P12.st IT hN item fun D C s' hC hD hCn hDC PP hn => ?_
  obtain ⟨m, oC, esC, epC, gC, dC, rC⟩ := hn
  have hs : ∀ a o, σ₁.hp a = some o → upd σ₁.hp D (.lst (accOf keep es N)) a = some o := fun a o e => by
    rw [upd_ne (fun q => by rw [q, hD] at e; cases e)]; exact e
  have P5 := post_drop (hp := σ₁.hp) PP hs (fun _ _ e => e)
  have vm : VM σ₁.mu s'.heap (.ref D) (.lst (accOf keep es N)) := Fz.vm (σ := ⟨σ₁.loc, upd σ₁.hp D (.lst (accOf keep es N))⟩) PP.st hs (.own upd_self hD) (.ref _)
  show wpAny _ _ (assign (.Name y py) X.env (.ref D)) _ _ _
  refine wpAny_assign_Name (wpAny_mono (sto_local ok hy _ s' P5.st vm) (fun _ s₃ z => ?_) fun _ _ z => z.elim)
  obtain ⟨_, _, P6, _, rfl⟩ := z
  have CL : C ≠ X.env.locals := fun z => by
    obtain ⟨m0, ⟨o0, _, _, g0, _⟩, _⟩ := P12.st.names
    rw [← z, hC] at g0; cases g0
  obtain ⟨_, sl, gC'⟩ := P6.ext.obj C oC gC (fun z => z hCn) CL fun vs q => by rw [dC] at q; cases q
  refine ⟨m, ⟨_, esC, epC, gC', dC, rC⟩, fun h' hsb => ?_⟩
  exact ⟨.next, _, P12.trans (post_off P12.st (P5.trans P6) hC ⟨m, _, esC, epC, gC', dC, rC⟩ (fun z => z hCn) hsb), trivial, q⟩
theorem sub_one {x : Str} {d : V} {loc : List (Str × V)} : ∀ y e, lk [(x, d)] y = some e → lk (put loc x d) y = some e := fun y e h => by
  by_cases hy : y = x
  · subst hy; rw [lk_put_self]; simpa [lk] using h
  · have : (y == x) = false := by simpa using hy
    simp [lk, List.lookup_cons, this] at h
theorem swaps_comp {env : Env} {sc : Scope} {elt : Expr} {gs : List Comprehension} {scope : Scope} {pos py : Pos} {y : Str} {line : Nat} (he : env.scope = sc) (hk : sc.kind = .function) (h : (sc.kind == .function && sc.names.lookup y == some .local && py.line == pos.line && !(scope.names.any fun (n, k) => n == y && (k == .local || k == .cell))) = true) :
    swapsWith (.ListComp elt gs scope pos) (some (.Name y py)) line env = pure true := by
  subst he
  have e : env.blockKind = env.scope.kind := by unfold Env.blockKind; rw [hk]; rfl
  rw [← e] at h
  exact congrArg pure h
theorem WX_AssignComp {x : Str} {px pos : Pos} {elt iter : Expr} {ifs : List Expr} {scope : Scope} {cl : List (Str × Addr)} {y : Str} {py spos : Pos} {Q : FV → S → Prop} (ok : Ok X n) (hc : X.ctx = none)
    (hclos : closureFor scope X.env = pure cl) (hcell : ∀ y ∈ scope.names, y.2 ≠ .cell) (hkind : scope.kind = .function) (hnames : ∀ y ∈ scope.names, y.2 = .local → scope.names.lookup y.1 = some .local) (hx : scope.names.lookup x = some .local)
    (hsw : swapsWith (.ListComp elt [⟨.Name x px, iter, ifs, 0⟩] scope pos) (some (.Name y py)) spos.line X.env = pure true) (hy : X.env.kindOf y = some .local)
    (h : WIt X iter σ (fun N ds σ₁ => N ≤ 10000 ∧ ∃ keep es, (∀ Z D i, i < N → σ₁.hp D = none → InC X Z scope cl → Ok Z n → W Z (tests ifs Z.env) RB ⟨[(x, ds i)], upd σ₁.hp D (.lst (accOf keep es i))⟩
      (fun b σ₂ => b = keep i ∧ σ₂.hp = upd σ₁.hp D (.lst (accOf keep es i)) ∧ (b = true → W Z (eval elt Z.env) VM σ₂ (fun v σ₃ => v = es i ∧ σ₃.hp = upd σ₁.hp D (.lst (accOf keep es i))) F0)) F0) ∧ Q .next { σ₁ with loc := put σ₁.loc y (.lst (accOf keep es N)) }) E)
    (hs : ∀ env x, foldedSetIterable iter env x = pure x) : WX X (.Assign [.Name y py] (.ListComp elt [⟨.Name x px, iter, ifs, 0⟩] scope pos) spos) σ Q E :=
  WX_AssignCompG ok hc hclos hcell hkind hnames hsw hy (WIt.toG fun s st => wpAny_mono (h s st) (fun _ _ z => wpAny_mono z (fun _ _ z => by cases z with | mk J N ds σ₂ e PP IT z => obtain ⟨hN, keep, es, item, q⟩ := z; exact ⟨J, N, ds, σ₂, e, PP, IT, hN, keep, es, fun Z D i σ' hi hD hh inc okZ =>
    ⟨{ σ' with loc := put σ'.loc x (ds i) }, asg_name (sto_local okZ (by unfold Env.kindOf; rw [inc.scope]; exact lookup_relabel_local hx)), W.drop ⟨sub_one, fun a o e => by show σ'.hp a = some o; rw [hh]; exact e⟩ (item Z D i hi hD inc okZ)⟩, q⟩) fun _ _ z => z) fun _ _ z => z) hs
end
end Mine
namespace Mine
open PySem PySem.W PySem.Calls PySem.Spec PyProof.Rows
section
variable {X : Cx} {n : Nat} {σ : S} {E : Value → S → Prop}
end
end Mine
namespace Mine
open PySem PySem.W PySem.Calls PySem.Spec PyProof.Rows
noncomputable def fdAt (K : Frag) (a : Addr) : FuncData := match K.lookup a with
  | some ⟨_, _, .func fd, _⟩ => fd
  | _ => default
noncomputable def bodyAt (K : Frag) (a : Addr) : List Stmt := match (fdAt K a).body with
  | .stmts b => b
  | _ => []
noncomputable def isFd (K : Frag) (a : Addr) : Bool := match K.lookup a with
  | some ⟨_, _, .func _, _⟩ => true
  | _ => false
noncomputable def fnOk (K : Frag) (a : Addr) : Bool :=
  isFd K a && codeIn K (fdAt K a).code (fdAt K a).qualname && (match (fdAt K a).body with | .stmts _ => true | _ => false) && (fdAt K a).globals == mainGlobals && (fdAt K a).builtins == builtinsNs &&
  (match (fdAt K a).scope.kind with | .function => true | _ => false) && !(fdAt K a).scope.isCoroutine && !(fdAt K a).scope.isGenerator && (fdAt K a).scope.names.all fun x => match x.2 with | .cell => false | _ => true
theorem FnIs.of {K : Frag} {a : Addr} (h : fnOk K a = true) : FnIs K a (fdAt K a) (bodyAt K a) := by
  unfold fnOk at h
  simp only [Bool.and_eq_true] at h
  obtain ⟨⟨⟨⟨⟨⟨⟨⟨h1, h2⟩, h3⟩, h4⟩, h5⟩, h6⟩, h7⟩, h8⟩, h9⟩ := h
  refine ⟨?_, h2, ?_, ?_, ?_, ?_, ?_, ?_, ?_⟩
  · unfold isFd at h1
    split at h1
    · rename_i q
      rename_i c d fd sl
      have e : fdAt K a = fd := by unfold fdAt; rw [q]
      exact ⟨c, d, sl, by rw [e]; exact q⟩
    · cases h1
  · unfold bodyAt
    split at h3
    · rename_i q; rw [q]
    · cases h3
  · exact eq_of_beq h4
  · exact eq_of_beq h5
  · split at h6
    · assumption
    · cases h6
  · simpa using h7
  · simpa using h8
  · intro x hx e
    have := List.all_eq_true.mp h9 x hx
    rw [e] at this
    cases this
end Mine
namespace Mine
open PySem PySem.W PySem.Calls PySem.Spec PyProof.Rows
section
variable {X : Cx} {n : Nat} {σ : S} {E : Value → S → Prop}
theorem lk_hit {x : Str} {d : V} {r : List (Str × V)} : lk ((x, d) :: r) x = some d := by simp [lk, List.lookup]
theorem lk_skip {x y : Str} {d e : V} {r : List (Str × V)} (h : x ≠ y) (k : lk r x = some d) : lk ((y, e) :: r) x = some d := by
  unfold lk at *
  rw [List.lookup_cons, show (x == y) = false from by simpa using h]
  exact k
theorem lk_cut {x y : Str} {e : V} {r : List (Str × V)} (h : x ≠ y) (k : lk r x = none) : lk ((y, e) :: r) x = none := by
  unfold lk at *
  rw [List.lookup_cons, show (x == y) = false from by simpa using h]
  exact k
theorem lkp_skip {x y : Str} {d e : V} {r : List (Str × V)} (h : x ≠ y) (k : lk r x = some d) : lk (put r y e) x = some d := (lk_put_ne h).trans k
noncomputable def clsOk (K : Frag) (C : Addr) (name : Str) : Bool := match findIn K (.ref C) name with
  | some attr => noGet K attr
  | none => false
theorem KGet.of {K K' : Frag} {C : Addr} {name : Str} (hK : K = K') (h1 : plainGet K' C name = true) (h2 : hasDictIn K' C = true) (h3 : clsOk K' C name = true) : KGet K C name := by
  subst hK
  refine ⟨h1, h2, ?_⟩
  unfold clsOk at h3
  split at h3
  · rename_i attr q; exact ⟨attr, q, h3⟩
  · cases h3
theorem KSet.of {K K' : Frag} {C : Addr} {name : Str} (hK : K = K') (h1 : findIn K' (.ref C) "__setattr__" = some (some (.builtin "object.__setattr__"))) (h2 : plainOver K' C = true) (h3 : takerIn K' C name = some none) (h4 : hasDictIn K' C = true) : KSet K C name := by subst hK; exact ⟨h1, h2, h3, h4⟩
theorem KMeth.of {K K' : Frag} {C f : Addr} {name : Str} (hK : K = K') (h1 : plainGet K' C name = true) (h2 : findIn K' (.ref C) name = some (some (.ref f))) (h3 : isFn K' (.ref f) = true) (h4 : keepIn K' (.ref f) = true) : KMeth K C name f := by subst hK; exact ⟨h1, h2, h3, h4⟩
theorem KB.of {K' : Frag} {x : Str} {v : Value} (hK : X.K = K') (h1 : X.env.kindOf x = some .globalImplicit) (h2 : nsIn K' mainGlobals x = some none) (h3 : bootBuiltins x = some v) : KB X x v := by subst hK; exact ⟨h1, h2, h3⟩
theorem W_gl {K' : Frag} {x : Str} {pos : Pos} {v : Value} {Q : V → S → Prop} (ok : Ok X n) (hK : X.K = K') (hx : X.env.kindOf x = some .globalImplicit) (e : nsIn K' mainGlobals x = some (some v)) (hd : (x == ("__debug__" : Str)) = false) (q : Q (.lit v) σ) : WE X (.Name x pos) σ Q E :=
  W_global ok hx (by rw [hK]; exact e) q hd
theorem W_bi {K' : Frag} {x : Str} {pos : Pos} {v : Value} {Q : V → S → Prop} (ok : Ok X n) (hK : X.K = K') (hx : X.env.kindOf x = some .globalImplicit) (e : nsIn K' mainGlobals x = some none) (hv : bootBuiltins x = some v) (hn : x ≠ "__name__") (hd : (x == ("__debug__" : Str)) = false) (q : Q (.lit v) σ) : WE X (.Name x pos) σ Q E :=
  W_builtin ok hx (by rw [hK]; exact e) hv hn q hd
theorem keeps_fn {K' : Frag} {f : Value} (hK : X.K = K') (h : keepIn K' f = true) : Keeps X f := keeps_of (by rw [hK]; exact h)
theorem ht_bi {K' : Frag} {x : Str} {pos : Pos} {v : Value} (ok : Ok X n) (hK : X.K = K') (hx : X.env.kindOf x = some .globalImplicit) (e : nsIn K' mainGlobals x = some none) (hv : bootBuiltins x = some v) (hn : x ≠ "__name__") (hd : (x == ("__debug__" : Str)) = false) :
    ∀ (A : Around) (σ' : S) (s : Shared) (Q' : Value → Shared → Prop) (E' : Value → Shared → Prop), St X σ' s.heap → Q' v s → wpAny (model X.prog X.w) A (eval (.Name x pos) X.env) Q' E' s := fun A σ' s Q' E' st q =>
  Name_function_global ok.kind hx (loadGlobal_builtin (ok.genv ▸ ok.top.g.keeps st.base) (mg_none_of ok.inK ok.top.g (by rw [hK]; exact e)) (ok.benv ▸ ok.top.b.keeps st.base) ((ok.top.builtins x hn).trans hv) q) hd
theorem W_field {x attr : Str} {xp pos : Pos} {a C dx : Addr} {fs : List (Str × V)} {d : V} {Q : V → S → Prop} (ok : Ok X n) (hx : X.env.kindOf x = some .local) (hd : (x == ("__debug__" : Str)) = false) (ex : lk σ.loc x = some (.ref a)) (h1 : σ.hp a = some (.inst C dx)) (h2 : σ.hp dx = some (.dict fs)) (kg : KGet X.K C attr)
    (e : lk fs attr = some d) (hl : ∀ w, d ≠ .lit w) (q : Q d σ) : WE X (.Attribute (.Name x xp) attr pos) σ Q E :=
  W_Attr (W_local ok hx ex (get_field ok h1 h2 kg e hl q) hd)
structure In (X Y : Cx) (fd : FuncData) : Prop where
  K : Y.K = X.K
  w : Y.w = X.w
  prog : Y.prog = X.prog
  ctx : Y.ctx = X.ctx
  env : Y.env = Y.fenv
  scope : Y.env.scope = fd.scope
theorem Call.fn' {K' : Frag} {f : Addr} {ds : List V} {names : List Str} {loc0 : List (Str × V)} {Q : V → S → Prop} (ok : Ok X (n + 1)) (hK : X.K = K') (hf : fnOk K' f = true)
    (hb : ∀ vs : List Value, vs.length = names.length → ∀ S, peek K' S (bindArgs (fdAt K' f) ⟨vs, []⟩) = some (names.zip vs)) (hl : (names.all fun x => (fdAt K' f).scope.names.lookup x == some .local) = true) (hn : names.Nodup) (hlen : ds.length = names.length) (h0 : loc0 = names.zip ds)
    (h : ∀ Y, Ok Y n → In X Y (fdAt K' f) → WXs Y (bodyAt K' f) ⟨loc0, σ.hp⟩ (fun fl σ' => Q (retV fl) ⟨σ.loc, σ'.hp⟩) (fun c σ' => E c ⟨σ.loc, σ'.hp⟩)) : Call X (.ref f) ds σ Q E := by
  subst h0
  subst hK
  exact Call.fn ok (FnIs.of hf) (fun vs s st vm => binds_place (fun vs e => kp_binds (st.inK ok) (hb vs e)) hl hn hlen vm) fun L okL => h _ okL ⟨rfl, rfl, rfl, rfl, rfl, rfl⟩
theorem len_one {vs : List Value} {n : Nat} (e : vs.length = n + 1) : ∃ v ws, vs = v :: ws ∧ ws.length = n := by
  cases vs with
  | nil => cases e
  | cons v ws => exact ⟨v, ws, rfl, Nat.succ.inj e⟩
theorem bind1 {P : List Value → Prop} (h : ∀ v, P [v]) : ∀ vs : List Value, vs.length = 1 → P vs := fun vs e => by
  obtain ⟨v, ws, rfl, e'⟩ := len_one e
  cases List.eq_nil_of_length_eq_zero e'; exact h v
theorem bind2 {P : List Value → Prop} (h : ∀ v w, P [v, w]) : ∀ vs : List Value, vs.length = 2 → P vs := fun vs e => by
  obtain ⟨v, ws, rfl, e'⟩ := len_one e
  exact bind1 (P := fun ws => P (v :: ws)) (fun w => h v w) ws e'
theorem bind3 {P : List Value → Prop} (h : ∀ u v w, P [u, v, w]) : ∀ vs : List Value, vs.length = 3 → P vs := fun vs e => by
  obtain ⟨v, ws, rfl, e'⟩ := len_one e
  exact bind2 (P := fun ws => P (v :: ws)) (fun w => h v w) ws e'
theorem kindE {env : Env} {fd : FuncData} {x : Str} {k : Option NameKind} (h : env.scope = fd.scope) (e : fd.scope.names.lookup x = k) : env.kindOf x = k := by unfold Env.kindOf; rw [h]; exact e
end
end Mine
namespace Mine
open PySem PySem.W PySem.Calls PySem.Spec PyProof.Rows
section
variable {X : Cx} {n : Nat} {σ : S} {E : Value → S → Prop}
theorem Call.make' {K' : Frag} {fI C : Addr} {names : List Str} {ds : List V} {loc0 : Addr → List (Str × V)} {Q : V → S → Prop} (ok : Ok X (n + 1)) (hK : X.K = K') (km : KMake K' C fI) (hf : fnOk K' fI = true)
    (hb : ∀ vs : List Value, vs.length = names.length → ∀ S, peek K' S (bindArgs (fdAt K' fI) ⟨vs, []⟩) = some (names.zip vs)) (hl : (names.all fun x => (fdAt K' fI).scope.names.lookup x == some .local) = true) (hn : names.Nodup) (hlen : ds.length + 1 = names.length) (h0 : ∀ a, loc0 a = names.zip (.ref a :: ds))
    (h : ∀ Y a dx, Ok Y n → In X Y (fdAt K' fI) → σ.hp a = none → σ.hp dx = none → a ≠ dx → WXs Y (bodyAt K' fI) ⟨loc0 a, upd (upd σ.hp dx (.dict [])) a (.inst C dx)⟩ (fun fl σ' => retV fl = .none ∧ Q (.ref a) ⟨σ.loc, σ'.hp⟩) (fun c σ' => E c ⟨σ.loc, σ'.hp⟩)) : Call X (.ref C) ds σ Q E := by
  subst hK
  refine Call.make ok km (FnIs.of hf) (loc0 := loc0) (fun a vs s mu inK vm => ?_) fun A' a dx L hA ha hd hne okL => h _ a dx okL ⟨rfl, rfl, rfl, rfl, rfl, rfl⟩ ha hd hne
  rw [h0]
  exact binds_place (fun vs e => kp_binds inK (hb vs e)) hl hn (by simpa using hlen) vm
end
end Mine
namespace Mine
open PySem PySem.W PySem.Calls PySem.Spec PyProof.Rows
theorem vms_ints {mu : Addr → Prop} {h : Heap} {vs : List Value} {ns : List Int} (x : IntsAre vs ns) : VMs mu h vs (ns.map .int) := by
  induction x with
  | nil => exact .nil
  | cons n t _ ih => exact .cons (.int n t) ih
end Mine
namespace Mine
open PySem PySem.Builtin.Str
theorem join_cons (sep x : Str) (r : List Str) (h : r ≠ []) : (Str.join sep (x :: r)).cps.toList = x.cps.toList ++ sep.cps.toList ++ (Str.join sep r).cps.toList := by
  cases r with
  | nil => exact absurd rfl h
  | cons y r =>
    show (x ++ sep ++ Str.join sep (y :: r)).cps.toList = _
    rw [Str.cps_append, Str.cps_append]; simp
noncomputable def jn (sep : List Nat) : List (List Nat) → List Nat
  | [] => []
  | [x] => x
  | x :: y :: r => x ++ sep ++ jn sep (y :: r)
theorem joinL_eq (sep : List Nat) (ls : List (List Nat)) : joinL sep ls = jn sep ls := by
  unfold joinL Txt.join
  rw [StrLaws.glued_eq_join]
  induction ls with
  | nil => rfl
  | cons x r ih =>
    cases r with
    | nil => rfl
    | cons y r =>
      rw [List.map_cons, join_cons _ _ _ (by simp), ih]; rfl
theorem jn_nil (ls : List (List Nat)) : jn [] ls = ls.flatten := by
  induction ls with
  | nil => rfl
  | cons x r ih =>
    cases r with
    | nil => simp [jn]
    | cons y r => rw [jn, ih]; simp
end Mine
namespace Mine
open PySem PySem.W PySem.Calls PySem.Spec PyProof.Rows
section
variable {X : Cx} {n : Nat} {σ : S} {E : Value → S → Prop} {Q : V → S → Prop}
theorem o_divi {a b : Int} (hb : b ≠ 0) (hs : b.natAbs < 1073741824) (q : Q (.int (a.fdiv b)) σ) : Op2 X (binaryOp .FloorDiv) (.int a) (.int b) σ Q E := fun _ _ _ st va wb => by
  cases va; cases wb; exact PyProof.Rows.floordiv_int hb (qw_same st _ (.int _ _) q) (.inl (PyProof.noPylong_small hs))
theorem c_strint {a : Int} (h0 : 0 ≤ a) (h1 : a < 10 ^ 10) (q : Q (.str (Str.ofString (toString a)).cps.toList) σ) : Call X (.type "str") [.int a] σ Q E := fun vs s st vm => by
  obtain ⟨v, rfl, va⟩ := vm.one
  cases va
  exact PySem.P.str_of_int (shown (N := 2 ^ 1920) (by omega) (by omega) (Int.le_refl _)) (qw_same st _ (.str _ _) q)
theorem c_intstr {x : List Nat} {a : Int} (hx : x.length ≤ 600) (h : PySem.intText? ⟨x.toArray⟩ = some a) (q : Q (.int a) σ) : Call X (.type "int") [.str x] σ Q E := fun vs s st vm => by
  obtain ⟨v, rfl, va⟩ := vm.one
  obtain ⟨t, rfl⟩ := va.strI
  exact PySem.W.KIN.call_text h (by simp only [Str.length, List.size_toArray]; omega) (qw_same st _ (.int _ _) q)
theorem o_addl {a b : V} {as bs : List V} (ha : Lst σ a as) (hb : Lst σ b bs) (hl : as.length + bs.length ≤ 100000) (q : Q (.lst (as ++ bs)) σ) : Op2 X (binaryOp .Add) a b σ Q E := fun v w s st va wb => by
  obtain ⟨l, ⟨_, dd, _, sl⟩, vs, k, rfl, g, rfl, rfl, vm⟩ := ha.get st va
  obtain ⟨l2, ⟨_, dd2, _, sl2⟩, ws, k2, rfl, g2, rfl, rfl, wm⟩ := hb.get st wb
  have e : vs.toArray ++ ws.toArray = (vs ++ ws).toArray := by simp
  refine concat_meets ⟨_, g, rfl⟩ ⟨_, g2, rfl⟩ noFill_list_add seq_list_add PySem.F.slot_list_add PySem.F.entry_list_add (PySem.F.args_list_add_2 _ _) (list_addW l l2 vs.toArray ws.toArray k k2 dd dd2 sl sl2 (by rw [List.size_toArray, List.size_toArray, vm.length, wm.length, sizeLine_eq]; omega)) ⟨g, g2, ?_⟩
  rw [e]
  have P := st_push st { cls := .type "list", data := .seq (vs ++ ws).toArray }
  exact ⟨_, σ, P, .lst (Heap.get?_push_size _ rfl) rfl rfl (new_off st) ((vm.mono P.ext).append (wm.mono P.ext)), q⟩
theorem o_addlO {a b : V} {as bs : List V} (ok : Ok X n) (ha : Lst σ a as) (hb : Lst σ b bs) (hl : as.length + bs.length ≤ 100000) (q : ∀ c, σ.hp c = none → Q (.ref c) { σ with hp := upd σ.hp c (.lst (as ++ bs)) }) : Op2 X (binaryOp .Add) a b σ Q E := fun v w s st va wb => by
  obtain ⟨l, ⟨_, dd, _, sl⟩, vs, k, rfl, g, rfl, rfl, vm⟩ := ha.get st va
  obtain ⟨l2, ⟨_, dd2, _, sl2⟩, ws, k2, rfl, g2, rfl, rfl, wm⟩ := hb.get st wb
  have e : vs.toArray ++ ws.toArray = (vs ++ ws).toArray := by simp
  refine concat_meets ⟨_, g, rfl⟩ ⟨_, g2, rfl⟩ noFill_list_add seq_list_add PySem.F.slot_list_add PySem.F.entry_list_add (PySem.F.args_list_add_2 _ _) (list_addW l l2 vs.toArray ws.toArray k k2 dd dd2 sl sl2 (by rw [List.size_toArray, List.size_toArray, vm.length, wm.length, sizeLine_eq]; omega)) ⟨g, g2, ?_⟩
  rw [e]
  obtain ⟨m, hn, hm⟩ := st.names
  have P := post_write (h' := s.heap.push { cls := .type "list", data := .seq (vs ++ ws).toArray }) (tk := s.toks) (a := s.heap.objs.size) (o := .lst (as ++ bs)) ok st (fun b o _ _ e => Heap.get?_push_of_some _ e) ⟨m, hn.push _, hm⟩ (.inr (Heap.get?_none_of_le (Nat.le_refl _)))
    fun _ _ mv => ⟨vs ++ ws, 0, Heap.get?_push_size _ rfl, (mv _ _ vm).append (mv _ _ wm)⟩
  exact ⟨.ref s.heap.objs.size, _, P, .ref _, q _ (new_none st)⟩
theorem t_lst {a : V} {as : List V} {Q : Bool → S → Prop} (ha : Lst σ a as) (hl : as.length ≤ 100000) (q : Q (!as.isEmpty) σ) : Tr X a σ Q E := fun v s st va => by
  obtain ⟨l, o, vs, k, rfl, g, c, d, vm⟩ := ha.get st va
  have hlen := vm.length
  have e : vs.toArray.isEmpty = as.isEmpty := by cases vs <;> cases as <;> simp at hlen ⊢
  refine wpAny_truthy_list (items := vs.toArray) ⟨o, g, c, k, d⟩ (by rw [List.size_toArray]; omega) (qw_same st _ ?_ q)
  rw [e]
theorem s_lstNeg {dl : V} {ds : List V} {k : Nat} {d : V} {value slice : Expr} (hll : Lst σ dl ds) (hk : k ≤ ds.length) (hk0 : 0 < k) (hl : ds.length ≤ 100000) (e : ds[ds.length - k]? = some d) (q : Q d σ)
    (hs : ∀ l i u, subscripted slice false (.ref l) (.int i u) = operate [.ref l, .int i u] (getItem (.ref l) (.int i u))) : Op2 X (subscriptTail value slice) dl (.int (-(k : Int))) σ Q E := fun v w s st va wb => by
  obtain ⟨a, o, vs, m, rfl, g, c, d', vms⟩ := hll.get st va
  cases wb
  obtain ⟨v, e2, vm⟩ := vms.get e
  have hl : s.heap.IsList a vs.toArray := ⟨o, g, c, m, d'⟩
  have hlen := vms.length
  refine tail_any hl.typeIs slot_list_getitem.lookup (wpAny_getItem_list_neg (x := v) hl (by omega) (by rw [List.size_toArray]; omega) (by omega) ?_ (qw_self st vm q)) (hs _ _ _)
  rw [show (-(k : Int) + (vs.toArray.size : Nat)).toNat = ds.length - k from by rw [List.size_toArray]; omega]
  simpa using e2
theorem s_tupItem {ds : List V} {k : Nat} {d : V} {value slice : Expr} (hk : k ≤ 100000) (e : ds[k]? = some d) (q : Q d σ)
    (hs : ∀ l i u, subscripted slice false (.ref l) (.int i u) = operate [.ref l, .int i u] (getItem (.ref l) (.int i u))) : Op2 X (subscriptTail value slice) (.tup ds) (.int k) σ Q E := fun v w s st va wb => by
  obtain ⟨a, o, vs, m, rfl, g, c, d', _, vms⟩ := va.tupI
  cases wb
  obtain ⟨v, e2, vm⟩ := vms.get e
  have hk2 := (List.getElem?_eq_some_iff.mp e2).1
  exact item_tupleT (l := vs) (j := k) ⟨o, g, c, m, d'⟩ (by omega) (by omega) (by
    unfold seqIndex?
    have h0 : ¬ ((k : Int) < 0) := by omega
    have h1 : (0 : Int) ≤ (k : Int) ∧ (k : Int) < (vs.length : Int) := by omega
    simp [h0, h1, hk2]) e2 (qw_self st vm q) (hs _ _ _)
theorem c_notin {a : V} {bs : List V} {b : Bool} (ok : Ok X n) (ha : V.plain a = true) (hb : V.plains bs = true) (la : a.dat.canLay0 = true) (lb : PyData.canLayAll0 (V.dats bs) = true) (hd : min (PyData.depthAll (V.dats bs)) a.dat.depth ≤ 100) (e : ((V.dats bs).any fun y => PyData.eqv y a.dat) = b) (q : Q (.bool (!b)) σ) : Op2 X (compareOp .NotIn) a (.lst bs) σ Q E := fun v w s st va wb => by
  obtain ⟨as, ra⟩ := VM.reads a v ha va
  obtain ⟨cs, rc⟩ := VM.reads (.lst bs) w (by simpa [V.plain] using hb) wb
  subst e
  exact PySem.SeqAt.notIn_list_reads rc ra lb la (by have := ok.units; omega) (qw_self st (.bool _) q)
theorem o_mull {a : Int} {bs : List V} {d : V} (hb : Lst σ d bs) (h1 : a ≤ 1000) (h0 : -1000 ≤ a) (hl : bs.length ≤ 1000) (q : Q (.lst (List.replicate a.toNat bs).flatten) σ) : Op2 X (binaryOp .Mult) (.int a) d σ Q E := fun v w s st va wb => by
  cases va
  rename_i u
  obtain ⟨l, ⟨_, dd, _, sl⟩, vs, k, rfl, g, rfl, rfl, vm⟩ := hb.get st wb
  have hlen := vm.length
  have hsz : vs.length * a.toNat ≤ 1000 * 1000 := Nat.mul_le_mul (by omega) (by omega)
  refine lm_binaryOp_repeat_right (T := "list") (U := "int") (by decide) (fun s' => typeIs_int s' a u) ⟨_, g, rfl⟩ F.fills_int_mul noFill_list_mul F.slot_int_mul lm_noRepeat_int repeat_list F.slot_int_index.lookup
    (call_meets F.slot_int_mul (typeIs_int s a u) F.entry_int_mul (F.args_int_mul_2 _ _) (lm_int_mul_list_any a u l vs.toArray k dd sl)
      ⟨g, rfl, ⟨_, g, rfl⟩, call_meets F.slot_list_mul ⟨_, g, rfl⟩ F.entry_list_mul (F.args_list_mul_2 _ _)
        (lm_list_mul_any l vs.toArray k dd sl a u (by simp [Builtin.List.listFitsIndex]; omega) (by rw [List.size_toArray]; omega) (by simp [Builtin.List.listTooLong, sizeLine]; omega))
        ⟨g, ?_⟩⟩)
  rw [listMul_foldl_if]
  have P := st_push st { cls := .type "list", data := .seq (List.replicate a.toNat vs).flatten.toArray }
  refine ⟨_, σ, P, .lst (Heap.get?_push_size _ rfl) rfl rfl (new_off st) ?_, q⟩
  have vm' := vm.mono P.ext
  revert vm'
  generalize Heap.push _ _ = hh
  intro vm'
  rw [List.toList_toArray]
  generalize a.toNat = j
  induction j with
  | zero => exact .nil
  | succ k ih => rw [List.replicate_succ, List.replicate_succ, List.flatten_cons, List.flatten_cons]; exact vm'.append ih
theorem fills_iadd_list : fillsInplaceSlot (.type "list") "add" (Operator.Add == .Add) = pure false := by
  unfold fillsInplaceSlot
  show (typeLookup (.type "list") (dunderI "add") >>= fun fi => pure (fi.isSome && !isSeqSlot fi)) = pure false
  rw [F.slot_list_iadd.lookup]; rfl
theorem seq_iadd_list : seqSlot? (.type "list") (dunderI "add") = pure (some (.builtin "list.__iadd__")) := PyProof.Rows.seqSlot_of F.slot_list_iadd.lookup (by decide +kernel)
theorem list_iaddW (l b : Addr) (items items2 : Array Value) (n n2 : Nat) (dd2 : Option Addr) (sl2 : Array (Option Value)) (hs0 : ¬(!items.isEmpty && Builtin.List.listTooLong (items.size + items2.size)) = true) (hs1 : items.size ≤ sizeLine) (hs2 : items.size + items2.size ≤ sizeLine + 1) :
    Meets (Builtin.«list.__iadd__» ⟨[.ref l, .ref b], []⟩) (fun _ R s => s.heap.get? l = some { cls := .type "list", dict := none, data := .seq items n, slots := #[] } ∧ s.heap.get? b = some { cls := .type "list", dict := dd2, data := .seq items2 n2, slots := sl2 } ∧ R (.ok (.ret (Value.ref l))) { s with heap := s.heap.update l (Obj.mapSeq fun x => x ++ items2), toks := s.toks }) :=
  .of_wp fun prog w A R s h => by
    obtain ⟨hp, g, d, tk, os⟩ := s; obtain ⟨hl, hb, h⟩ := h; have f1 := AutoSeq1.idx_int; have f2 := AutoSeq1.sub_tuple_tuple; have f3 := AutoSeq1.sub_list_list; have f4 := AutoSeq1.sub_tuple_list; have f5 := AutoSeq1.sub_list_tuple;
    have hz' : (items ++ items2).size ≤ sizeLine + 1 := by rw [Array.size_append]; exact hs2
    wp_walk using (wpAny_updateSeq hl rfl (hz := hs1) (_hz' := hz')), AutoSeq1.wpAny_loadPart' hl, AutoSeq1.wpAny_loadPart' hb; exact ⟨_, rfl, h⟩
theorem o_iaddl {a : Addr} {d : V} {as bs : List V} (ok : Ok X n) (h1 : σ.hp a = some (.lst as)) (hb : Lst σ d bs) (hl : as.length + bs.length ≤ 100000) (q : Q (.ref a) { σ with hp := upd σ.hp a (.lst (as ++ bs)) }) : Op2 X (inplaceOp .Add) (.ref a) d σ Q E := fun v w s st va wb => by
  cases va
  obtain ⟨⟨vs, k, g, vm⟩, _⟩ := st.own a _ h1
  obtain ⟨l2, ⟨_, dd2, _, sl2⟩, ws, k2, rfl, g2, rfl, rfl, wm⟩ := hb.get st wb
  have e1 := vm.length
  have e2 := wm.length
  have ha : s.TypeIs (.ref a) "list" := ⟨_, g, rfl⟩
  have hb' : s.TypeIs (.ref l2) "list" := ⟨_, g2, rfl⟩
  unfold inplaceOp
  refine wpAny_holding ?_
  refine wpAny_bind (wpAny_typeOf ha (wpAny_bind (wpAny_of_eq fills_iadd_list ?_)))
  show wpAny _ _ (if false = true then _ else _) _ _ _
  rw [if_neg Bool.false_ne_true]
  refine wpAny_bind (wpAny_binaryOp1_none (nm := "add") ha hb' noFill_list_add ?_)
  refine wpAny_bind (wpAny_of_eq seq_iadd_list ?_)
  refine wpAny_bind (wpAny_rule ?_)
  have t1 : ¬(!vs.toArray.isEmpty && Builtin.List.listTooLong (vs.toArray.size + ws.toArray.size)) = true := by
    have : Builtin.List.listTooLong (vs.toArray.size + ws.toArray.size) = false := by simp [Builtin.List.listTooLong, sizeLine]; omega
    rw [this]; simp
  have t2 : vs.toArray.size ≤ sizeLine := by rw [List.size_toArray, sizeLine_eq]; omega
  have t3 : vs.toArray.size + ws.toArray.size ≤ sizeLine + 1 := by rw [List.size_toArray, List.size_toArray, sizeLine_eq]; omega
  refine call_meets F.slot_list_iadd ha F.entry_list_iadd (F.args_list_iadd_2 _ _) (list_iaddW a l2 vs.toArray ws.toArray k k2 dd2 sl2 t1 t2 t3) ⟨g, g2, ?_⟩
  obtain ⟨m, hn, hm⟩ := st.names
  have aL : X.env.locals ≠ a := fun e => st.locOff (by rw [e]; show σ.hp a ≠ none; rw [h1]; exact Option.some_ne_none _)
  have g' := Heap.get?_update_self (Obj.mapSeq fun x => x ++ ws.toArray) g rfl
  have P := post_write (h' := s.heap.update a (Obj.mapSeq fun x => x ++ ws.toArray)) (tk := s.toks) (a := a) (o := .lst (as ++ bs)) ok st (fun b o n1 _ e => (Heap.get?_update_other _ _ (Ne.symm n1)).trans e) ⟨m, hn.at' (fun o e => (Heap.get?_update_other _ _ (Ne.symm aL)).trans e), hm⟩ (.inl (by rw [h1]; exact Option.some_ne_none _))
    fun _ _ mv => ⟨vs ++ ws, _, by rw [g']; simp [Obj.mapSeq]; rfl, (mv _ _ vm).append (mv _ _ wm)⟩
  exact ⟨.ref a, _, P, .ref _, q⟩
theorem rep_cps (k : Nat) (x : List Nat) : ((List.replicate k (⟨x.toArray⟩ : Str).cps).foldl (· ++ ·) #[]).toList = (List.replicate k x).flatten := by
  have : ∀ (k : Nat) (acc : Array Nat), ((List.replicate k x.toArray).foldl (· ++ ·) acc).toList = acc.toList ++ (List.replicate k x).flatten := by
    intro k
    induction k with
    | zero => intro acc; simp
    | succ k ih => intro acc; rw [List.replicate_succ, List.foldl_cons, ih, List.replicate_succ, List.flatten_cons]; simp
  have := this k #[]
  simpa using this
theorem o_muls {a : Int} {x : List Nat} (h1 : 1 ≤ a) (h0 : a ≤ 100) (hl : x.length ≤ 1000) (q : Q (.str (List.replicate a.toNat x).flatten) σ) : Op2 X (binaryOp .Mult) (.int a) (.str x) σ Q E := fun v w s st va wb => by
  cases va
  rename_i u
  obtain ⟨t, rfl⟩ := wb.strI
  refine lm_binaryOp_repeat_right (T := "str") (U := "int") (by decide) (fun s' => typeIs_int s' a u) (typeIs_str _ _ _) F.fills_int_mul noFill_str_mul F.slot_int_mul lm_noRepeat_int repeat_str F.slot_int_index.lookup
    (call_gives F.slot_int_mul (typeIs_int s a u) F.entry_int_mul (F.args_int_mul_2 _ _) (AutoIntG3.int___mul___int_str_0 a u ⟨x.toArray⟩ t)
      ⟨rfl, typeIs_str _ _ _, call_gives F.slot_str_mul (typeIs_str _ _ _) F.entry_str_mul (F.args_str_mul_2 _ _) (gives_str_mul ⟨x.toArray⟩ a t u ?_ ?_ ?_) ?_⟩)
  · rw [decide_eq_false (by omega), decide_eq_false (by omega)]; rfl
  · intro _ _ hh
    have e : (⟨x.toArray⟩ : Str).length ≤ 1000 := by rw [mk_len]; exact hl
    have : (92233720368547758 : Int) ≤ (2 ^ 63 - 1) / a := by
      rw [Int.le_ediv_iff_mul_le (by omega)]; omega
    omega
  · intro _ _
    have e : (⟨x.toArray⟩ : Str).length ≤ 1000 := by rw [mk_len]; exact hl
    have h2 : (⟨x.toArray⟩ : Str).length * a.toNat ≤ 1000 * 100 := Nat.mul_le_mul e (by omega)
    simp [Builtin.Str.tooLong, sizeLine]; omega
  · rw [if_neg (by omega)]
    split
    · rename_i hh
      refine (qw_self st (.strE ?_) q : Qw X σ s VM Q _ _)
      simp only [Bool.or_eq_true, beq_iff_eq, mk_len] at hh
      rcases hh with rfl | hh
      · simp
      · have : x = [] := List.length_eq_zero_iff.mp hh
        subst this; simp
    · refine ⟨?_, (qw_same st _ (.strE ?_) q : Qw X σ s VM Q _ _)⟩
      · have e : (List.replicate a.toNat x).flatten.length ≤ 100 * 1000 := by
          have : ∀ k, (List.replicate k x).flatten.length = k * x.length := fun k => by
            induction k with
            | zero => simp
            | succ k ih => rw [List.replicate_succ, List.flatten_cons, List.length_append, ih, Nat.succ_mul]; omega
          rw [this]; exact Nat.mul_le_mul (by omega) hl
        have e2 := congrArg List.length (rep_cps a.toNat x)
        rw [Array.length_toList] at e2
        show Array.size _ ≤ _
        rw [e2, sizeLine_eq]; omega
      · exact rep_cps _ _
end
end Mine
namespace Mine
open PySem PySem.W PySem.Calls PySem.Spec PyProof.Rows
noncomputable def cells0 (L k : Nat) : Addr → Option HO := fun a => if L < a ∧ a ≤ L + k then some (.cell none) else none
theorem cells0_at {L k : Nat} {a : Addr} (h1 : L < a) (h2 : a ≤ L + k) : cells0 L k a = some (.cell none) := if_pos ⟨h1, h2⟩
theorem launchC {prog : Program} {w : World} {K : Frag} {p : Program} {loose : List Str} {mg mb : Str → Option Value} {s₁ : Shared} {h₁ : Heap} {name : Str} {fd : FuncData} {fa : Addr} {cd : Value} {al : Addr} {vs : List Value} {ns : List Int} {m : Str → Option Value} {tk : Nat} {body : List Stmt} {news : List (Addr × Obj)} {k : Nat}
    (hK : K.In s₁.heap) (T : TopRead p loose mg mb s₁.heap) (hL : s₁.heap.IsList al vs.toArray) (hI : IntsAre vs ns) (F : Fr s₁.heap s₁.heap.objs.size h₁ m) (hm : m "script" = some (.ref al)) (hk : fd.scope.kind = .function)
    (N : News s₁.heap s₁.heap.objs.size h₁ news) (hc : ∀ c, s₁.heap.objs.size < c → c ≤ s₁.heap.objs.size + k → ∃ o, (c, o) ∈ news ∧ o.data = .cell none)
    (h : ∀ X : Cx, Ok X 40 → X.K = K → X.prog = prog → X.w = w → X.ctx = none → In X X fd → X.env.cells = cellsFrom (s₁.heap.objs.size + 1) fd.scope.names [] → WXs X body ⟨[("script", .lst (ns.map .int))], cells0 s₁.heap.objs.size k⟩ (fun fl _ => fl = .ret (.bool true)) F0) :
    wpAny (model prog w) (callerA.deeper (envOfC name fd.scope s₁.heap.objs.size fa cd)) (execs body (envOfC name fd.scope s₁.heap.objs.size fa cd))
      (fun f s' => f = .ret (.bool true) ∧ ∃ h' tk', s' = { s₁ with heap := h', toks := tk' } ∧ s₁.heap.StaysIn h') (fun _ _ => False) { s₁ with heap := h₁, toks := tk } := by
  let env := envOfC name fd.scope s₁.heap.objs.size fa cd
  let X : Cx := { prog := prog, w := w, K := K, p := p, loose := loose, mg := mg, mb := mb, base := s₁.heap, A := callerA.deeper env, env := env, fenv := env, L := s₁.heap.objs.size, outer := [], prot := [] }
  have hn : s₁.heap.get? s₁.heap.objs.size = none := by
    cases hq : s₁.heap.get? s₁.heap.objs.size with
    | none => rfl
    | some o => exact absurd (Heap.lt_size hq) (Nat.lt_irrefl _)
  have ok : Ok X 40 := ⟨hK, T, rfl, rfl, rfl, hk, rfl, rfl, Nat.le_refl _, by simp [X], rfl, (by intro p e; cases e), (by show 1 + claimMargin + 1 + 2 * 40 + 8 < recursionLimit; decide), (by show 4 + 3 + 20 * 40 + 300 < cLine; decide)⟩
  have off : ∀ a, a ≤ s₁.heap.objs.size → ¬ S.mu ⟨[("script", .lst (ns.map .int))], cells0 s₁.heap.objs.size k⟩ a := fun a h z => z (by
    show cells0 _ _ a = none
    unfold cells0
    rw [if_neg (by omega)])
  have hl : VM (S.mu ⟨[("script", .lst (ns.map .int))], cells0 s₁.heap.objs.size k⟩) h₁ (.ref al) (.lst (ns.map .int)) := by
    obtain ⟨o, ho, hc, n, hd⟩ := hL
    exact .lst (F.keep _ _ ho) hc hd (off _ (Nat.le_of_lt (Heap.lt_size ho))) (vms_ints hI)
  have st : St X ⟨[("script", .lst (ns.map .int))], cells0 s₁.heap.objs.size k⟩ h₁ := by
    refine ⟨F.keep, ⟨m, F.ns, fun x d e => ?_⟩, fun a o e => ?_, off _ (Nat.le_refl _), (by intro a ha; cases ha), ?_⟩
    · by_cases q : x = "script"
      · subst q
        rw [show lk [(("script" : Str), V.lst (ns.map .int))] "script" = some (V.lst (ns.map .int)) from by simp [lk, List.lookup]] at e
        cases e
        exact ⟨_, hm, hl⟩
      · rw [lk_cut q rfl] at e
        cases e
    · have e' : cells0 s₁.heap.objs.size k a = some o := e
      unfold cells0 at e'
      split at e'
      · rename_i hr
        cases e'
        obtain ⟨ob, hm, hd⟩ := hc a hr.1 hr.2
        obtain ⟨g, _, nb⟩ := N _ hm
        exact ⟨⟨ob, none, g, hd, rfl⟩, nb⟩
      · cases e'
    · intro e he
      simp only [X, List.mem_singleton] at he
      subst he
      obtain ⟨o, es, ep, ho, hd, _⟩ := F.ns
      exact ⟨by show fd.scope.kind ≠ .module; rw [hk]; decide, _, o, es, ep, rfl, hn, off _ (Nat.le_refl _), ho, hd⟩
  have run := h X ok rfl rfl rfl rfl ⟨rfl, rfl, rfl, rfl, rfl, rfl⟩ rfl { s₁ with heap := h₁, toks := tk } st
  refine wpAny_mono run (fun f s' q => ?_) (fun e s' q => q.elim0)
  obtain ⟨fl, σ', P, r, q⟩ := q
  subst q
  obtain ⟨h', tk', e⟩ := P.upd
  have hf : f = .ret (.bool true) := by
    cases f with
    | ret v =>
      have r' : VM σ'.mu s'.heap v (.bool true) := r
      cases r'; rfl
    | next => exact r.elim
    | brk => exact r.elim
    | cont => exact r.elim
  exact ⟨hf, h', tk', e, fun b o z => by have := P.st.base b o z; rw [e] at this; exact this⟩
end Mine
namespace Mine
noncomputable def rs : List Nat → List (List Nat) × Bool
  | [] => ([], false)
  | [c] => if c = 92 then ([], true) else ([[c]], false)
  | c :: d :: r => if c = 92 then (([92, d] :: (rs r).1), (rs r).2) else ([c] :: (rs (d :: r)).1, (rs (d :: r)).2)
theorem rs_esc (d : Nat) (r : List Nat) : rs (92 :: d :: r) = ([92, d] :: (rs r).1, (rs r).2) := by rw [rs]; simp
theorem rs_plain {c : Nat} (r : List Nat) (h : c ≠ 92) : rs (c :: r) = ([c] :: (rs r).1, (rs r).2) := by
  cases r with
  | nil => simp [rs, h]
  | cons d r => rw [rs]; simp [h]
theorem rs_flat (l : List Nat) : (rs l).1.flatten ++ (if (rs l).2 then [92] else []) = l := by
  induction l using rs.induct with
  | case1 => rfl
  | case2 => rfl
  | case3 c h => simp [rs, h]
  | case4 d r ih => rw [rs_esc]; simpa using ih
  | case5 c d r h ih => rw [rs_plain _ h]; simpa using ih
termination_by l => l.length
decreasing_by
  · have := skp_len r; simp; omega
  · simp
  · simp
end Mine
namespace Mine
noncomputable def gw (p : List Nat → Bool) : Nat → List (List Nat) → List (List Nat) × List (List Nat)
  | 0, S => ([], S)
  | _ + 1, [] => ([], [])
  | n + 1, s :: S => if p s then (s :: (gw p n S).1, (gw p n S).2) else ([], s :: S)
theorem gw_parts (p : List Nat → Bool) : ∀ (n : Nat) (S : List (List Nat)), (gw p n S).1 ++ (gw p n S).2 = S
  | 0, S => rfl
  | n + 1, [] => rfl
  | n + 1, s :: S => by
    unfold gw
    split
    · simp [gw_parts p n S]
    · rfl
theorem gw_p (p : List Nat → Bool) : ∀ (n : Nat) (S : List (List Nat)), ∀ s ∈ (gw p n S).1, p s = true
  | 0, S => by simp [gw]
  | n + 1, [] => by simp [gw]
  | n + 1, s :: S => by
    unfold gw
    split
    · rename_i h
      intro z hz
      rcases List.mem_cons.mp hz with rfl | hz
      · exact h
      · exact gw_p p n S z hz
    · simp
theorem gw_len (p : List Nat → Bool) : ∀ (n : Nat) (S : List (List Nat)), (gw p n S).1.length ≤ n
  | 0, S => by simp [gw]
  | n + 1, [] => by simp [gw]
  | n + 1, s :: S => by
    unfold gw
    split
    · have := gw_len p n S; simp; omega
    · simp
theorem gw_whole (p : List Nat → Bool) : ∀ (n : Nat) (S : List (List Nat)), (∀ s ∈ S, p s = true) → gw p n S = (S.take n, S.drop n)
  | 0, S, _ => by simp [gw]
  | n + 1, [], _ => by simp [gw]
  | n + 1, s :: S, h => by
    unfold gw
    rw [if_pos (h s (by simp)), gw_whole p n S fun z hz => h z (by simp [hz])]
    simp
theorem gw_stop (p : List Nat → Bool) (n : Nat) (s : List Nat) (S : List (List Nat)) (h : p s = false) : gw p n (s :: S) = ([], s :: S) := by
  cases n with
  | zero => rfl
  | succ n => unfold gw; rw [if_neg (by simp [h])]
noncomputable def sg2 (P : List (Nat × List Nat)) : List (List Nat) := P.flatMap fun p => [[48 + p.1], p.2]
noncomputable def pstep (m : Nat) (P : List (Nat × List Nat)) (s : List Nat) : List (Nat × List Nat) := match P.getLast? with
  | some (k, z) => if z = s ∧ k < m then P.dropLast ++ [(k + 1, s)] else P ++ [(1, s)]
  | none => [(1, s)]
noncomputable def cnt (m : Nat) : Nat → List Nat → List (List Nat) → List (Nat × List Nat)
  | k, s, [] => [(k, s)]
  | k, s, x :: S => if s = x ∧ k < m then cnt m (k + 1) s S else (k, s) :: cnt m 1 x S
noncomputable def cntS (m : Nat) : List (List Nat) → List (Nat × List Nat)
  | [] => []
  | x :: S => cnt m 1 x S
theorem pstep_last (m : Nat) (P : List (Nat × List Nat)) (k : Nat) (z s : List Nat) : pstep m (P ++ [(k, z)]) s = if z = s ∧ k < m then P ++ [(k + 1, s)] else P ++ [(k, z)] ++ [(1, s)] := by
  unfold pstep
  rw [List.getLast?_concat]
  simp
theorem fold_cnt (m : Nat) : ∀ (S : List (List Nat)) (P : List (Nat × List Nat)) (k : Nat) (s : List Nat), S.foldl (pstep m) (P ++ [(k, s)]) = P ++ cnt m k s S
  | [], P, k, s => rfl
  | x :: S, P, k, s => by
    rw [List.foldl_cons, pstep_last]
    unfold cnt
    split
    · rename_i h
      rw [fold_cnt m S P (k + 1) x, h.1]
    · rw [fold_cnt m S (P ++ [(k, s)]) 1 x]; simp
theorem counted (m : Nat) (S : List (List Nat)) : S.foldl (pstep m) [] = cntS m S := by
  cases S with
  | nil => rfl
  | cons x S => exact fold_cnt m S [] 1 x
theorem cnt_gw (m : Nat) : ∀ (S : List (List Nat)) (k : Nat) (x : List Nat), k ≤ m → cnt m k x S = (k + (gw (· == x) (m - k) S).1.length, x) :: cntS m (gw (· == x) (m - k) S).2
  | [], k, x, h => by
    cases hk : m - k with
    | zero => simp [gw, cnt, cntS]
    | succ n => simp [gw, cnt, cntS]
  | y :: S, k, x, h => by
    unfold cnt
    by_cases hc : x = y ∧ k < m
    · obtain ⟨rfl, hk⟩ := hc
      rw [if_pos ⟨rfl, hk⟩, cnt_gw m S (k + 1) x hk]
      obtain ⟨n, hn⟩ : ∃ n, m - k = n + 1 := ⟨m - k - 1, by omega⟩
      have e : m - (k + 1) = n := by omega
      rw [hn, e]
      show _ = (k + (gw (· == x) (n + 1) (x :: S)).1.length, x) :: cntS m (gw (· == x) (n + 1) (x :: S)).2
      rw [show gw (· == x) (n + 1) (x :: S) = (x :: (gw (· == x) n S).1, (gw (· == x) n S).2) from by rw [gw, if_pos (by simp)]]
      simp only [List.length_cons]
      rw [show k + 1 + (gw (fun z => z == x) n S).1.length = k + ((gw (fun z => z == x) n S).1.length + 1) from by omega]
    · rw [if_neg hc]
      have : gw (· == x) (m - k) (y :: S) = ([], y :: S) := by
        cases hk : m - k with
        | zero => rfl
        | succ n =>
          refine gw_stop _ _ _ _ ?_
          have : ¬ x = y := fun e => hc ⟨e, by omega⟩
          simpa using fun e => this e.symm
      rw [this]; rfl
theorem cntS_run (m : Nat) (s : List Nat) (S : List (List Nat)) (h : 1 ≤ m) : cntS m (s :: S) = ((gw (· == s) m (s :: S)).1.length, s) :: cntS m (gw (· == s) m (s :: S)).2 := by
  obtain ⟨n, rfl⟩ : ∃ n, m = n + 1 := ⟨m - 1, by omega⟩
  show cnt (n + 1) 1 s S = _
  rw [cnt_gw (n + 1) S 1 s (by omega)]
  rw [show gw (· == s) (n + 1) (s :: S) = (s :: (gw (· == s) n S).1, (gw (· == s) n S).2) from by rw [gw, if_pos (by simp)]]
  simp only [Nat.add_sub_cancel, List.length_cons]
  rw [Nat.add_comm]
noncomputable def ex2 (P : List (Nat × List Nat)) : List (List Nat) := P.flatMap fun p => List.replicate p.1 p.2
theorem ex_cnt (m : Nat) : ∀ (S : List (List Nat)) (k : Nat) (s : List Nat), ex2 (cnt m k s S) = List.replicate k s ++ S
  | [], k, s => by simp [cnt, ex2]
  | x :: S, k, s => by
    unfold cnt
    split
    · rename_i h
      obtain ⟨rfl, _⟩ := h
      rw [ex_cnt m S (k + 1) s, List.replicate_succ']; simp
    · have := ex_cnt m S 1 x
      unfold ex2 at this ⊢
      rw [List.flatMap_cons, this]; simp
theorem ex_cntS (m : Nat) (S : List (List Nat)) : ex2 (cntS m S) = S := by
  cases S with
  | nil => rfl
  | cons x S => exact ex_cnt m S 1 x
theorem cnt_ok (m : Nat) : ∀ (S : List (List Nat)) (k : Nat) (s : List Nat), 1 ≤ k → k ≤ m → ∀ p ∈ cnt m k s S, (1 ≤ p.1 ∧ p.1 ≤ m) ∧ (p.2 = s ∨ p.2 ∈ S)
  | [], k, s, h1, h2, p, hp => by
    simp [cnt] at hp; subst hp; exact ⟨⟨h1, h2⟩, .inl rfl⟩
  | x :: S, k, s, h1, h2, p, hp => by
    unfold cnt at hp
    split at hp
    · rename_i h
      obtain ⟨a, b⟩ := cnt_ok m S (k + 1) s (by omega) h.2 p hp
      exact ⟨a, b.elim .inl fun z => .inr (by simp [z])⟩
    · rcases List.mem_cons.mp hp with rfl | hp
      · exact ⟨⟨h1, h2⟩, .inl rfl⟩
      · obtain ⟨a, b⟩ := cnt_ok m S 1 x (by omega) (by omega) p hp
        exact ⟨a, .inr (by rcases b with b | b <;> simp [b])⟩
theorem cntS_ok (m : Nat) (S : List (List Nat)) (h : 1 ≤ m) : ∀ p ∈ cntS m S, (1 ≤ p.1 ∧ p.1 ≤ m) ∧ p.2 ∈ S := by
  cases S with
  | nil => intro p hp; cases hp
  | cons x S =>
    intro p hp
    obtain ⟨a, b⟩ := cnt_ok m S 1 x (by omega) h p hp
    exact ⟨a, by rcases b with b | b <;> simp [b]⟩
theorem cnt_len (m : Nat) : ∀ (S : List (List Nat)) (k : Nat) (s : List Nat), (cnt m k s S).length ≤ S.length + 1
  | [], k, s => by simp [cnt]
  | x :: S, k, s => by
    unfold cnt
    split
    · have := cnt_len m S (k + 1) s; simp; omega
    · have := cnt_len m S 1 x; simp; omega
theorem cntS_len (m : Nat) (S : List (List Nat)) : (cntS m S).length ≤ S.length := by
  cases S with
  | nil => simp [cntS]
  | cons x S => exact cnt_len m S 1 x
theorem sg2_app (P P' : List (Nat × List Nat)) : sg2 (P ++ P') = sg2 P ++ sg2 P' := by unfold sg2; simp
theorem sg2_len (P : List (Nat × List Nat)) : (sg2 P).length = 2 * P.length := by
  induction P with
  | nil => rfl
  | cons p P ih => show (_ :: _ :: sg2 P).length = _; simp [ih]; omega
noncomputable def Gd (s : List Nat) : Prop := (∃ c, c ≠ 92 ∧ s = [c]) ∨ ∃ d, s = [92, d]
theorem Gd.len {s : List Nat} (h : Gd s) : s ≠ [] ∧ s.length ≤ 2 := by rcases h with ⟨c, _, rfl⟩ | ⟨d, rfl⟩ <;> simp
theorem rs_good : ∀ (S : List (List Nat)), (∀ s ∈ S, Gd s) → rs S.flatten = (S, false)
  | [], _ => rfl
  | s :: S, h => by
    have ih := rs_good S fun z hz => h z (by simp [hz])
    rw [List.flatten_cons]
    rcases h s (by simp) with ⟨c, hc, rfl⟩ | ⟨d, rfl⟩
    · show rs (c :: S.flatten) = _
      rw [rs_plain _ hc, ih]
    · show rs (92 :: d :: S.flatten) = _
      rw [rs_esc, ih]
theorem flat_len (S : List (List Nat)) (h : ∀ s ∈ S, s.length ≤ 2) : S.flatten.length ≤ 2 * S.length := by
  induction S with
  | nil => simp
  | cons s S ih =>
    have := ih fun z hz => h z (by simp [hz])
    have := h s (by simp)
    rw [List.flatten_cons, List.length_append, List.length_cons]; omega
theorem sg2_good (P : List (Nat × List Nat)) (h : ∀ p ∈ P, p.1 ≤ 9 ∧ Gd p.2) : ∀ s ∈ sg2 P, Gd s := by
  intro s hs
  obtain ⟨p, hp, hs⟩ := List.mem_flatMap.mp hs
  obtain ⟨h1, h2⟩ := h p hp
  simp at hs
  rcases hs with rfl | rfl
  · exact .inl ⟨48 + p.1, by omega, rfl⟩
  · exact h2
theorem flat_all (x : List Nat) (r : List (List Nat)) (h : ∀ s ∈ r, s = x) : r.flatten.length = r.length * x.length := by
  induction r with
  | nil => simp
  | cons s r ih =>
    have e := h s (by simp)
    rw [List.flatten_cons, List.length_append, ih fun z hz => h z (by simp [hz]), e, List.length_cons, Nat.succ_mul]; omega
end Mine
namespace Mine
open PySem PySem.W PyProof.Rows
set_option maxHeartbeats 8000000 in
open_top hd for PySem.Challenge.rw_ij0062_03
end Mine
namespace Mine
open PySem PySem.W PySem.Calls PySem.Spec PyProof.Rows Builtin Builtin.ObjectAttr
noncomputable abbrev KK (p : Params) : Frag := hd.heap_39 p
noncomputable abbrev CT : Addr := 133
section
variable (p : Params)
theorem f_init : fnOk (KK p) 58 = true := by kernel_rfl
theorem f_next : fnOk (KK p) 65 = true := by kernel_rfl
theorem f_get : fnOk (KK p) 79 = true := by kernel_rfl
theorem f_seek : fnOk (KK p) 115 = true := by kernel_rfl
theorem g_tok : nsIn (KK p) mainGlobals "Tokenizer" = some (some (.ref CT)) := by kernel_rfl
theorem b_len : nsIn (KK p) mainGlobals "len" = some none := by kernel_rfl
theorem b_sum : nsIn (KK p) mainGlobals "sum" = some none := by kernel_rfl
theorem b_range : nsIn (KK p) mainGlobals "range" = some none := by kernel_rfl
theorem b_isinst : nsIn (KK p) mainGlobals "isinstance" = some none := by kernel_rfl
theorem b_str : nsIn (KK p) mainGlobals "str" = some none := by kernel_rfl
theorem b_ierr : nsIn (KK p) mainGlobals "IndexError" = some none := by kernel_rfl
theorem km_next : KMeth (KK p) CT "_Tokenizer__next" 65 := .of rfl (by kernel_rfl) (by kernel_rfl) (by kernel_rfl) (by kernel_rfl)
theorem km_get : KMeth (KK p) CT "get" 79 := .of rfl (by kernel_rfl) (by kernel_rfl) (by kernel_rfl) (by kernel_rfl)
theorem km_seek : KMeth (KK p) CT "seek" 115 := .of rfl (by kernel_rfl) (by kernel_rfl) (by kernel_rfl) (by kernel_rfl)
theorem kg_index : KGet (KK p) CT "index" := .of rfl (by kernel_rfl) (by kernel_rfl) (by kernel_rfl)
theorem kg_next : KGet (KK p) CT "next" := .of rfl (by kernel_rfl) (by kernel_rfl) (by kernel_rfl)
theorem kg_dec : KGet (KK p) CT "decoded_string" := .of rfl (by kernel_rfl) (by kernel_rfl) (by kernel_rfl)
theorem kg_istext : KGet (KK p) CT "istext" := .of rfl (by kernel_rfl) (by kernel_rfl) (by kernel_rfl)
theorem ks_index : KSet (KK p) CT "index" := .of rfl (by kernel_rfl) (by kernel_rfl) (by kernel_rfl) (by kernel_rfl)
theorem ks_next : KSet (KK p) CT "next" := .of rfl (by kernel_rfl) (by kernel_rfl) (by kernel_rfl) (by kernel_rfl)
theorem ks_string : KSet (KK p) CT "string" := .of rfl (by kernel_rfl) (by kernel_rfl) (by kernel_rfl) (by kernel_rfl)
theorem ks_dec : KSet (KK p) CT "decoded_string" := .of rfl (by kernel_rfl) (by kernel_rfl) (by kernel_rfl) (by kernel_rfl)
theorem ks_istext : KSet (KK p) CT "istext" := .of rfl (by kernel_rfl) (by kernel_rfl) (by kernel_rfl) (by kernel_rfl)
theorem km_make : KMake (KK p) CT 58 := ⟨by kernel_rfl, by kernel_rfl, by kernel_rfl⟩
theorem f_tell : fnOk (KK p) 108 = true := by kernel_rfl
theorem km_tell : KMeth (KK p) CT "tell" 108 := .of rfl (by kernel_rfl) (by kernel_rfl) (by kernel_rfl) (by kernel_rfl)
theorem b_int : nsIn (KK p) mainGlobals "int" = some none := by kernel_rfl
theorem f_gwh : fnOk (KK p) 86 = true := by kernel_rfl
theorem km_gwh : KMeth (KK p) CT "getwhile" 86 := .of rfl (by kernel_rfl) (by kernel_rfl) (by kernel_rfl) (by kernel_rfl)
theorem f_runs : fnOk (KK p) 144 = true := by kernel_rfl
theorem f_meant : fnOk (KK p) 151 = true := by kernel_rfl
theorem f_counted : fnOk (KK p) 158 = true := by kernel_rfl
theorem g_runs : nsIn (KK p) mainGlobals "_law_runs" = some (some (.ref 144)) := by kernel_rfl
theorem g_meant : nsIn (KK p) mainGlobals "_law_meant" = some (some (.ref 151)) := by kernel_rfl
theorem g_counted : nsIn (KK p) mainGlobals "_law_counted" = some (some (.ref 158)) := by kernel_rfl
end
end Mine
namespace Mine
open PySem PySem.W PySem.Calls PySem.Spec PyProof.Rows
noncomputable def tokFs (l : List Nat) (i : Nat) (d : V) : List (Str × V) := [("istext", .bool true), ("string", .str l), ("decoded_string", .str l), ("index", .int i), ("next", d)]
theorem tok_index (l : List Nat) (i : Nat) (d : V) : lk (tokFs l i d) "index" = some (.int i) := by kernel_rfl
theorem tok_next (l : List Nat) (i : Nat) (d : V) : lk (tokFs l i d) "next" = some d := by kernel_rfl
theorem tok_dec (l : List Nat) (i : Nat) (d : V) : lk (tokFs l i d) "decoded_string" = some (.str l) := by kernel_rfl
theorem up_index (l : List Nat) (i j : Nat) (d : V) : updF (tokFs l i d) "index" (.int j) = tokFs l j d := by kernel_rfl
theorem up_next (l : List Nat) (i : Nat) (d e : V) : updF (tokFs l i d) "next" e = tokFs l i e := by kernel_rfl
theorem s_bs : (Str.ofString "\\").cps.toList = [92] := by decide +kernel
theorem match_ierr {X : Cx} : Match X (.type "IndexError") (.type "IndexError") true := match_builtin (by rw [isSubtype_type]; kernel_rfl) (by kernel_rfl) (by rw [isSubtype_type]; kernel_rfl)
structure Tk (hp : Addr → Option HO) (a dx : Addr) (l : List Nat) (i : Nat) (d : V) : Prop where
  inst : hp a = some (.inst CT dx)
  dict : hp dx = some (.dict (tokFs l i d))
theorem c_next {pp : Params} {X : Cx} {n : Nat} {σ : S} {E : Value → S → Prop} {a dx : Addr} {l : List Nat} {i : Nat} {d : V} {Q : V → S → Prop} (ok : Ok X (n + 2)) (hK : X.K = KK pp) (hP : X.prog = PySem.Challenge.rw_ij0062_03.row.prog) (hc : X.ctx = none) (tk : Tk σ.hp a dx l i d) (hl : l.length ≤ 1000) (hi : i ≤ 1000)
    (q : match l[i]? with
      | none => Q .none { σ with hp := upd σ.hp dx (.dict (tokFs l i .none)) }
      | some c => if c = 92 then (match l[i + 1]? with
          | none => False
          | some c2 => Q .none { σ with hp := upd σ.hp dx (.dict (tokFs l (i + 2) (.str [92, c2]))) })
        else Q .none { σ with hp := upd σ.hp dx (.dict (tokFs l (i + 1) (.str [c]))) }) : Call X (.ref 65) [.ref a] σ Q E := by
  refine Call.fn' (names := ["self"]) (loc0 := [("self", .ref a)]) (n := n + 1) ok hK (f_next _) (bind1 fun v _ => by kernel_rfl) (by kernel_rfl) (by decide +kernel) rfl rfl fun Y okY hI => ?_
  have hKY : Y.K = KK pp := hI.K.trans hK
  have hcY : Y.ctx = none := hI.ctx.trans hc
  obtain ⟨t1, t2⟩ := tk
  have had : a ≠ dx := fun e => by rw [e, t2] at t1; cases t1
  conv in bodyAt _ _ => whnf
  refine W.hide fun Q1 E1 hQ1 hE1 => ?_
  ((try dsimp only); (with_reducible refine WXs_cons ?_))
  ((try dsimp only); (with_reducible refine WX_Assign (hs := ?hsz134) (by assumption) ?hkz134 ?_); (case hsz134 => intro _; rfl); (case hkz134 => (have hh := In.scope ‹In _ _ _›; exact kindE hh (by kernel_rfl))))
  refine W_field (by assumption) ?_ (by decide +kernel) (by ((with_reducible exact lk_hit))) t1 t2 (hKY ▸ kg_index _) (tok_index _ _ _) (fun _ e => by cases e) ?_
  · (have hh := In.scope ‹In _ _ _›; exact kindE hh (by kernel_rfl))
  dsimp only
  ((try dsimp only); (with_reducible refine WXs_cons ?_))
  refine WX_Try (n := n + 1) (c := .type "IndexError") okY hI.env (ht_bi okY hKY (by (have hh := In.scope ‹In _ _ _›; exact kindE hh (by kernel_rfl))) (b_ierr _) (by kernel_rfl) (by decide +kernel) (by decide +kernel)) ?_
  ((try dsimp only); (with_reducible refine WXs_cons ?_))
  ((try dsimp only); (with_reducible refine WX_Assign (hs := ?hsz140) (by assumption) ?hkz140 ?_); (case hsz140 => intro _; rfl); (case hkz140 => (have hh := In.scope ‹In _ _ _›; exact kindE hh (by kernel_rfl))))
  ((try dsimp only); (with_reducible refine W_Sub ?_))
  refine W_field (by assumption) ?_ (by decide +kernel) (by ((with_reducible refine lkp_skip ?hne2z142 ?hrest2z142); (case hne2z142 => decide +kernel); (with_reducible exact lk_hit))) t1 t2 (hKY ▸ kg_dec _) (tok_dec _ _ _) (fun _ e => by cases e) ?_
  · (have hh := In.scope ‹In _ _ _›; exact kindE hh (by kernel_rfl))
  ((try dsimp only); ((with_reducible refine W_local (d := ?dz144) (by assumption) ?hkz144 ?hlz144 ?qz144 ?hdz144); (case hkz144 => (have hh := In.scope ‹In _ _ _›; exact kindE hh (by kernel_rfl))); (case hlz144 => ((with_reducible exact lk_put_self))); (case hdz144 => decide +kernel); (try dsimp only)))
  refine s_strItem (hs := by intro _ _ _ _; with_unfolding_all rfl) (ht := by intro _ _ _; with_unfolding_all rfl) okY hcY (by omega) (by omega) ?_
  cases hli : l[i]? with
  | none =>
    rw [hli] at q
    dsimp only at q ⊢
    refine ⟨true, match_ierr, ?_⟩
    rw [if_pos rfl]
    intro e okm
    ((try dsimp only); (with_reducible refine WXs_cons ?_))
    ((try dsimp only); ((with_reducible refine WX_SetAttr (hs := ?hsz146) ?_); (case hsz146 => intro _; rfl)))
    ((try dsimp only); ((with_reducible refine W_none ?_); (try dsimp only)))
    ((try dsimp only); ((with_reducible refine W_local (d := ?dz148) (by assumption) ?hkz148 ?hlz148 ?qz148 ?hdz148); (case hkz148 => (have hh := In.scope ‹In _ _ _›; exact kindE hh (by kernel_rfl))); (case hlz148 => ((with_reducible refine lkp_skip ?hne2z148 ?hrest2z148); (case hne2z148 => decide +kernel); (with_reducible exact lk_hit))); (case hdz148 => decide +kernel); (try dsimp only)))
    refine sa_inst okm t1 t2 (hKY ▸ ks_next _) (by show 5 ≤ 90; decide) ?_
    rw [up_next]
    ((try dsimp only); (with_reducible refine WXs_cons ?_))
    ((try dsimp only); ((with_reducible refine WX_Return0 ?_); (try dsimp only)))
    exact hQ1 _ _ q
  | some c =>
    rw [hli] at q
    dsimp only at q ⊢
    ((try dsimp only); ((with_reducible refine WXs_nil ?_); (try dsimp only)))
    ((try dsimp only); (with_reducible refine WXs_cons ?_))
    ((try dsimp only); (with_reducible refine WX_If ?_))
    ((try dsimp only); ((with_reducible refine WT_Compare (hm := ?hmz154) ?_); (case hmz154 => with_unfolding_all rfl)))
    ((try dsimp only); ((with_reducible refine W_local (d := ?dz155) (by assumption) ?hkz155 ?hlz155 ?qz155 ?hdz155); (case hkz155 => (have hh := In.scope ‹In _ _ _›; exact kindE hh (by kernel_rfl))); (case hlz155 => ((with_reducible exact lk_put_self))); (case hdz155 => decide +kernel); (try dsimp only)))
    refine W_str s_bs ?_
    refine o_eqs (t_bool ?_)
    by_cases h92 : c = 92
    · subst h92
      rw [if_pos rfl] at q
      rw [if_pos (show ([92] == [92]) = true from rfl)]
      ((try dsimp only); (with_reducible refine WXs_cons ?_))
      ((try dsimp only); (with_reducible refine WX_Aug (d := ?dz157) (by assumption) ?hkz157 ?hlz157 ?_); (case hkz157 => (have hh := In.scope ‹In _ _ _›; exact kindE hh (by kernel_rfl))); (case hlz157 => ((with_reducible refine lkp_skip ?hne2z157 ?hrest2z157); (case hne2z157 => decide +kernel); (with_reducible exact lk_put_self))))
      ((try dsimp only); ((with_reducible refine W_int ?_); (try dsimp only)))
      refine o_iaddi ?_
      ((try dsimp only); (with_reducible refine WXs_cons ?_))
      refine WX_Try (n := n + 1) (c := .type "IndexError") okY hI.env (ht_bi okY hKY (by (have hh := In.scope ‹In _ _ _›; exact kindE hh (by kernel_rfl))) (b_ierr _) (by kernel_rfl) (by decide +kernel) (by decide +kernel)) ?_
      ((try dsimp only); (with_reducible refine WXs_cons ?_))
      ((try dsimp only); (with_reducible refine WX_Aug (d := ?dz162) (by assumption) ?hkz162 ?hlz162 ?_); (case hkz162 => (have hh := In.scope ‹In _ _ _›; exact kindE hh (by kernel_rfl))); (case hlz162 => ((with_reducible refine lkp_skip ?hne2z162 ?hrest2z162); (case hne2z162 => decide +kernel); (with_reducible exact lk_put_self))))
      ((try dsimp only); (with_reducible refine W_Sub ?_))
      refine W_field (by assumption) ?_ (by decide +kernel) (by ((with_reducible refine lkp_skip ?hne4z164 ?hrest4z164); (case hne4z164 => decide +kernel); (with_reducible refine lkp_skip ?hne3z164 ?hrest3z164); (case hne3z164 => decide +kernel); (with_reducible refine lkp_skip ?hne2z164 ?hrest2z164); (case hne2z164 => decide +kernel); (with_reducible exact lk_hit))) t1 t2 (hKY ▸ kg_dec _) (tok_dec _ _ _) (fun _ e => by cases e) ?_
      · (have hh := In.scope ‹In _ _ _›; exact kindE hh (by kernel_rfl))
      ((try dsimp only); ((with_reducible refine W_local (d := ?dz166) (by assumption) ?hkz166 ?hlz166 ?qz166 ?hdz166); (case hkz166 => (have hh := In.scope ‹In _ _ _›; exact kindE hh (by kernel_rfl))); (case hlz166 => ((with_reducible exact lk_put_self))); (case hdz166 => decide +kernel); (try dsimp only)))
      refine s_strItem (hs := by intro _ _ _ _; with_unfolding_all rfl) (ht := by intro _ _ _; with_unfolding_all rfl) (k := i + 1) okY hcY (by omega) (by omega) ?_
      cases hli2 : l[i + 1]? with
      | none =>
        rw [hli2] at q
        dsimp only at q ⊢
      | some c2 =>
        rw [hli2] at q
        dsimp only at q ⊢
        refine o_iadds (by simp) ?_
        ((try dsimp only); ((with_reducible refine WXs_nil ?_); (try dsimp only)))
        ((try dsimp only); ((with_reducible refine WXs_nil ?_); (try dsimp only)))
        ((try dsimp only); (with_reducible refine WXs_cons ?_))
        ((try dsimp only); ((with_reducible refine WX_SetAttr (hs := ?hsz170) ?_); (case hsz170 => intro _; rfl)))
        ((try dsimp only); (with_reducible refine W_BinOp ?_))
        ((try dsimp only); ((with_reducible refine W_local (d := ?dz172) (by assumption) ?hkz172 ?hlz172 ?qz172 ?hdz172); (case hkz172 => (have hh := In.scope ‹In _ _ _›; exact kindE hh (by kernel_rfl))); (case hlz172 => ((with_reducible refine lkp_skip ?hne2z172 ?hrest2z172); (case hne2z172 => decide +kernel); (with_reducible exact lk_put_self))); (case hdz172 => decide +kernel); (try dsimp only)))
        ((try dsimp only); ((with_reducible refine W_int ?_); (try dsimp only)))
        refine o_addi ?_
        ((try dsimp only); ((with_reducible refine W_local (d := ?dz174) (by assumption) ?hkz174 ?hlz174 ?qz174 ?hdz174); (case hkz174 => (have hh := In.scope ‹In _ _ _›; exact kindE hh (by kernel_rfl))); (case hlz174 => ((with_reducible refine lkp_skip ?hne5z174 ?hrest5z174); (case hne5z174 => decide +kernel); (with_reducible refine lkp_skip ?hne4z174 ?hrest4z174); (case hne4z174 => decide +kernel); (with_reducible refine lkp_skip ?hne3z174 ?hrest3z174); (case hne3z174 => decide +kernel); (with_reducible refine lkp_skip ?hne2z174 ?hrest2z174); (case hne2z174 => decide +kernel); (with_reducible exact lk_hit))); (case hdz174 => decide +kernel); (try dsimp only)))
        refine sa_inst okY t1 t2 (hKY ▸ ks_index _) (by show 5 ≤ 90; decide) ?_
        rw [show ((i : Int) + 1 + 1) = ((i + 2 : Nat) : Int) from rfl, up_index]
        ((try dsimp only); (with_reducible refine WXs_cons ?_))
        ((try dsimp only); ((with_reducible refine WX_SetAttr (hs := ?hsz176) ?_); (case hsz176 => intro _; rfl)))
        ((try dsimp only); ((with_reducible refine W_local (d := ?dz177) (by assumption) ?hkz177 ?hlz177 ?qz177 ?hdz177); (case hkz177 => (have hh := In.scope ‹In _ _ _›; exact kindE hh (by kernel_rfl))); (case hlz177 => ((with_reducible exact lk_put_self))); (case hdz177 => decide +kernel); (try dsimp only)))
        ((try dsimp only); ((with_reducible refine W_local (d := ?dz178) (by assumption) ?hkz178 ?hlz178 ?qz178 ?hdz178); (case hkz178 => (have hh := In.scope ‹In _ _ _›; exact kindE hh (by kernel_rfl))); (case hlz178 => ((with_reducible refine lkp_skip ?hne5z178 ?hrest5z178); (case hne5z178 => decide +kernel); (with_reducible refine lkp_skip ?hne4z178 ?hrest4z178); (case hne4z178 => decide +kernel); (with_reducible refine lkp_skip ?hne3z178 ?hrest3z178); (case hne3z178 => decide +kernel); (with_reducible refine lkp_skip ?hne2z178 ?hrest2z178); (case hne2z178 => decide +kernel); (with_reducible exact lk_hit))); (case hdz178 => decide +kernel); (try dsimp only)))
        refine sa_inst okY (C := CT) (dx := dx) (fs := tokFs l (i + 2) d) ?_ upd_self (hKY ▸ ks_next _) (by show 5 ≤ 90; decide) ?_
        · show upd σ.hp dx _ a = _
          rw [upd_ne had]; exact t1
        rw [up_next, upd_upd]
        ((try dsimp only); ((with_reducible refine WXs_nil ?_); (try dsimp only)))
        exact hQ1 _ _ q
    · rw [if_neg h92] at q
      have : ([c] == [92]) = false := by simp [h92]
      rw [this, if_neg (by decide)]
      ((try dsimp only); ((with_reducible refine WXs_nil ?_); (try dsimp only)))
      ((try dsimp only); (with_reducible refine WXs_cons ?_))
      ((try dsimp only); ((with_reducible refine WX_SetAttr (hs := ?hsz182) ?_); (case hsz182 => intro _; rfl)))
      ((try dsimp only); (with_reducible refine W_BinOp ?_))
      ((try dsimp only); ((with_reducible refine W_local (d := ?dz184) (by assumption) ?hkz184 ?hlz184 ?qz184 ?hdz184); (case hkz184 => (have hh := In.scope ‹In _ _ _›; exact kindE hh (by kernel_rfl))); (case hlz184 => ((with_reducible refine lkp_skip ?hne2z184 ?hrest2z184); (case hne2z184 => decide +kernel); (with_reducible exact lk_put_self))); (case hdz184 => decide +kernel); (try dsimp only)))
      ((try dsimp only); ((with_reducible refine W_int ?_); (try dsimp only)))
      refine o_addi ?_
      ((try dsimp only); ((with_reducible refine W_local (d := ?dz186) (by assumption) ?hkz186 ?hlz186 ?qz186 ?hdz186); (case hkz186 => (have hh := In.scope ‹In _ _ _›; exact kindE hh (by kernel_rfl))); (case hlz186 => ((with_reducible refine lkp_skip ?hne3z186 ?hrest3z186); (case hne3z186 => decide +kernel); (with_reducible refine lkp_skip ?hne2z186 ?hrest2z186); (case hne2z186 => decide +kernel); (with_reducible exact lk_hit))); (case hdz186 => decide +kernel); (try dsimp only)))
      refine sa_inst okY t1 t2 (hKY ▸ ks_index _) (by show 5 ≤ 90; decide) ?_
      rw [show ((i : Int) + 1) = ((i + 1 : Nat) : Int) from rfl, up_index]
      ((try dsimp only); (with_reducible refine WXs_cons ?_))
      ((try dsimp only); ((with_reducible refine WX_SetAttr (hs := ?hsz188) ?_); (case hsz188 => intro _; rfl)))
      ((try dsimp only); ((with_reducible refine W_local (d := ?dz189) (by assumption) ?hkz189 ?hlz189 ?qz189 ?hdz189); (case hkz189 => (have hh := In.scope ‹In _ _ _›; exact kindE hh (by kernel_rfl))); (case hlz189 => ((with_reducible exact lk_put_self))); (case hdz189 => decide +kernel); (try dsimp only)))
      ((try dsimp only); ((with_reducible refine W_local (d := ?dz190) (by assumption) ?hkz190 ?hlz190 ?qz190 ?hdz190); (case hkz190 => (have hh := In.scope ‹In _ _ _›; exact kindE hh (by kernel_rfl))); (case hlz190 => ((with_reducible refine lkp_skip ?hne3z190 ?hrest3z190); (case hne3z190 => decide +kernel); (with_reducible refine lkp_skip ?hne2z190 ?hrest2z190); (case hne2z190 => decide +kernel); (with_reducible exact lk_hit))); (case hdz190 => decide +kernel); (try dsimp only)))
      refine sa_inst okY (C := CT) (dx := dx) (fs := tokFs l (i + 1) d) ?_ upd_self (hKY ▸ ks_next _) (by show 5 ≤ 90; decide) ?_
      · show upd σ.hp dx _ a = _
        rw [upd_ne had]; exact t1
      rw [up_next, upd_upd]
      ((try dsimp only); ((with_reducible refine WXs_nil ?_); (try dsimp only)))
      exact hQ1 _ _ q
end Mine
namespace Mine
open PySem PySem.W PySem.Calls PySem.Spec PyProof.Rows
noncomputable def sg (l : List Nat) (i : Nat) : Option (Nat × V) := match l[i]? with
  | none => some (i, .none)
  | some c => if c = 92 then (match l[i + 1]? with
      | none => none
      | some c2 => some (i + 2, .str [92, c2]))
    else some (i + 1, .str [c])
theorem c_next' {pp : Params} {X : Cx} {n : Nat} {σ : S} {E : Value → S → Prop} {a dx : Addr} {l : List Nat} {i : Nat} {d : V} {Q : V → S → Prop} (ok : Ok X (n + 2)) (hK : X.K = KK pp) (hP : X.prog = PySem.Challenge.rw_ij0062_03.row.prog) (hc : X.ctx = none) (tk : Tk σ.hp a dx l i d) (hl : l.length ≤ 1000) (hi : i ≤ 1000)
    (q : match sg l i with
      | none => False
      | some (j, e) => Q .none { σ with hp := upd σ.hp dx (.dict (tokFs l j e)) }) : Call X (.ref 65) [.ref a] σ Q E := by
  refine c_next ok hK hP hc tk hl hi ?_
  unfold sg at q
  cases h : l[i]? with
  | none => rw [h] at q; exact q
  | some c =>
    rw [h] at q
    dsimp only at q ⊢
    split
    · rename_i hc
      rw [if_pos hc] at q
      cases h2 : l[i + 1]? with
      | none => rw [h2] at q; exact q
      | some c2 => rw [h2] at q; exact q
    · rename_i hc
      rw [if_neg hc] at q
      exact q
theorem Tk.upd {hp : Addr → Option HO} {a dx : Addr} {l : List Nat} {i : Nat} {d : V} (t : Tk hp a dx l i d) (j : Nat) (e : V) : Tk (Mine.upd hp dx (.dict (tokFs l j e))) a dx l j e := by
  obtain ⟨t1, t2⟩ := t
  have had : a ≠ dx := fun e => by rw [e, t2] at t1; cases t1
  exact ⟨by rw [upd_ne had]; exact t1, upd_self⟩
theorem c_get {pp : Params} {X : Cx} {n : Nat} {σ : S} {E : Value → S → Prop} {a dx : Addr} {l : List Nat} {i : Nat} {d : V} {Q : V → S → Prop} (ok : Ok X (n + 3)) (hK : X.K = KK pp) (hP : X.prog = PySem.Challenge.rw_ij0062_03.row.prog) (hc : X.ctx = none) (tk : Tk σ.hp a dx l i d) (hd : ∀ w, d ≠ .lit w) (hl : l.length ≤ 1000) (hi : i ≤ 1000)
    (q : match sg l i with
      | none => False
      | some (j, e) => Q d { σ with hp := upd σ.hp dx (.dict (tokFs l j e)) }) : Call X (.ref 79) [.ref a] σ Q E := by
  refine Call.fn' (names := ["self"]) (loc0 := [("self", .ref a)]) (n := n + 2) ok hK (f_get _) (bind1 fun v _ => by kernel_rfl) (by kernel_rfl) (by decide +kernel) rfl rfl fun Y okY hI => ?_
  have hKY : Y.K = KK pp := hI.K.trans hK
  have hcY : Y.ctx = none := hI.ctx.trans hc
  have hPY := hI.prog.trans hP
  have t1 := tk.inst
  have t2 := tk.dict
  conv in bodyAt _ _ => whnf
  ((try dsimp only); (with_reducible refine WXs_cons ?_))
  ((try dsimp only); (with_reducible refine WX_Assign (hs := ?hsz10) (by assumption) ?hkz10 ?_); (case hsz10 => intro _; rfl); (case hkz10 => (have hh := In.scope ‹In _ _ _›; exact kindE hh (by kernel_rfl))))
  refine W_field (by assumption) ?_ (by decide +kernel) (by ((with_reducible exact lk_hit))) t1 t2 (hKY ▸ kg_next _) (tok_next _ _ _) hd ?_
  · (have hh := In.scope ‹In _ _ _›; exact kindE hh (by kernel_rfl))
  ((try dsimp only); (with_reducible refine WXs_cons ?_))
  refine WX_Expr (hs := by intro _; rfl) okY ?_
  refine W_Method (hbase := by intro _; rfl) (hfew := by intro _; rfl) (hline := by rfl) (hplain := by intro _; rfl) okY ?_
  ((try dsimp only); ((with_reducible refine W_local (d := ?dz14) (by assumption) ?hkz14 ?hlz14 ?qz14 ?hdz14); (case hkz14 => (have hh := In.scope ‹In _ _ _›; exact kindE hh (by kernel_rfl))); (case hlz14 => ((with_reducible refine lkp_skip ?hne2z14 ?hrest2z14); (case hne2z14 => decide +kernel); (with_reducible exact lk_hit))); (case hdz14 => decide +kernel); (try dsimp only)))
  refine getm_inst okY t1 t2 (hKY ▸ km_next _) (by kernel_rfl) ⟨keeps_fn hKY (by kernel_rfl), ?_⟩
  refine WA_nil ?_
  refine c_next' (n := n) okY hKY hPY hcY tk hl hi ?_
  cases h : sg l i with
  | none => rw [h] at q; exact q
  | some je =>
    obtain ⟨j, e⟩ := je
    rw [h] at q
    dsimp only at q ⊢
    ((try dsimp only); (with_reducible refine WXs_cons ?_))
    ((try dsimp only); (with_reducible refine WX_Return ?_))
    ((try dsimp only); ((with_reducible refine W_local (d := ?dz17) (by assumption) ?hkz17 ?hlz17 ?qz17 ?hdz17); (case hkz17 => (have hh := In.scope ‹In _ _ _›; exact kindE hh (by kernel_rfl))); (case hlz17 => ((with_reducible exact lk_put_self))); (case hdz17 => decide +kernel); (try dsimp only)))
    exact q
theorem c_seek {pp : Params} {X : Cx} {n : Nat} {σ : S} {E : Value → S → Prop} {a dx : Addr} {l : List Nat} {i k : Nat} {d : V} {Q : V → S → Prop} (ok : Ok X (n + 3)) (hK : X.K = KK pp) (hP : X.prog = PySem.Challenge.rw_ij0062_03.row.prog) (hc : X.ctx = none) (tk : Tk σ.hp a dx l i d) (hl : l.length ≤ 1000) (hk : k ≤ 1000)
    (q : match sg l k with
      | none => False
      | some (j, e) => Q .none { σ with hp := upd σ.hp dx (.dict (tokFs l j e)) }) : Call X (.ref 115) [.ref a, .int k] σ Q E := by
  refine Call.fn' (names := ["self", "index"]) (loc0 := [("self", .ref a), ("index", .int k)]) (n := n + 2) ok hK (f_seek _) (bind2 fun v w _ => by kernel_rfl) (by kernel_rfl) (by decide +kernel) rfl rfl fun Y okY hI => ?_
  have hKY : Y.K = KK pp := hI.K.trans hK
  have hcY : Y.ctx = none := hI.ctx.trans hc
  have hPY := hI.prog.trans hP
  have t1 := tk.inst
  have t2 := tk.dict
  have tk' := tk.upd k d
  conv in bodyAt _ _ => whnf
  ((try dsimp only); (with_reducible refine WXs_cons ?_))
  ((try dsimp only); ((with_reducible refine WX_SetAttr (hs := ?hsz19) ?_); (case hsz19 => intro _; rfl)))
  ((try dsimp only); ((with_reducible refine W_local (d := ?dz20) (by assumption) ?hkz20 ?hlz20 ?qz20 ?hdz20); (case hkz20 => (have hh := In.scope ‹In _ _ _›; exact kindE hh (by kernel_rfl))); (case hlz20 => ((with_reducible refine lk_skip ?hne2z20 ?hrest2z20); (case hne2z20 => decide +kernel); (with_reducible exact lk_hit))); (case hdz20 => decide +kernel); (try dsimp only)))
  ((try dsimp only); ((with_reducible refine W_local (d := ?dz21) (by assumption) ?hkz21 ?hlz21 ?qz21 ?hdz21); (case hkz21 => (have hh := In.scope ‹In _ _ _›; exact kindE hh (by kernel_rfl))); (case hlz21 => ((with_reducible exact lk_hit))); (case hdz21 => decide +kernel); (try dsimp only)))
  refine sa_inst okY t1 t2 (hKY ▸ ks_index _) (by show 5 ≤ 90; decide) ?_
  rw [up_index]
  ((try dsimp only); (with_reducible refine WXs_cons ?_))
  refine WX_Expr (hs := by intro _; rfl) okY ?_
  refine W_Method (hbase := by intro _; rfl) (hfew := by intro _; rfl) (hline := by rfl) (hplain := by intro _; rfl) okY ?_
  ((try dsimp only); ((with_reducible refine W_local (d := ?dz23) (by assumption) ?hkz23 ?hlz23 ?qz23 ?hdz23); (case hkz23 => (have hh := In.scope ‹In _ _ _›; exact kindE hh (by kernel_rfl))); (case hlz23 => ((with_reducible exact lk_hit))); (case hdz23 => decide +kernel); (try dsimp only)))
  refine getm_inst okY tk'.inst tk'.dict (hKY ▸ km_next _) (by kernel_rfl) ⟨keeps_fn hKY (by kernel_rfl), ?_⟩
  refine WA_nil ?_
  refine c_next' (n := n) okY hKY hPY hcY tk' hl hk ?_
  cases h : sg l k with
  | none => rw [h] at q; exact q
  | some je =>
    obtain ⟨j, e⟩ := je
    rw [h] at q
    dsimp only at q ⊢
    ((try dsimp only); ((with_reducible refine WXs_nil ?_); (try dsimp only)))
    rw [upd_upd]
    exact q
theorem c_new {pp : Params} {X : Cx} {n : Nat} {σ : S} {E : Value → S → Prop} {l : List Nat} {Q : V → S → Prop} (ok : Ok X (n + 3)) (hK : X.K = KK pp) (hP : X.prog = PySem.Challenge.rw_ij0062_03.row.prog) (hc : X.ctx = none) (hl : l.length ≤ 1000)
    (q : ∀ a dx hp', σ.hp a = none → σ.hp dx = none → (∀ b o, σ.hp b = some o → hp' b = some o) → match sg l 0 with
      | none => False
      | some (j, e) => Tk hp' a dx l j e → Q (.ref a) ⟨σ.loc, hp'⟩) : Call X (.ref CT) [.str l] σ Q E := by
  refine Call.make' (names := ["self", "string"]) (loc0 := fun a => [("self", .ref a), ("string", .str l)]) (n := n + 2) ok hK (km_make _) (f_init _) (bind2 fun v w _ => by kernel_rfl) (by kernel_rfl) (by decide +kernel) rfl (fun _ => rfl) fun Y a dx okY hI ha hdx hne => ?_
  have hKY : Y.K = KK pp := hI.K.trans hK
  have hcY : Y.ctx = none := hI.ctx.trans hc
  have hPY := hI.prog.trans hP
  have stp : ∀ o : HO, upd (upd (upd σ.hp dx (.dict [])) a (.inst CT dx)) dx o a = some (.inst CT dx) ∧ upd (upd (upd σ.hp dx (.dict [])) a (.inst CT dx)) dx o dx = some o ∧ ∀ b o', σ.hp b = some o' → upd (upd (upd σ.hp dx (.dict [])) a (.inst CT dx)) dx o b = some o' := fun o =>
    ⟨by rw [upd_ne hne, upd_self], upd_self, fun b o' e => by
      rw [upd_ne (fun z => by rw [z, hdx] at e; cases e), upd_ne (fun z => by rw [z, ha] at e; cases e), upd_ne (fun z => by rw [z, hdx] at e; cases e)]; exact e⟩
  have t1 : upd (upd σ.hp dx (.dict [])) a (.inst CT dx) a = some (.inst CT dx) := upd_self
  have t2 : upd (upd σ.hp dx (.dict [])) a (.inst CT dx) dx = some (.dict []) := by rw [upd_ne hne.symm, upd_self]
  conv in bodyAt _ _ => whnf
  ((try dsimp only); (with_reducible refine WXs_cons ?_))
  ((try dsimp only); ((with_reducible refine WX_SetAttr (hs := ?hsz26) ?_); (case hsz26 => intro _; rfl)))
  refine W_Call (hplain := by intro _; rfl) (hlit := by intro _ _ _ _ x; cases x; rfl) okY ?_
  refine W_bi (v := .builtin "isinstance") okY hKY (by (have hh := In.scope ‹In _ _ _›; exact kindE hh (by kernel_rfl))) (b_isinst _) (by kernel_rfl) (by decide +kernel) (by decide +kernel) ?_
  refine ⟨_, rfl, keeps_builtin, ?_⟩
  refine WA_cons ?_
  ((try dsimp only); ((with_reducible refine W_local (d := ?dz28) (by assumption) ?hkz28 ?hlz28 ?qz28 ?hdz28); (case hkz28 => (have hh := In.scope ‹In _ _ _›; exact kindE hh (by kernel_rfl))); (case hlz28 => ((with_reducible refine lk_skip ?hne2z28 ?hrest2z28); (case hne2z28 => decide +kernel); (with_reducible exact lk_hit))); (case hdz28 => decide +kernel); (try dsimp only)))
  refine WA_cons ?_
  refine W_bi (v := .type "str") okY hKY (by (have hh := In.scope ‹In _ _ _›; exact kindE hh (by kernel_rfl))) (b_str _) (by kernel_rfl) (by decide +kernel) (by decide +kernel) ?_
  refine WA_nil ?_
  refine c_isstr ?_
  ((try dsimp only); ((with_reducible refine W_local (d := ?dz30) (by assumption) ?hkz30 ?hlz30 ?qz30 ?hdz30); (case hkz30 => (have hh := In.scope ‹In _ _ _›; exact kindE hh (by kernel_rfl))); (case hlz30 => ((with_reducible exact lk_hit))); (case hdz30 => decide +kernel); (try dsimp only)))
  refine sa_inst okY t1 t2 (hKY ▸ ks_istext _) (Nat.le_of_ble_eq_true (by kernel_rfl)) ?_
  ((try dsimp only); (with_reducible refine WXs_cons ?_))
  ((try dsimp only); ((with_reducible refine WX_SetAttr (hs := ?hsz32) ?_); (case hsz32 => intro _; rfl)))
  ((try dsimp only); ((with_reducible refine W_local (d := ?dz33) (by assumption) ?hkz33 ?hlz33 ?qz33 ?hdz33); (case hkz33 => (have hh := In.scope ‹In _ _ _›; exact kindE hh (by kernel_rfl))); (case hlz33 => ((with_reducible refine lk_skip ?hne2z33 ?hrest2z33); (case hne2z33 => decide +kernel); (with_reducible exact lk_hit))); (case hdz33 => decide +kernel); (try dsimp only)))
  ((try dsimp only); ((with_reducible refine W_local (d := ?dz34) (by assumption) ?hkz34 ?hlz34 ?qz34 ?hdz34); (case hkz34 => (have hh := In.scope ‹In _ _ _›; exact kindE hh (by kernel_rfl))); (case hlz34 => ((with_reducible exact lk_hit))); (case hdz34 => decide +kernel); (try dsimp only)))
  refine sa_inst okY (stp _).1 (stp _).2.1 (hKY ▸ ks_string _) (Nat.le_of_ble_eq_true (by kernel_rfl)) ?_
  rw [upd_upd]
  ((try dsimp only); (with_reducible refine WXs_cons ?_))
  ((try dsimp only); (with_reducible refine WX_If ?_))
  ((try dsimp only); (with_reducible refine WT_Not ?_))
  refine WT_value (he := by intro _ _; rfl) ?_
  refine W_field (d := .bool true) (by assumption) ?_ (by decide +kernel) (by ((with_reducible exact lk_hit))) (stp _).1 (stp _).2.1 (hKY ▸ kg_istext _) (by kernel_rfl) (fun _ e => by cases e) (t_bool ?_)
  · (have hh := In.scope ‹In _ _ _›; exact kindE hh (by kernel_rfl))
  rw [if_neg (by decide)]
  ((try dsimp only); ((with_reducible refine WXs_nil ?_); (try dsimp only)))
  ((try dsimp only); (with_reducible refine WXs_cons ?_))
  ((try dsimp only); ((with_reducible refine WX_SetAttr (hs := ?hsz42) ?_); (case hsz42 => intro _; rfl)))
  ((try dsimp only); ((with_reducible refine W_local (d := ?dz43) (by assumption) ?hkz43 ?hlz43 ?qz43 ?hdz43); (case hkz43 => (have hh := In.scope ‹In _ _ _›; exact kindE hh (by kernel_rfl))); (case hlz43 => ((with_reducible refine lk_skip ?hne2z43 ?hrest2z43); (case hne2z43 => decide +kernel); (with_reducible exact lk_hit))); (case hdz43 => decide +kernel); (try dsimp only)))
  ((try dsimp only); ((with_reducible refine W_local (d := ?dz44) (by assumption) ?hkz44 ?hlz44 ?qz44 ?hdz44); (case hkz44 => (have hh := In.scope ‹In _ _ _›; exact kindE hh (by kernel_rfl))); (case hlz44 => ((with_reducible exact lk_hit))); (case hdz44 => decide +kernel); (try dsimp only)))
  refine sa_inst okY (stp _).1 (stp _).2.1 (hKY ▸ ks_dec _) (Nat.le_of_ble_eq_true (by kernel_rfl)) ?_
  rw [upd_upd]
  ((try dsimp only); (with_reducible refine WXs_cons ?_))
  ((try dsimp only); ((with_reducible refine WX_SetAttr (hs := ?hsz46) ?_); (case hsz46 => intro _; rfl)))
  ((try dsimp only); ((with_reducible refine W_int ?_); (try dsimp only)))
  ((try dsimp only); ((with_reducible refine W_local (d := ?dz48) (by assumption) ?hkz48 ?hlz48 ?qz48 ?hdz48); (case hkz48 => (have hh := In.scope ‹In _ _ _›; exact kindE hh (by kernel_rfl))); (case hlz48 => ((with_reducible exact lk_hit))); (case hdz48 => decide +kernel); (try dsimp only)))
  refine sa_inst okY (stp _).1 (stp _).2.1 (hKY ▸ ks_index _) (Nat.le_of_ble_eq_true (by kernel_rfl)) ?_
  rw [upd_upd]
  ((try dsimp only); (with_reducible refine WXs_cons ?_))
  ((try dsimp only); ((with_reducible refine WX_SetAttr (hs := ?hsz50) ?_); (case hsz50 => intro _; rfl)))
  ((try dsimp only); ((with_reducible refine W_none ?_); (try dsimp only)))
  ((try dsimp only); ((with_reducible refine W_local (d := ?dz52) (by assumption) ?hkz52 ?hlz52 ?qz52 ?hdz52); (case hkz52 => (have hh := In.scope ‹In _ _ _›; exact kindE hh (by kernel_rfl))); (case hlz52 => ((with_reducible exact lk_hit))); (case hdz52 => decide +kernel); (try dsimp only)))
  refine sa_inst okY (stp _).1 (stp _).2.1 (hKY ▸ ks_next _) (Nat.le_of_ble_eq_true (by kernel_rfl)) ?_
  rw [upd_upd]
  rw [show updF (updF (updF (updF (updF [] (Str.ofString "istext") (V.bool true)) (Str.ofString "string") (V.str l)) (Str.ofString "decoded_string") (V.str l)) (Str.ofString "index") (V.int 0)) (Str.ofString "next") V.none = tokFs l 0 .none from by kernel_rfl]
  have tk : Tk (upd (upd (upd σ.hp dx (.dict [])) a (.inst CT dx)) dx (.dict (tokFs l 0 .none))) a dx l 0 .none := ⟨(stp _).1, (stp _).2.1⟩
  ((try dsimp only); (with_reducible refine WXs_cons ?_))
  refine WX_Expr (hs := by intro _; rfl) okY ?_
  refine W_Method (hbase := by intro _; rfl) (hfew := by intro _; rfl) (hline := by rfl) (hplain := by intro _; rfl) okY ?_
  ((try dsimp only); ((with_reducible refine W_local (d := ?dz54) (by assumption) ?hkz54 ?hlz54 ?qz54 ?hdz54); (case hkz54 => (have hh := In.scope ‹In _ _ _›; exact kindE hh (by kernel_rfl))); (case hlz54 => ((with_reducible exact lk_hit))); (case hdz54 => decide +kernel); (try dsimp only)))
  refine getm_inst okY tk.inst tk.dict (hKY ▸ km_next _) (by kernel_rfl) ⟨keeps_fn hKY (by kernel_rfl), ?_⟩
  refine WA_nil ?_
  refine c_next' (n := n) okY hKY hPY hcY tk hl (by omega) ?_
  cases h : sg l 0 with
  | none =>
    have q' := q a dx _ ha hdx (stp (.dict (tokFs l 0 .none))).2.2
    rw [h] at q'; exact q'
  | some je =>
    obtain ⟨j, e⟩ := je
    have q' := q a dx _ ha hdx (stp (.dict (tokFs l j e))).2.2
    rw [h] at q'
    dsimp only at q' ⊢
    ((try dsimp only); ((with_reducible refine WXs_nil ?_); (try dsimp only)))
    rw [upd_upd]
    exact ⟨rfl, q' ⟨(stp _).1, (stp _).2.1⟩⟩
end Mine
namespace Mine
open PySem PySem.W PySem.Calls PySem.Spec PyProof.Rows
inductive Rd (l : List Nat) (i : Nat) (err : Bool) : V → List (List Nat) → Prop
  | nil : i ≤ l.length → l.length ≤ i → err = false → Rd l i err .none []
  | cons (s : List Nat) (S' : List (List Nat)) : i ≤ l.length → s ≠ [] → s.length ≤ 2 → rs (l.drop i) = (S', err) → Rd l i err (.str s) (s :: S')
theorem Rd.le {l : List Nat} {i : Nat} {err : Bool} {d : V} {S : List (List Nat)} (x : Rd l i err d S) : i ≤ l.length := by cases x <;> assumption
theorem Rd.lit {l : List Nat} {i : Nat} {err : Bool} {d : V} {S : List (List Nat)} (x : Rd l i err d S) : ∀ w, d ≠ .lit w := by cases x <;> (intro w e; cases e)
theorem sg_rs {l : List Nat} {i : Nat} (hi : i ≤ l.length) : match sg l i with
    | none => rs (l.drop i) = ([], true)
    | some (j, d) => Rd l j (rs (l.drop i)).2 d (rs (l.drop i)).1 := by
  unfold sg
  cases h : l[i]? with
  | none =>
    have hl : l.length ≤ i := List.getElem?_eq_none_iff.mp h
    have : l.drop i = [] := List.drop_eq_nil_of_le hl
    dsimp only
    rw [this]
    exact .nil hi hl rfl
  | some c =>
    obtain ⟨hlt, hc⟩ := List.getElem?_eq_some_iff.mp h
    have e1 : l.drop i = c :: l.drop (i + 1) := by rw [List.drop_eq_getElem_cons hlt, hc]
    dsimp only
    by_cases h92 : c = 92
    · subst h92
      rw [if_pos rfl]
      cases h2 : l[i + 1]? with
      | none =>
        have : l.drop (i + 1) = [] := List.drop_eq_nil_of_le (List.getElem?_eq_none_iff.mp h2)
        dsimp only
        rw [e1, this]; rfl
      | some c2 =>
        obtain ⟨hlt2, hc2⟩ := List.getElem?_eq_some_iff.mp h2
        have e2 : l.drop (i + 1) = c2 :: l.drop (i + 2) := by rw [List.drop_eq_getElem_cons hlt2, hc2]
        dsimp only
        rw [e1, e2, rs_esc]
        exact .cons _ _ (by omega) (by simp) (by simp) rfl
    · rw [if_neg h92]
      dsimp only
      rw [e1, rs_plain _ h92]
      exact .cons _ _ (by omega) (by simp) (by simp) rfl
theorem sg_cons {l : List Nat} {i : Nat} {err : Bool} {s : List Nat} {S' : List (List Nat)} (x : Rd l i err (.str s) (s :: S')) : match sg l i with
    | none => S' = [] ∧ err = true
    | some (j, d) => Rd l j err d S' := by
  cases x with
  | cons _ _ hi h1 h2 h3 =>
    have y := sg_rs hi
    rw [h3] at y
    cases h : sg l i with
    | none => rw [h] at y; simpa using y
    | some jd => rw [h] at y; exact y
theorem s_e : (Str.ofString "").cps.toList = [] := by decide +kernel
noncomputable def npV (p : List Nat → Bool) : V → Bool
  | .str z => !p z
  | _ => true
noncomputable def nlen : V → Nat
  | .str s => s.length
  | _ => 0
theorem Rd.sgn {l : List Nat} {i : Nat} {err : Bool} {d : V} {S : List (List Nat)} (x : Rd l i err d S) : d = .none ∨ ∃ s, s ≠ [] ∧ s.length ≤ 2 ∧ d = .str s := by
  cases x with
  | nil => exact .inl rfl
  | cons s S' h1 h2 h3 h4 => exact .inr ⟨s, h2, h3, rfl⟩
theorem Rd.pos {l : List Nat} {i : Nat} {d : V} {S : List (List Nat)} (x : Rd l i false d S) : (i : Int) - (nlen d : Nat) = (l.length : Int) - S.flatten.length := by
  cases x with
  | nil h1 h2 h3 => simp [nlen]; omega
  | cons s S' h1 h2 h3 h4 =>
    have h := rs_flat (l.drop i)
    rw [h4] at h
    have e := congrArg List.length h
    simp only [Bool.false_eq_true, if_false, List.append_nil, List.length_drop] at e
    simp only [nlen, List.flatten_cons, List.length_append]
    omega
theorem Rd.flat {l : List Nat} {i : Nat} {d : V} {S : List (List Nat)} (x : Rd l i false d S) : S.flatten.length ≤ i - l.length + l.length + 2 ∧ S.flatten.length ≤ l.length - i + 2 := by
  cases x with
  | nil h1 h2 h3 => simp
  | cons s S' h1 h2 h3 h4 =>
    have h := rs_flat (l.drop i)
    rw [h4] at h
    have e := congrArg List.length h
    simp only [Bool.false_eq_true, if_false, List.append_nil, List.length_drop] at e
    simp only [List.flatten_cons, List.length_append]
    omega
theorem c_tell {pp : Params} {X : Cx} {n : Nat} {σ : S} {E : Value → S → Prop} {a dx : Addr} {l : List Nat} {i : Nat} {d : V} {Q : V → S → Prop} (ok : Ok X (n + 1)) (hK : X.K = KK pp) (tk : Tk σ.hp a dx l i d) (hd : d = .none ∨ ∃ s, s ≠ [] ∧ s.length ≤ 2 ∧ d = .str s)
    (q : Q (.int ((i : Int) - (nlen d : Nat))) σ) : Call X (.ref 108) [.ref a] σ Q E := by
  refine Call.fn' (names := ["self"]) (loc0 := [("self", .ref a)]) (n := n) ok hK (f_tell _) (bind1 fun v _ => by kernel_rfl) (by kernel_rfl) (by decide +kernel) rfl rfl fun Y okY hI => ?_
  have hKY : Y.K = KK pp := hI.K.trans hK
  obtain ⟨t1, t2⟩ := tk
  conv in bodyAt _ _ => whnf
  refine W.hide fun Q1 E1 hQ1 hE1 => ?_
  ((try dsimp only); (with_reducible refine WXs_cons ?_))
  ((try dsimp only); (with_reducible refine WX_Return ?_))
  ((try dsimp only); (with_reducible refine W_BinOp ?_))
  refine W_field (by assumption) ?_ (by decide +kernel) (by ((with_reducible exact lk_hit))) t1 t2 (hKY ▸ kg_index _) (tok_index _ _ _) (fun _ e => by cases e) ?_
  · (have hh := In.scope ‹In _ _ _›; exact kindE hh (by kernel_rfl))
  refine W_Call (hplain := by intro _; rfl) (hlit := by intro _ _ _ _ x; cases x; rfl) okY ?_
  refine W_bi (v := .builtin "len") okY hKY (by (have hh := In.scope ‹In _ _ _›; exact kindE hh (by kernel_rfl))) (b_len _) (by kernel_rfl) (by decide +kernel) (by decide +kernel) ?_
  refine ⟨_, rfl, keeps_builtin, ?_⟩
  refine WA_cons ?_
  refine W_Or ?_
  refine W_field (by assumption) ?_ (by decide +kernel) (by ((with_reducible exact lk_hit))) t1 t2 (hKY ▸ kg_next _) (tok_next _ _ _) ?_ ?_
  · (have hh := In.scope ‹In _ _ _›; exact kindE hh (by kernel_rfl))
  · rcases hd with rfl | ⟨s, _, _, rfl⟩ <;> (intro w e; cases e)
  rcases hd with rfl | ⟨s, h1, h2, rfl⟩
  · refine t_none ?_
    rw [if_neg (by decide)]
    refine W_str s_e ?_
    refine WA_nil ?_
    refine c_lens (by simp) ?_
    exact o_subi (hQ1 _ _ q)
  · refine t_str (by omega) ?_
    have hne : (!s.isEmpty) = true := by cases s with | nil => exact absurd rfl h1 | cons _ _ => rfl
    rw [hne, if_pos rfl]
    refine WA_nil ?_
    refine c_lens (by omega) ?_
    exact o_subi (hQ1 _ _ q)
end Mine
namespace Mine
open PySem PySem.W PySem.Calls PySem.Spec PyProof.Rows
inductive GInv (p : List Nat → Bool) (C : V → Prop) (N : Nat) (l : List Nat) (SS : List (List Nat)) (hp : Addr → Option HO) (a dx : Addr) (cs : V) (i : Nat) (σ' : S) : Prop
  | mk (j : Nat) (dd : V) (S' acc : List (List Nat)) (rd : Rd l j false dd S') (e1 : acc ++ (gw p (N - i) S').1 = (gw p N SS).1) (e2 : (gw p (N - i) S').2 = (gw p N SS).2) (hs : ∀ s ∈ S'.take (N - i), C (.str s)) (hn : S'.length < N - i → C .none) (hf : acc.flatten.length + S'.flatten.length ≤ 1002)
    (eh : σ'.hp = upd hp dx (.dict (tokFs l j dd))) (et : lk σ'.loc "self" = some (.ref a)) (ec : lk σ'.loc "charset" = some cs) (er : lk σ'.loc "result" = some (.str acc.flatten))
inductive GFin (p : List Nat → Bool) (N : Nat) (l : List Nat) (SS : List (List Nat)) (hp : Addr → Option HO) (dx : Addr) (σ' : S) : Prop
  | mk (j : Nat) (dd : V) (rd : Rd l j false dd (gw p N SS).2) (eh : σ'.hp = upd hp dx (.dict (tokFs l j dd))) (er : lk σ'.loc "result" = some (.str (gw p N SS).1.flatten))
theorem c_gwh {pp : Params} {X : Cx} {n : Nat} {σ : S} {E : Value → S → Prop} {a dx : Addr} {l : List Nat} {i N : Nat} {d cs : V} {SS : List (List Nat)} {p : List Nat → Bool} {C : V → Prop} {Q : V → S → Prop} (ok : Ok X (n + 3)) (hK : X.K = KK pp) (hP : X.prog = PySem.Challenge.rw_ij0062_03.row.prog) (hc : X.ctx = none) (tk : Tk σ.hp a dx l i d) (hl : l.length ≤ 1000) (rd : Rd l i false d SS) (hN : N ≤ 1000) (hS : SS.flatten.length ≤ 1002)
    (hs : ∀ s ∈ SS.take N, C (.str s)) (hn : SS.length < N → C .none) (hcs : ∀ {Y : Cx} {σ' : S} {d' : V} {Q' : V → S → Prop} {E' : Value → S → Prop}, Ok Y 0 → C d' → Q' (.bool (npV p d')) σ' → Op2 Y (compareOp .NotIn) d' cs σ' Q' E')
    (q : ∀ j dd, Rd l j false dd (gw p N SS).2 → Q (.str (gw p N SS).1.flatten) { σ with hp := upd σ.hp dx (.dict (tokFs l j dd)) }) : Call X (.ref 86) [.ref a, .int N, cs] σ Q E := by
  refine Call.fn' (names := ["self", "n", "charset"]) (loc0 := [("self", .ref a), ("n", .int N), ("charset", cs)]) (n := n + 2) ok hK (f_gwh _) (bind3 fun u v w _ => by kernel_rfl) (by kernel_rfl) (by decide +kernel) rfl rfl fun Y okY hI => ?_
  have hKY : Y.K = KK pp := hI.K.trans hK
  have hcY : Y.ctx = none := hI.ctx.trans hc
  have hPY := hI.prog.trans hP
  obtain ⟨t1, t2⟩ := tk
  have had : a ≠ dx := fun e => by rw [e, t2] at t1; cases t1
  conv in bodyAt _ _ => whnf
  refine W.hide fun Q1 E1 hQ1 hE1 => ?_
  ((try dsimp only); (with_reducible refine WXs_cons ?_))
  ((try dsimp only); (with_reducible refine WX_Assign (hs := ?hsz57) (by assumption) ?hkz57 ?_); (case hsz57 => intro _; rfl); (case hkz57 => (have hh := In.scope ‹In _ _ _›; exact kindE hh (by kernel_rfl))))
  refine W_str s_e ?_
  ((try dsimp only); (with_reducible refine WXs_cons ?_))
  refine W.hideQ fun QF hQF => ?_
  have ret : ∀ σ', GFin p N l SS σ.hp dx σ' → QF .next σ' := fun σ' g => by
    obtain ⟨loc, hp⟩ := σ'
    obtain ⟨j, dd, rd, eh, er⟩ := g
    dsimp only at eh er
    subst eh
    refine hQF _ _ ?_
    ((try dsimp only); (with_reducible refine WXs_cons ?_))
    ((try dsimp only); (with_reducible refine WX_Return ?_))
    ((try dsimp only); ((with_reducible refine W_local (d := ?dz61) (by assumption) ?hkz61 ?hlz61 ?qz61 ?hdz61); (case hkz61 => (have hh := In.scope ‹In _ _ _›; exact kindE hh (by kernel_rfl))); (case hlz61 => ((with_reducible assumption))); (case hdz61 => decide +kernel); (try dsimp only)))
    exact hQ1 _ _ (q j dd rd)
  refine WX_For (hs := by intro _ _; rfl) okY hcY hI.env (by (have hh := In.scope ‹In _ _ _›; exact kindE hh (by kernel_rfl))) (GInv p C N l SS σ.hp a dx cs) ?_
  refine wit_range1 okY (KB.of hKY (by (have hh := In.scope ‹In _ _ _›; exact kindE hh (by kernel_rfl))) (b_range _) (by kernel_rfl)) (fun _ => rfl) ?_
  refine WA_cons ?_
  ((try dsimp only); ((with_reducible refine W_local (d := ?dz64) (by assumption) ?hkz64 ?hlz64 ?qz64 ?hdz64); (case hkz64 => (have hh := In.scope ‹In _ _ _›; exact kindE hh (by kernel_rfl))); (case hlz64 => ((with_reducible refine lkp_skip ?hne3z64 ?hrest3z64); (case hne3z64 => decide +kernel); (with_reducible refine lk_skip ?hne2z64 ?hrest2z64); (case hne2z64 => decide +kernel); (with_reducible exact lk_hit))); (case hdz64 => decide +kernel); (try dsimp only)))
  refine WA_nil ⟨N, rfl, by omega, ⟨i, d, SS, [], rd, rfl, rfl, hs, hn, by simpa using hS, by rw [upd_same t2], by ((with_reducible refine lkp_skip ?hne2z65 ?hrest2z65); (case hne2z65 => decide +kernel); (with_reducible exact lk_hit)), by ((with_reducible refine lkp_skip ?hne4z66 ?hrest4z66); (case hne4z66 => decide +kernel); (with_reducible refine lk_skip ?hne3z66 ?hrest3z66); (case hne3z66 => decide +kernel); (with_reducible refine lk_skip ?hne2z66 ?hrest2z66); (case hne2z66 => decide +kernel); (with_reducible exact lk_hit)), by show lk _ _ = some (.str []); ((with_reducible exact lk_put_self))⟩, fun k σ' wr hk inv okw => ?_, fun σ' inv => ?_⟩
  · obtain ⟨loc, hp⟩ := σ'
    obtain ⟨j, dd, S', acc, rd', e1, e2, hs', hn', hf, eh, et, ec, er⟩ := inv
    dsimp only at et ec er eh
    have tk' : Tk hp a dx l j dd := eh ▸ ⟨by rw [upd_ne had]; exact t1, upd_self⟩
    have hup : ∀ o, upd hp dx o = upd σ.hp dx o := fun o => by rw [eh, upd_upd]
    have hjl := rd'.le
    rw [show N - k = (N - (k + 1)) + 1 from by omega] at e1 e2 hn' hs'
    have fin : ∀ loc', lk loc' "result" = some (.str acc.flatten) → (gw p (N - (k + 1) + 1) S') = ([], S') → GFin p N l SS σ.hp dx ⟨loc', hp⟩ := fun loc' h1 h2 => by
      rw [h2] at e1 e2
      refine ⟨j, dd, by rw [← e2]; exact rd', eh, ?_⟩
      rw [← e1]; simpa using h1
    refine W.hideQ fun Q2 hQ2 => ?_
    ((try dsimp only); (with_reducible refine WXs_cons ?_))
    ((try dsimp only); (with_reducible refine WX_Assign (hs := ?hsz69) (by assumption) ?hkz69 ?_); (case hsz69 => intro _; rfl); (case hkz69 => (have hh := In.scope ‹In _ _ _›; exact kindE hh (by kernel_rfl))))
    refine W_field (by assumption) ?_ (by decide +kernel) (by ((with_reducible refine lkp_skip ?hne2z70 ?hrest2z70); (case hne2z70 => decide +kernel); (with_reducible assumption))) tk'.inst tk'.dict (hKY ▸ kg_next _) (tok_next _ _ _) rd'.lit ?_
    · (have hh := In.scope ‹In _ _ _›; exact kindE hh (by kernel_rfl))
    ((try dsimp only); (with_reducible refine WXs_cons ?_))
    ((try dsimp only); (with_reducible refine WX_If ?_))
    ((try dsimp only); ((with_reducible refine WT_Compare (hm := ?hmz74) ?_); (case hmz74 => with_unfolding_all rfl)))
    ((try dsimp only); ((with_reducible refine W_local (d := ?dz75) (by assumption) ?hkz75 ?hlz75 ?qz75 ?hdz75); (case hkz75 => (have hh := In.scope ‹In _ _ _›; exact kindE hh (by kernel_rfl))); (case hlz75 => ((with_reducible exact lk_put_self))); (case hdz75 => decide +kernel); (try dsimp only)))
    ((try dsimp only); ((with_reducible refine W_local (d := ?dz76) (by assumption) ?hkz76 ?hlz76 ?qz76 ?hdz76); (case hkz76 => (have hh := In.scope ‹In _ _ _›; exact kindE hh (by kernel_rfl))); (case hlz76 => ((with_reducible refine lkp_skip ?hne3z76 ?hrest3z76); (case hne3z76 => decide +kernel); (with_reducible refine lkp_skip ?hne2z76 ?hrest2z76); (case hne2z76 => decide +kernel); (with_reducible assumption))); (case hdz76 => decide +kernel); (try dsimp only)))
    have ok0 : Ok (Y.watch wr) 0 := ⟨okw.inK, okw.top, okw.frames, okw.frame, okw.eframe, okw.kind, okw.genv, okw.benv, okw.above, okw.locProt, okw.handled, okw.ctxIn, by have := okw.depth; omega, by have := okw.units; omega⟩
    cases rd' with
    | nil h1 h2 h3 =>
      refine hcs ok0 (hn' (by simp)) (t_bool ?_)
      rw [if_pos (show npV p .none = true from rfl)]
      ((try dsimp only); (with_reducible refine WXs_cons ?_))
      refine WX_Break ?_
      exact hQ2 _ _ (ret _ (fin _ (by ((with_reducible refine lkp_skip ?hne3z78 ?hrest3z78); (case hne3z78 => decide +kernel); (with_reducible refine lkp_skip ?hne2z78 ?hrest2z78); (case hne2z78 => decide +kernel); (with_reducible assumption))) rfl))
    | cons s S'' h1 h2 h3 h4 =>
      refine hcs ok0 (hs' s (by simp)) (t_bool ?_)
      by_cases hps : p s = true
      · rw [if_neg (by show ¬ (!p s) = true; rw [hps]; decide)]
        simp only [List.flatten_cons, List.length_append] at hf
        ((try dsimp only); ((with_reducible refine WXs_nil ?_); (try dsimp only)))
        ((try dsimp only); (with_reducible refine WXs_cons ?_))
        ((try dsimp only); (with_reducible refine WX_Aug (d := ?dz81) (by assumption) ?hkz81 ?hlz81 ?_); (case hkz81 => (have hh := In.scope ‹In _ _ _›; exact kindE hh (by kernel_rfl))); (case hlz81 => ((with_reducible refine lkp_skip ?hne3z81 ?hrest3z81); (case hne3z81 => decide +kernel); (with_reducible refine lkp_skip ?hne2z81 ?hrest2z81); (case hne2z81 => decide +kernel); (with_reducible assumption))))
        ((try dsimp only); ((with_reducible refine W_local (d := ?dz82) (by assumption) ?hkz82 ?hlz82 ?qz82 ?hdz82); (case hkz82 => (have hh := In.scope ‹In _ _ _›; exact kindE hh (by kernel_rfl))); (case hlz82 => ((with_reducible exact lk_put_self))); (case hdz82 => decide +kernel); (try dsimp only)))
        refine o_iadds (by omega) ?_
        ((try dsimp only); (with_reducible refine WXs_cons ?_))
        refine WX_Expr (hs := by intro _; rfl) okw ?_
        refine W_Method (hbase := by intro _; rfl) (hfew := by intro _; rfl) (hline := by rfl) (hplain := by intro _; rfl) okw ?_
        ((try dsimp only); ((with_reducible refine W_local (d := ?dz84) (by assumption) ?hkz84 ?hlz84 ?qz84 ?hdz84); (case hkz84 => (have hh := In.scope ‹In _ _ _›; exact kindE hh (by kernel_rfl))); (case hlz84 => ((with_reducible refine lkp_skip ?hne4z84 ?hrest4z84); (case hne4z84 => decide +kernel); (with_reducible refine lkp_skip ?hne3z84 ?hrest3z84); (case hne3z84 => decide +kernel); (with_reducible refine lkp_skip ?hne2z84 ?hrest2z84); (case hne2z84 => decide +kernel); (with_reducible assumption))); (case hdz84 => decide +kernel); (try dsimp only)))
        refine getm_inst okw tk'.inst tk'.dict (hKY ▸ km_next _) (by kernel_rfl) ⟨keeps_fn hKY (by kernel_rfl), ?_⟩
        refine WA_nil ?_
        refine c_next' (n := n) okw hKY hPY hcY tk' hl (by omega) ?_
        have hsg := sg_cons (.cons s S'' h1 h2 h3 h4 : Rd l j false (.str s) (s :: S''))
        cases hq : sg l j with
        | none => rw [hq] at hsg; cases hsg.2
        | some je =>
          obtain ⟨j1, d1⟩ := je
          rw [hq] at hsg
          dsimp only at hsg ⊢
          rw [hup]
          ((try dsimp only); ((with_reducible refine WXs_nil ?_); (try dsimp only)))
          have hfl : (acc ++ [s]).flatten = acc.flatten ++ s := by simp
          refine hQ2 _ _ ⟨j1, d1, S'', acc ++ [s], hsg, ?_, ?_, fun z hz => hs' z (by simp [hz]), fun hz => hn' (by simp; omega), by rw [hfl, List.length_append]; omega, rfl, by ((with_reducible refine lkp_skip ?hne4z86 ?hrest4z86); (case hne4z86 => decide +kernel); (with_reducible refine lkp_skip ?hne3z86 ?hrest3z86); (case hne3z86 => decide +kernel); (with_reducible refine lkp_skip ?hne2z86 ?hrest2z86); (case hne2z86 => decide +kernel); (with_reducible assumption)), by ((with_reducible refine lkp_skip ?hne4z87 ?hrest4z87); (case hne4z87 => decide +kernel); (with_reducible refine lkp_skip ?hne3z87 ?hrest3z87); (case hne3z87 => decide +kernel); (with_reducible refine lkp_skip ?hne2z87 ?hrest2z87); (case hne2z87 => decide +kernel); (with_reducible assumption)), ?_⟩
          · rw [← e1, gw, if_pos hps]; simp
          · rw [← e2, gw, if_pos hps]
          · rw [hfl]; ((with_reducible exact lk_put_self))
      · rw [Bool.not_eq_true] at hps
        rw [if_pos (by show (!p s) = true; rw [hps]; decide)]
        ((try dsimp only); (with_reducible refine WXs_cons ?_))
        refine WX_Break ?_
        exact hQ2 _ _ (ret _ (fin _ (by ((with_reducible refine lkp_skip ?hne3z90 ?hrest3z90); (case hne3z90 => decide +kernel); (with_reducible refine lkp_skip ?hne2z90 ?hrest2z90); (case hne2z90 => decide +kernel); (with_reducible assumption))) (by rw [gw, if_neg (by simp [hps])])))
  · obtain ⟨loc, hp⟩ := σ'
    obtain ⟨j, dd, S', acc, rd', e1, e2, hs', hn', hf, eh, et, ec, er⟩ := inv
    dsimp only at et ec er eh
    rw [Nat.sub_self] at e1 e2
    ((try dsimp only); ((with_reducible refine WXs_nil ?_); (try dsimp only)))
    exact ret _ ⟨j, dd, by rw [← e2]; exact rd', eh, by rw [← e1]; simpa [gw] using er⟩
end Mine
namespace Mine
open PySem PySem.W PySem.Calls PySem.Spec PyProof.Rows
noncomputable def Sm (S : List (List Nat)) : Prop := ∀ s ∈ S, ∀ c ∈ s, c < 1000
theorem dats_strs {S : List (List Nat)} (h : Sm S) : V.plains (S.map V.str) = true ∧ PyData.canLayAll0 (V.dats (S.map V.str)) = true ∧ PyData.depthAll (V.dats (S.map V.str)) = 0 := by
  induction S with
  | nil => exact ⟨rfl, rfl, rfl⟩
  | cons s S ih =>
    obtain ⟨h1, h2, h3⟩ := ih fun z hz => h z (by simp [hz])
    have e : PyData.strOk (mk s) = true := by
      unfold PyData.strOk
      simpa using fun c hc => Nat.lt_trans (h s (by simp) c hc) (by decide)
    refine ⟨by simpa [V.plains, V.plain] using h1, ?_, ?_⟩
    · simp only [List.map_cons, V.dats, V.dat, PyData.canLayAll0, PyData.canLay0, e, h2]; rfl
    · simp only [List.map_cons, V.dats, V.dat, PyData.depthAll, PyData.depth, h3]; rfl
theorem any_strs {S : List (List Nat)} {s : List Nat} : ((V.dats (S.map V.str)).any fun y => PyData.eqv y (V.dat (.str s))) = S.contains s := by
  induction S with
  | nil => rfl
  | cons z S ih =>
    simp only [List.map_cons, V.dats, List.any_cons, ih, List.contains_cons]
    congr 1
    simp only [V.dat, PyData.eqv]
    rw [str_beq]
    show (z == s) = (s == z)
    exact Bool.beq_comm
theorem any_none {S : List (List Nat)} : ((V.dats (S.map V.str)).any fun y => PyData.eqv y (V.dat .none)) = false := by
  induction S with
  | nil => rfl
  | cons z S ih => simp only [List.map_cons, V.dats, List.any_cons, ih]; rfl
theorem o_notinS {X : Cx} {n : Nat} {σ : S} {E : Value → S → Prop} {Q : V → S → Prop} {S : List (List Nat)} {d : V} (ok : Ok X n) (hS : Sm S) (hd : d = .none ∨ ∃ z, d = .str z ∧ ∀ c ∈ z, c < 1000) (q : Q (.bool (npV (fun z => S.contains z) d)) σ) : Op2 X (compareOp .NotIn) d (.lst (S.map .str)) σ Q E := by
  obtain ⟨h1, h2, h3⟩ := dats_strs hS
  rcases hd with rfl | ⟨z, rfl, hz⟩
  · exact c_notin ok rfl h1 rfl h2 (by rw [h3]; omega) any_none q
  · refine c_notin ok rfl h1 ?_ h2 (by rw [h3]; omega) any_strs q
    show PyData.strOk (mk z) = true
    unfold PyData.strOk
    simpa using fun c hc => Nat.lt_trans (hz c hc) (by decide)
end Mine
namespace Mine
open PySem PySem.W PySem.Calls PySem.Spec PyProof.Rows
theorem dig : ∀ k : Nat, k ≤ 9 → (Str.ofString (toString (k : Int))).cps.toList = [48 + k] := by
  intro k hk
  have : k = 0 ∨ k = 1 ∨ k = 2 ∨ k = 3 ∨ k = 4 ∨ k = 5 ∨ k = 6 ∨ k = 7 ∨ k = 8 ∨ k = 9 := by omega
  rcases this with rfl | rfl | rfl | rfl | rfl | rfl | rfl | rfl | rfl | rfl <;> decide +kernel
theorem undig : ∀ k : Nat, k ≤ 9 → PySem.intText? ⟨[48 + k].toArray⟩ = some (k : Int) := by
  intro k hk
  have : k = 0 ∨ k = 1 ∨ k = 2 ∨ k = 3 ∨ k = 4 ∨ k = 5 ∨ k = 6 ∨ k = 7 ∨ k = 8 ∨ k = 9 := by omega
  rcases this with rfl | rfl | rfl | rfl | rfl | rfl | rfl | rfl | rfl | rfl <;> decide +kernel
inductive RInv (m : Nat) (l : List Nat) (SS : List (List Nat)) (hp : Addr → Option HO) (a dx : Addr) (k : Nat) (σ' : S) : Prop
  | mk (j : Nat) (dd : V) (S' : List (List Nat)) (acc : List Nat) (e : k = S'.length) (rd : Rd l j false dd S') (hS : ∀ s ∈ S', s ∈ SS) (ea : acc ++ (sg2 (cntS m S')).flatten = (sg2 (cntS m SS)).flatten) (mono : ∀ b o, hp b = some o → σ'.hp b = some o) (tk : Tk σ'.hp a dx l j dd)
    (et : lk σ'.loc "t" = some (.ref a)) (em : lk σ'.loc "most" = some (.int m)) (es : lk σ'.loc "said" = some (.str acc))
theorem c_runs {pp : Params} {X : Cx} {n : Nat} {σ : S} {E : Value → S → Prop} {m : Nat} {SS : List (List Nat)} {Q : V → S → Prop} (ok : Ok X (n + 4)) (hK : X.K = KK pp) (hP : X.prog = PySem.Challenge.rw_ij0062_03.row.prog) (hc : X.ctx = none) (hm : 1 ≤ m) (hm9 : m ≤ 9)
    (hG : ∀ s ∈ SS, Gd s) (hSm : Sm SS) (hl : SS.flatten.length ≤ 1000) (hl2 : (sg2 (cntS m SS)).flatten.length ≤ 1000) (q : Q (.str (sg2 (cntS m SS)).flatten) σ) : Call X (.ref 144) [.str SS.flatten, .int m] σ Q E := by
  refine Call.fz ?_
  refine Call.fn' (names := ["text", "most"]) (loc0 := [("text", .str SS.flatten), ("most", .int m)]) (n := n + 3) ok hK (f_runs _) (bind2 fun v w _ => by kernel_rfl) (by kernel_rfl) (by decide +kernel) rfl rfl fun Y okY hI => ?_
  have hKY : Y.K = KK pp := hI.K.trans hK
  have hcY : Y.ctx = none := hI.ctx.trans hc
  have hPY := hI.prog.trans hP
  conv in bodyAt _ _ => whnf
  refine W.hide fun Q1 E1 hQ1 hE1 => ?_
  ((try dsimp only); (with_reducible refine WXs_cons ?_))
  ((try dsimp only); (with_reducible refine WX_Assign (hs := ?hsz93) (by assumption) ?hkz93 ?_); (case hsz93 => intro _; rfl); (case hkz93 => (have hh := In.scope ‹In _ _ _›; exact kindE hh (by kernel_rfl))))
  refine W_Call (hplain := by intro _; rfl) (hlit := by intro _ _ _ _ x; cases x; rfl) okY ?_
  refine W_gl okY hKY (by (have hh := In.scope ‹In _ _ _›; exact kindE hh (by kernel_rfl))) (g_tok _) (by decide +kernel) ?_
  refine ⟨_, rfl, keeps_fn hKY (by kernel_rfl), ?_⟩
  refine WA_cons ?_
  ((try dsimp only); ((with_reducible refine W_local (d := ?dz95) (by assumption) ?hkz95 ?hlz95 ?qz95 ?hdz95); (case hkz95 => (have hh := In.scope ‹In _ _ _›; exact kindE hh (by kernel_rfl))); (case hlz95 => ((with_reducible exact lk_hit))); (case hdz95 => decide +kernel); (try dsimp only)))
  refine WA_nil ?_
  refine c_new (n := n) okY hKY hPY hcY hl fun a dx hp' h1 h2 h3 => ?_
  have hsg := sg_rs (l := SS.flatten) (i := 0) (Nat.zero_le _)
  rw [List.drop_zero, rs_good SS hG] at hsg
  cases hs0 : sg SS.flatten 0 with
  | none => rw [hs0] at hsg; cases congrArg Prod.snd hsg
  | some je =>
    obtain ⟨j0, e0⟩ := je
    rw [hs0] at hsg
    dsimp only at hsg h1 h2 h3 ⊢
    intro tk0
    ((try dsimp only); (with_reducible refine WXs_cons ?_))
    ((try dsimp only); (with_reducible refine WX_Assign (hs := ?hsz97) (by assumption) ?hkz97 ?_); (case hsz97 => intro _; rfl); (case hkz97 => (have hh := In.scope ‹In _ _ _›; exact kindE hh (by kernel_rfl))))
    refine W_str s_e ?_
    ((try dsimp only); (with_reducible refine WXs_cons ?_))
    refine WX_While okY hI.env (RInv m SS.flatten SS σ.hp a dx) (fun k σ' inv => ?_) SS.length ⟨j0, e0, SS, [], rfl, hsg, fun _ h => h, rfl, h3, tk0, by ((with_reducible refine lkp_skip ?hne2z99 ?hrest2z99); (case hne2z99 => decide +kernel); (with_reducible exact lk_put_self)), by ((with_reducible refine lkp_skip ?hne4z100 ?hrest4z100); (case hne4z100 => decide +kernel); (with_reducible refine lkp_skip ?hne3z100 ?hrest3z100); (case hne3z100 => decide +kernel); (with_reducible refine lk_skip ?hne2z100 ?hrest2z100); (case hne2z100 => decide +kernel); (with_reducible exact lk_hit)), by ((with_reducible exact lk_put_self))⟩
    obtain ⟨loc, hp⟩ := σ'
    obtain ⟨j, dd, S', acc, rfl, rd, hS, ea, mono, tk, et, em, es⟩ := inv
    dsimp only at mono tk et em es
    have hjl := rd.le
    ((try dsimp only); ((with_reducible refine WT_Compare (hm := ?hmz102) ?_); (case hmz102 => with_unfolding_all rfl)))
    refine W_field (by assumption) ?_ (by decide +kernel) (by ((with_reducible assumption))) tk.inst tk.dict (hKY ▸ kg_next _) (tok_next _ _ _) rd.lit ?_
    · (have hh := In.scope ‹In _ _ _›; exact kindE hh (by kernel_rfl))
    ((try dsimp only); ((with_reducible refine W_none ?_); (try dsimp only)))
    cases rd with
    | nil r1 r2 r3 =>
      refine o_notnone trivial (t_bool ?_)
      rw [if_neg (by decide)]
      ((try dsimp only); ((with_reducible refine WXs_nil ?_); (try dsimp only)))
      ((try dsimp only); (with_reducible refine WXs_cons ?_))
      ((try dsimp only); (with_reducible refine WX_Return ?_))
      ((try dsimp only); ((with_reducible refine W_local (d := ?dz109) (by assumption) ?hkz109 ?hlz109 ?qz109 ?hdz109); (case hkz109 => (have hh := In.scope ‹In _ _ _›; exact kindE hh (by kernel_rfl))); (case hlz109 => ((with_reducible assumption))); (case hdz109 => decide +kernel); (try dsimp only)))
      refine hQ1 _ _ ⟨σ.hp, _, mono, .refl _, ?_⟩
      have : acc = (sg2 (cntS m SS)).flatten := by rw [← ea]; simp [cntS, sg2]
      rw [← this] at q; exact q
    | cons s S'' r1 r2 r3 r4 =>
      refine o_notnone trivial (t_bool ?_)
      rw [if_pos (by rfl)]
      refine W.hideQ fun Q2 hQ2 => ?_
      have hsm : ∀ c ∈ s, c < 1000 := hSm s (hS s (by simp))
      have rd0 : Rd SS.flatten j false (.str s) (s :: S'') := .cons s S'' r1 r2 r3 r4
      have hfl : (s :: S'').flatten.length ≤ 1002 := by have := rd0.flat.2; omega
      ((try dsimp only); (with_reducible refine WXs_cons ?_))
      ((try dsimp only); (with_reducible refine WX_Assign (hs := ?hsz111) (by assumption) ?hkz111 ?_); (case hsz111 => intro _; rfl); (case hkz111 => (have hh := In.scope ‹In _ _ _›; exact kindE hh (by kernel_rfl))))
      refine W_field (by assumption) ?_ (by decide +kernel) (by ((with_reducible assumption))) tk.inst tk.dict (hKY ▸ kg_next _) (tok_next _ _ _) (fun _ e => by cases e) ?_
      · (have hh := In.scope ‹In _ _ _›; exact kindE hh (by kernel_rfl))
      ((try dsimp only); (with_reducible refine WXs_cons ?_))
      ((try dsimp only); (with_reducible refine WX_Assign (hs := ?hsz115) (by assumption) ?hkz115 ?_); (case hsz115 => intro _; rfl); (case hkz115 => (have hh := In.scope ‹In _ _ _›; exact kindE hh (by kernel_rfl))))
      refine W_Method (hbase := by intro _; rfl) (hfew := by intro _; rfl) (hline := by rfl) (hplain := by intro _; rfl) okY ?_
      ((try dsimp only); ((with_reducible refine W_local (d := ?dz116) (by assumption) ?hkz116 ?hlz116 ?qz116 ?hdz116); (case hkz116 => (have hh := In.scope ‹In _ _ _›; exact kindE hh (by kernel_rfl))); (case hlz116 => ((with_reducible refine lkp_skip ?hne2z116 ?hrest2z116); (case hne2z116 => decide +kernel); (with_reducible assumption))); (case hdz116 => decide +kernel); (try dsimp only)))
      refine getm_inst okY tk.inst tk.dict (hKY ▸ km_gwh _) (by kernel_rfl) ⟨keeps_fn hKY (by kernel_rfl), ?_⟩
      refine WA_cons ?_
      ((try dsimp only); ((with_reducible refine W_local (d := ?dz117) (by assumption) ?hkz117 ?hlz117 ?qz117 ?hdz117); (case hkz117 => (have hh := In.scope ‹In _ _ _›; exact kindE hh (by kernel_rfl))); (case hlz117 => ((with_reducible refine lkp_skip ?hne2z117 ?hrest2z117); (case hne2z117 => decide +kernel); (with_reducible assumption))); (case hdz117 => decide +kernel); (try dsimp only)))
      refine WA_cons ?_
      refine W_List ?_
      refine WA_cons ?_
      ((try dsimp only); ((with_reducible refine W_local (d := ?dz118) (by assumption) ?hkz118 ?hlz118 ?qz118 ?hdz118); (case hkz118 => (have hh := In.scope ‹In _ _ _›; exact kindE hh (by kernel_rfl))); (case hlz118 => ((with_reducible exact lk_put_self))); (case hdz118 => decide +kernel); (try dsimp only)))
      refine WA_nil ⟨by simp, ?_⟩
      refine WA_nil ?_
      refine c_gwh (n := n) (p := fun z => [s].contains z) (C := fun d => d = .none ∨ ∃ z, d = .str z ∧ ∀ c ∈ z, c < 1000) okY hKY hPY hcY tk hl rd0 (by omega) hfl (fun z hz => .inr ⟨z, rfl, hSm z (hS z (List.mem_of_mem_take hz))⟩) (fun _ => .inl rfl)
        (fun {Z σ' d' Q' E'} okZ hC hq => o_notinS (S := [s]) okZ (fun z hz => by rw [List.mem_singleton.mp hz]; exact hsm) hC hq) fun j' d' rd' => ?_
      have hpe : (fun z => [s].contains z) = (· == s) := by funext z; simp [List.contains, List.elem]; cases h : z == s <;> simp [h]
      rw [hpe] at rd' ⊢
      have tk' := tk.upd j' d'
      have mono' : ∀ b o, σ.hp b = some o → upd hp dx (.dict (tokFs SS.flatten j' d')) b = some o := fun b o e => by
        rw [upd_ne (fun z => by rw [z] at e; have e' : σ.hp dx = none := h2; rw [e'] at e; cases e)]; exact mono b o e
      have hrun := cntS_run m s S'' hm
      have hpar := gw_parts (· == s) m (s :: S'')
      have hlen := gw_len (· == s) m (s :: S'')
      have hall := flat_all s (gw (· == s) m (s :: S'')).1 (fun z hz => by simpa using gw_p (· == s) m (s :: S'') z hz)
      have hne : (gw (· == s) m (s :: S'')).1 ≠ [] := by
        obtain ⟨m', rfl⟩ : ∃ k, m = k + 1 := ⟨m - 1, by omega⟩
        rw [gw, if_pos (by simp)]; simp
      generalize gw (· == s) m (s :: S'') = g at *
      generalize upd hp dx (.dict (tokFs SS.flatten j' d')) = hp1 at tk' mono' ⊢
      rw [hrun] at ea
      have ea' : acc ++ ([48 + g.1.length] ++ s) ++ (sg2 (cntS m g.2)).flatten = (sg2 (cntS m SS)).flatten := by
        rw [← ea]
        simp [sg2]
      have hacc := congrArg List.length ea'
      rw [List.length_append, List.length_append] at hacc
      have hs0 : s.length ≤ 2 := r3
      have hsne : 0 < s.length := List.length_pos_iff.mpr r2
      have hg18 : g.1.length * s.length ≤ 9 * 2 := Nat.mul_le_mul (by omega) hs0
      ((try dsimp only); (with_reducible refine WXs_cons ?_))
      ((try dsimp only); (with_reducible refine WX_Aug (d := ?dz120) (by assumption) ?hkz120 ?hlz120 ?_); (case hkz120 => (have hh := In.scope ‹In _ _ _›; exact kindE hh (by kernel_rfl))); (case hlz120 => ((with_reducible refine lkp_skip ?hne3z120 ?hrest3z120); (case hne3z120 => decide +kernel); (with_reducible refine lkp_skip ?hne2z120 ?hrest2z120); (case hne2z120 => decide +kernel); (with_reducible assumption))))
      ((try dsimp only); (with_reducible refine W_BinOp ?_))
      refine W_Call (hplain := by intro _; rfl) (hlit := by intro _ _ _ _ x; cases x; rfl) okY ?_
      refine W_bi (v := .type "str") okY hKY (by (have hh := In.scope ‹In _ _ _›; exact kindE hh (by kernel_rfl))) (b_str _) (by kernel_rfl) (by decide +kernel) (by decide +kernel) ?_
      refine ⟨_, rfl, keeps_type, ?_⟩
      refine WA_cons ?_
      ((try dsimp only); (with_reducible refine W_BinOp ?_))
      refine W_Call (hplain := by intro _; rfl) (hlit := by intro _ _ _ _ x; cases x; rfl) okY ?_
      refine W_bi (v := .builtin "len") okY hKY (by (have hh := In.scope ‹In _ _ _›; exact kindE hh (by kernel_rfl))) (b_len _) (by kernel_rfl) (by decide +kernel) (by decide +kernel) ?_
      refine ⟨_, rfl, keeps_builtin, ?_⟩
      refine WA_cons ?_
      ((try dsimp only); ((with_reducible refine W_local (d := ?dz125) (by assumption) ?hkz125 ?hlz125 ?qz125 ?hdz125); (case hkz125 => (have hh := In.scope ‹In _ _ _›; exact kindE hh (by kernel_rfl))); (case hlz125 => ((with_reducible exact lk_put_self))); (case hdz125 => decide +kernel); (try dsimp only)))
      refine WA_nil ?_
      refine c_lens (by rw [hall]; omega) ?_
      refine W_Call (hplain := by intro _; rfl) (hlit := by intro _ _ _ _ x; cases x; rfl) okY ?_
      refine W_bi (v := .builtin "len") okY hKY (by (have hh := In.scope ‹In _ _ _›; exact kindE hh (by kernel_rfl))) (b_len _) (by kernel_rfl) (by decide +kernel) (by decide +kernel) ?_
      refine ⟨_, rfl, keeps_builtin, ?_⟩
      refine WA_cons ?_
      ((try dsimp only); ((with_reducible refine W_local (d := ?dz127) (by assumption) ?hkz127 ?hlz127 ?qz127 ?hdz127); (case hkz127 => (have hh := In.scope ‹In _ _ _›; exact kindE hh (by kernel_rfl))); (case hlz127 => ((with_reducible refine lkp_skip ?hne2z127 ?hrest2z127); (case hne2z127 => decide +kernel); (with_reducible exact lk_put_self))); (case hdz127 => decide +kernel); (try dsimp only)))
      refine WA_nil ?_
      refine c_lens (by omega) ?_
      refine o_divi (by omega) (by omega) ?_
      rw [hall, show (((g.1.length * s.length : Nat) : Int).fdiv (s.length : Nat)) = (g.1.length : Int) from by rw [Int.natCast_mul]; exact Int.mul_fdiv_cancel _ (by omega)]
      refine WA_nil ?_
      refine c_strint (by omega) (by omega) ?_
      rw [dig _ (by omega)]
      ((try dsimp only); ((with_reducible refine W_local (d := ?dz128) (by assumption) ?hkz128 ?hlz128 ?qz128 ?hdz128); (case hkz128 => (have hh := In.scope ‹In _ _ _›; exact kindE hh (by kernel_rfl))); (case hlz128 => ((with_reducible refine lkp_skip ?hne2z128 ?hrest2z128); (case hne2z128 => decide +kernel); (with_reducible exact lk_put_self))); (case hdz128 => decide +kernel); (try dsimp only)))
      refine o_adds (by simp; omega) ?_
      refine o_iadds (by omega) ?_
      ((try dsimp only); ((with_reducible refine WXs_nil ?_); (try dsimp only)))
      refine hQ2 _ _ ⟨g.2.length, ?_, j', d', g.2, acc ++ ([48 + g.1.length] ++ s), rfl, rd', fun z hz => hS z (by rw [← hpar]; simp [hz]), ea', mono', tk', by ((with_reducible refine lkp_skip ?hne4z130 ?hrest4z130); (case hne4z130 => decide +kernel); (with_reducible refine lkp_skip ?hne3z130 ?hrest3z130); (case hne3z130 => decide +kernel); (with_reducible refine lkp_skip ?hne2z130 ?hrest2z130); (case hne2z130 => decide +kernel); (with_reducible assumption)), by ((with_reducible refine lkp_skip ?hne4z131 ?hrest4z131); (case hne4z131 => decide +kernel); (with_reducible refine lkp_skip ?hne3z131 ?hrest3z131); (case hne3z131 => decide +kernel); (with_reducible refine lkp_skip ?hne2z131 ?hrest2z131); (case hne2z131 => decide +kernel); (with_reducible assumption)), by ((with_reducible exact lk_put_self))⟩
      have := congrArg List.length hpar
      rw [List.length_append] at this
      have := List.length_pos_iff.mpr hne
      omega
end Mine
namespace Mine
open PySem PySem.W PySem.Calls PySem.Spec PyProof.Rows
theorem s_14 : (Str.ofString "1234").cps.toList = [49, 50, 51, 52] := by decide +kernel
theorem occ14 : ∀ k : Nat, 1 ≤ k → k ≤ 4 → (Builtin.Str.occurrences (mk [49, 50, 51, 52]) (mk [48 + k]) 0 4 1).isEmpty = false := by
  intro k h1 h4
  have : k = 1 ∨ k = 2 ∨ k = 3 ∨ k = 4 := by omega
  rcases this with rfl | rfl | rfl | rfl <;> decide +kernel
theorem o_notin14 {X : Cx} {σ : S} {E : Value → S → Prop} {Q : V → S → Prop} {k : Nat} (h1 : 1 ≤ k) (h4 : k ≤ 4) (q : Q (.bool false) σ) : Op2 X (compareOp .NotIn) (.str [48 + k]) (.str [49, 50, 51, 52]) σ Q E := fun v w s st va wb => by
  obtain ⟨t, rfl⟩ := va.strI
  obtain ⟨u, rfl⟩ := wb.strI
  refine PySem.P.notIn_str (qw_self st (.bool _) ?_)
  have e : (Builtin.Str.occurrences (mk [49, 50, 51, 52]) (mk [48 + k]) 0 (mk [49, 50, 51, 52]).length 1).isEmpty = false := by rw [mk_len]; exact occ14 k h1 h4
  rw [e]; exact q
inductive MInv (l : List Nat) (P : List (Nat × List Nat)) (hp : Addr → Option HO) (a dx : Addr) (k : Nat) (σ' : S) : Prop
  | mk (j : Nat) (dd : V) (P' : List (Nat × List Nat)) (acc : List Nat) (e : k = P'.length) (rd : Rd l j false dd (sg2 P')) (hS : ∀ p ∈ P', p ∈ P) (ea : acc ++ (ex2 P').flatten = (ex2 P).flatten) (mono : ∀ b o, hp b = some o → σ'.hp b = some o) (tk : Tk σ'.hp a dx l j dd)
    (et : lk σ'.loc "t" = some (.ref a)) (es : lk σ'.loc "text" = some (.str acc))
theorem c_meant {pp : Params} {X : Cx} {n : Nat} {σ : S} {E : Value → S → Prop} {P : List (Nat × List Nat)} {Q : V → S → Prop} (ok : Ok X (n + 4)) (hK : X.K = KK pp) (hP : X.prog = PySem.Challenge.rw_ij0062_03.row.prog) (hc : X.ctx = none)
    (hG : ∀ p ∈ P, (1 ≤ p.1 ∧ p.1 ≤ 4) ∧ Gd p.2) (hl : (sg2 P).flatten.length ≤ 1000) (hl2 : (ex2 P).flatten.length ≤ 1000) (q : Q (.str (ex2 P).flatten) σ) : Call X (.ref 151) [.str (sg2 P).flatten] σ Q E := by
  refine Call.fz ?_
  refine Call.fn' (names := ["said"]) (loc0 := [("said", .str (sg2 P).flatten)]) (n := n + 3) ok hK (f_meant _) (bind1 fun v _ => by kernel_rfl) (by kernel_rfl) (by decide +kernel) rfl rfl fun Y okY hI => ?_
  have hKY : Y.K = KK pp := hI.K.trans hK
  have hcY : Y.ctx = none := hI.ctx.trans hc
  have hPY := hI.prog.trans hP
  have hGd := sg2_good P fun p hp => ⟨by have := (hG p hp).1; omega, (hG p hp).2⟩
  conv in bodyAt _ _ => whnf
  refine W.hide fun Q1 E1 hQ1 hE1 => ?_
  ((try dsimp only); (with_reducible refine WXs_cons ?_))
  ((try dsimp only); (with_reducible refine WX_Assign (hs := ?hsz193) (by assumption) ?hkz193 ?_); (case hsz193 => intro _; rfl); (case hkz193 => (have hh := In.scope ‹In _ _ _›; exact kindE hh (by kernel_rfl))))
  refine W_Call (hplain := by intro _; rfl) (hlit := by intro _ _ _ _ x; cases x; rfl) okY ?_
  refine W_gl okY hKY (by (have hh := In.scope ‹In _ _ _›; exact kindE hh (by kernel_rfl))) (g_tok _) (by decide +kernel) ?_
  refine ⟨_, rfl, keeps_fn hKY (by kernel_rfl), ?_⟩
  refine WA_cons ?_
  ((try dsimp only); ((with_reducible refine W_local (d := ?dz195) (by assumption) ?hkz195 ?hlz195 ?qz195 ?hdz195); (case hkz195 => (have hh := In.scope ‹In _ _ _›; exact kindE hh (by kernel_rfl))); (case hlz195 => ((with_reducible exact lk_hit))); (case hdz195 => decide +kernel); (try dsimp only)))
  refine WA_nil ?_
  refine c_new (n := n) okY hKY hPY hcY hl fun a dx hp' h1 h2 h3 => ?_
  have hsg := sg_rs (l := (sg2 P).flatten) (i := 0) (Nat.zero_le _)
  rw [List.drop_zero, rs_good _ hGd] at hsg
  cases hs0 : sg (sg2 P).flatten 0 with
  | none => rw [hs0] at hsg; cases congrArg Prod.snd hsg
  | some je =>
    obtain ⟨j0, e0⟩ := je
    rw [hs0] at hsg
    dsimp only at hsg h1 h2 h3 ⊢
    intro tk0
    ((try dsimp only); (with_reducible refine WXs_cons ?_))
    ((try dsimp only); (with_reducible refine WX_Assign (hs := ?hsz197) (by assumption) ?hkz197 ?_); (case hsz197 => intro _; rfl); (case hkz197 => (have hh := In.scope ‹In _ _ _›; exact kindE hh (by kernel_rfl))))
    refine W_str s_e ?_
    ((try dsimp only); (with_reducible refine WXs_cons ?_))
    refine WX_While okY hI.env (MInv (sg2 P).flatten P σ.hp a dx) (fun k σ' inv => ?_) P.length ⟨j0, e0, P, [], rfl, hsg, fun _ h => h, rfl, h3, tk0, by ((with_reducible refine lkp_skip ?hne2z199 ?hrest2z199); (case hne2z199 => decide +kernel); (with_reducible exact lk_put_self)), by ((with_reducible exact lk_put_self))⟩
    obtain ⟨loc, hp⟩ := σ'
    obtain ⟨j, dd, P', acc, rfl, rd, hS, ea, mono, tk, et, es⟩ := inv
    dsimp only at mono tk et es
    have hjl := rd.le
    ((try dsimp only); ((with_reducible refine WT_Compare (hm := ?hmz201) ?_); (case hmz201 => with_unfolding_all rfl)))
    refine W_field (by assumption) ?_ (by decide +kernel) (by ((with_reducible assumption))) tk.inst tk.dict (hKY ▸ kg_next _) (tok_next _ _ _) rd.lit ?_
    · (have hh := In.scope ‹In _ _ _›; exact kindE hh (by kernel_rfl))
    ((try dsimp only); ((with_reducible refine W_none ?_); (try dsimp only)))
    have rd0 := rd
    have mono' : ∀ i' d', ∀ b o, σ.hp b = some o → upd hp dx (.dict (tokFs (sg2 P).flatten i' d')) b = some o := fun i' d' b o e => by
      rw [upd_ne (fun z => by rw [z] at e; have e' : σ.hp dx = none := h2; rw [e'] at e; cases e)]; exact mono b o e
    cases P' with
    | nil =>
      cases rd with
      | nil r1 r2 r3 =>
        refine o_notnone trivial (t_bool ?_)
        rw [if_neg (by decide)]
        ((try dsimp only); ((with_reducible refine WXs_nil ?_); (try dsimp only)))
        ((try dsimp only); (with_reducible refine WXs_cons ?_))
        ((try dsimp only); (with_reducible refine WX_Return ?_))
        ((try dsimp only); ((with_reducible refine W_local (d := ?dz208) (by assumption) ?hkz208 ?hlz208 ?qz208 ?hdz208); (case hkz208 => (have hh := In.scope ‹In _ _ _›; exact kindE hh (by kernel_rfl))); (case hlz208 => ((with_reducible assumption))); (case hdz208 => decide +kernel); (try dsimp only)))
        refine hQ1 _ _ ⟨σ.hp, _, mono, .refl _, ?_⟩
        have : acc = (ex2 P).flatten := by rw [← ea]; simp [ex2]
        rw [← this] at q; exact q
    | cons p P'' =>
      obtain ⟨k, z⟩ := p
      obtain ⟨⟨hk1, hk4⟩, hgz⟩ := hG (k, z) (hS _ (by simp))
      dsimp only at hk1 hk4 hgz
      change Rd (sg2 P).flatten j false dd ([48 + k] :: z :: sg2 P'') at rd
      change Rd (sg2 P).flatten j false dd ([48 + k] :: z :: sg2 P'') at rd0
      have ea' : (acc ++ (List.replicate k z).flatten) ++ (ex2 P'').flatten = (ex2 P).flatten := by
        rw [← ea]; simp [ex2]
      have hacc := congrArg List.length ea'
      rw [List.length_append, List.length_append] at hacc
      have hfl := rd.flat.2
      cases rd with
      | cons _ _ r1 r2 r3 r4 =>
        refine o_notnone trivial (t_bool ?_)
        rw [if_pos (by rfl)]
        refine W.hideQ fun Q2 hQ2 => ?_
        ((try dsimp only); (with_reducible refine WXs_cons ?_))
        ((try dsimp only); (with_reducible refine WX_Assign (hs := ?hsz210) (by assumption) ?hkz210 ?_); (case hsz210 => intro _; rfl); (case hkz210 => (have hh := In.scope ‹In _ _ _›; exact kindE hh (by kernel_rfl))))
        refine W_Method (hbase := by intro _; rfl) (hfew := by intro _; rfl) (hline := by rfl) (hplain := by intro _; rfl) okY ?_
        ((try dsimp only); ((with_reducible refine W_local (d := ?dz211) (by assumption) ?hkz211 ?hlz211 ?qz211 ?hdz211); (case hkz211 => (have hh := In.scope ‹In _ _ _›; exact kindE hh (by kernel_rfl))); (case hlz211 => ((with_reducible assumption))); (case hdz211 => decide +kernel); (try dsimp only)))
        refine getm_inst okY tk.inst tk.dict (hKY ▸ km_gwh _) (by kernel_rfl) ⟨keeps_fn hKY (by kernel_rfl), ?_⟩
        refine WA_cons ?_
        ((try dsimp only); ((with_reducible refine W_int ?_); (try dsimp only)))
        refine WA_cons ?_
        refine W_str s_14 ?_
        refine WA_nil ?_
        refine c_gwh (n := n) (N := 1) (p := fun z => z == [48 + k]) (C := fun d => d = .str [48 + k]) okY hKY hPY hcY tk hl rd0 (by omega) (by omega) (fun z hz => by simp at hz; rw [hz]) (fun h => by simp at h)
          (fun {Z σ' d' Q' E'} okZ hC hq => by subst hC; exact o_notin14 hk1 hk4 (by simpa [npV] using hq)) fun j' d' rd' => ?_
        have hgw : gw (fun z => z == [48 + k]) 1 ([48 + k] :: z :: sg2 P'') = ([[48 + k]], z :: sg2 P'') := by
          rw [gw, if_pos (by simp), gw]
        rw [hgw] at rd' ⊢
        dsimp only at rd' ⊢
        have tk' := tk.upd j' d'
        have mono1 := mono' j' d'
        generalize upd hp dx (.dict (tokFs (sg2 P).flatten j' d')) = hp1 at tk' mono1 ⊢
        have mono2 : ∀ i' d', ∀ b o, σ.hp b = some o → upd hp1 dx (.dict (tokFs (sg2 P).flatten i' d')) b = some o := fun i' d' b o e => by
          rw [upd_ne (fun z => by rw [z] at e; have e' : σ.hp dx = none := h2; rw [e'] at e; cases e)]; exact mono1 b o e
        ((try dsimp only); (with_reducible refine WXs_cons ?_))
        ((try dsimp only); (with_reducible refine WX_Aug (d := ?dz214) (by assumption) ?hkz214 ?hlz214 ?_); (case hkz214 => (have hh := In.scope ‹In _ _ _›; exact kindE hh (by kernel_rfl))); (case hlz214 => ((with_reducible refine lkp_skip ?hne2z214 ?hrest2z214); (case hne2z214 => decide +kernel); (with_reducible assumption))))
        ((try dsimp only); (with_reducible refine W_BinOp ?_))
        refine W_Call (hplain := by intro _; rfl) (hlit := by intro _ _ _ _ x; cases x; rfl) okY ?_
        refine W_bi (v := .type "int") okY hKY (by (have hh := In.scope ‹In _ _ _›; exact kindE hh (by kernel_rfl))) (b_int _) (by kernel_rfl) (by decide +kernel) (by decide +kernel) ?_
        refine ⟨_, rfl, keeps_type, ?_⟩
        refine WA_cons ?_
        ((try dsimp only); ((with_reducible refine W_local (d := ?dz217) (by assumption) ?hkz217 ?hlz217 ?qz217 ?hdz217); (case hkz217 => (have hh := In.scope ‹In _ _ _›; exact kindE hh (by kernel_rfl))); (case hlz217 => ((with_reducible exact lk_put_self))); (case hdz217 => decide +kernel); (try dsimp only)))
        refine WA_nil ?_
        refine c_intstr (a := (k : Int)) (by simp) (undig k (by omega)) ?_
        refine W_Method (hbase := by intro _; rfl) (hfew := by intro _; rfl) (hline := by rfl) (hplain := by intro _; rfl) okY ?_
        ((try dsimp only); ((with_reducible refine W_local (d := ?dz218) (by assumption) ?hkz218 ?hlz218 ?qz218 ?hdz218); (case hkz218 => (have hh := In.scope ‹In _ _ _›; exact kindE hh (by kernel_rfl))); (case hlz218 => ((with_reducible refine lkp_skip ?hne2z218 ?hrest2z218); (case hne2z218 => decide +kernel); (with_reducible assumption))); (case hdz218 => decide +kernel); (try dsimp only)))
        refine getm_inst okY tk'.inst tk'.dict (hKY ▸ km_get _) (by kernel_rfl) ⟨keeps_fn hKY (by kernel_rfl), ?_⟩
        refine WA_nil ?_
        have hjl' := rd'.le
        refine c_get (n := n) okY hKY hPY hcY tk' rd'.lit hl (by omega) ?_
        cases rd' with
        | cons _ _ u1 u2 u3 u4 =>
          have hsg2 := sg_cons (.cons z (sg2 P'') u1 u2 u3 u4 : Rd (sg2 P).flatten j' false (.str z) (z :: sg2 P''))
          cases hq : sg (sg2 P).flatten j' with
          | none => rw [hq] at hsg2; cases hsg2.2
          | some je =>
            obtain ⟨j2, d2⟩ := je
            rw [hq] at hsg2
            dsimp only at hsg2 ⊢
            have tk2 := tk'.upd j2 d2
            have mono3 := mono2 j2 d2
            generalize upd hp1 dx (.dict (tokFs (sg2 P).flatten j2 d2)) = hp2 at tk2 mono3 ⊢
            refine o_muls (by omega) (by omega) (by omega) ?_
            rw [show ((k : Int)).toNat = k from rfl]
            refine o_iadds (by omega) ?_
            ((try dsimp only); ((with_reducible refine WXs_nil ?_); (try dsimp only)))
            exact hQ2 _ _ ⟨P''.length, by simp, j2, d2, P'', acc ++ (List.replicate k z).flatten, rfl, hsg2, fun p hp => hS p (by simp [hp]), ea', mono3, tk2, by ((with_reducible refine lkp_skip ?hne3z220 ?hrest3z220); (case hne3z220 => decide +kernel); (with_reducible refine lkp_skip ?hne2z220 ?hrest2z220); (case hne2z220 => decide +kernel); (with_reducible assumption)), by ((with_reducible exact lk_put_self))⟩
end Mine
namespace Mine
open PySem PySem.W PySem.Calls PySem.Spec PyProof.Rows
theorem s_1 : (Str.ofString "1").cps.toList = [49] := by decide +kernel
theorem slc_cut2 {α : Type} (l : List α) (a b : α) : slc (l ++ [a, b]) none (some (-2)) = l := by
  unfold slc kms_lo kms_hi
  dsimp only
  rw [if_pos (by omega)]
  simp
theorem cntS_snoc (m : Nat) (SS : List (List Nat)) (i : Nat) (h : i < SS.length) : cntS m (SS.take (i + 1)) = pstep m (cntS m (SS.take i)) SS[i] := by
  rw [← counted, ← counted, List.take_add_one, List.getElem?_eq_getElem h, List.foldl_append]; rfl
theorem WT_is {X : Cx} {t : Expr} {σ : S} {Q : Bool → S → Prop} {E : Value → S → Prop} {B : Bool} (h : WT X t σ (fun b σ₁ => b = B ∧ σ₁ = σ) E) (q : Q B σ) : WT X t σ Q E := h.mono (fun _ _ z => by obtain ⟨rfl, rfl⟩ := z; exact q) fun _ _ z => z
noncomputable def bt (m : Nat) (P : List (Nat × List Nat)) (s : List Nat) : Bool := match P.getLast? with
  | some (k, z) => decide (z = s ∧ k < m)
  | none => false
theorem bt_last (m : Nat) (P : List (Nat × List Nat)) (k : Nat) (z s : List Nat) : bt m (P ++ [(k, z)]) s = decide (z = s ∧ k < m) := by unfold bt; rw [List.getLast?_concat]
theorem bt_true {m : Nat} {P : List (Nat × List Nat)} {s : List Nat} (h : bt m P s = true) : ∃ P' k, P = P' ++ [(k, s)] ∧ k < m ∧ pstep m P s = P' ++ [(k + 1, s)] := by
  rcases List.eq_nil_or_concat P with rfl | ⟨P', p, rfl⟩
  · cases h
  · obtain ⟨k, z⟩ := p
    rw [List.concat_eq_append, bt_last] at h
    obtain ⟨rfl, hk⟩ := of_decide_eq_true h
    exact ⟨P', k, List.concat_eq_append .., hk, by rw [List.concat_eq_append, pstep_last, if_pos ⟨rfl, hk⟩]⟩
theorem bt_false {m : Nat} {P : List (Nat × List Nat)} {s : List Nat} (h : bt m P s = false) : pstep m P s = P ++ [(1, s)] := by
  rcases List.eq_nil_or_concat P with rfl | ⟨P', p, rfl⟩
  · rfl
  · obtain ⟨k, z⟩ := p
    rw [List.concat_eq_append, bt_last] at h
    rw [List.concat_eq_append, pstep_last, if_neg (of_decide_eq_false h)]
inductive CInv (m : Nat) (SS : List (List Nat)) (hp : Addr → Option HO) (i : Nat) (σ' : S) : Prop
  | mk (b : Addr) (hb : hp b = none) (e : σ'.hp b = some (.lst ((sg2 (cntS m (SS.take i))).map .str))) (mono : ∀ c o, hp c = some o → σ'.hp c = some o) (et : lk σ'.loc "told" = some (.ref b)) (em : lk σ'.loc "most" = some (.int m))
theorem c_counted {pp : Params} {X : Cx} {n : Nat} {σ : S} {E : Value → S → Prop} {m : Nat} {SS : List (List Nat)} {Q : V → S → Prop} (ok : Ok X (n + 1)) (hK : X.K = KK pp) (hc : X.ctx = none) (hm : 1 ≤ m) (hm9 : m ≤ 8) (hl : SS.length ≤ 1000)
    (q : Q (.lst ((sg2 (cntS m SS)).map .str)) σ) : Call X (.ref 158) [.lst (SS.map .str), .int m] σ Q E := by
  refine Call.fz ?_
  refine Call.fn' (names := ["signs", "most"]) (loc0 := [("signs", .lst (SS.map .str)), ("most", .int m)]) (n := n) ok hK (f_counted _) (bind2 fun v w _ => by kernel_rfl) (by kernel_rfl) (by decide +kernel) rfl rfl fun Y okY hI => ?_
  have hKY : Y.K = KK pp := hI.K.trans hK
  have hcY : Y.ctx = none := hI.ctx.trans hc
  conv in bodyAt _ _ => whnf
  refine W.hide fun Q1 E1 hQ1 hE1 => ?_
  ((try dsimp only); (with_reducible refine WXs_cons ?_))
  ((try dsimp only); (with_reducible refine WX_Assign (hs := ?hsz223) (by assumption) ?hkz223 ?_); (case hsz223 => intro _; rfl); (case hkz223 => (have hh := In.scope ‹In _ _ _›; exact kindE hh (by kernel_rfl))))
  refine W_ListO okY ?_
  refine WA_nil ⟨by simp, fun b hb => ?_⟩
  ((try dsimp only); (with_reducible refine WXs_cons ?_))
  refine WX_For (hs := by intro _ _; rfl) okY hcY hI.env (by (have hh := In.scope ‹In _ _ _›; exact kindE hh (by kernel_rfl))) (CInv m SS σ.hp) ?_
  refine wit_val ?_
  ((try dsimp only); ((with_reducible refine W_local (d := ?dz226) (by assumption) ?hkz226 ?hlz226 ?qz226 ?hdz226); (case hkz226 => (have hh := In.scope ‹In _ _ _›; exact kindE hh (by kernel_rfl))); (case hlz226 => ((with_reducible refine lkp_skip ?hne2z226 ?hrest2z226); (case hne2z226 => decide +kernel); (with_reducible exact lk_hit))); (case hdz226 => decide +kernel); (try dsimp only)))
  refine ⟨_, _, itb_lst, ⟨b, hb, by show upd σ.hp b _ b = _; rw [upd_self]; rfl, fun c o e => by show upd σ.hp b _ c = _; rw [upd_ne (fun z => by rw [z] at e; have hb' : σ.hp b = none := hb; rw [hb'] at e; cases e)]; exact e, by ((with_reducible exact lk_put_self)), by ((with_reducible refine lkp_skip ?hne3z228 ?hrest3z228); (case hne3z228 => decide +kernel); (with_reducible refine lk_skip ?hne2z228 ?hrest2z228); (case hne2z228 => decide +kernel); (with_reducible exact lk_hit))⟩, fun i σ' wr hi inv okw => ?_, fun σ' inv => ?_⟩
  · rw [List.length_map] at hi
    obtain ⟨loc, hp⟩ := σ'
    obtain ⟨b, hb, e, mono, et, em⟩ := inv
    dsimp only at e mono et em
    have hi' : (SS.map V.str).getD i .none = .str SS[i] := by rw [List.getD_eq_getElem?_getD]; simp [hi]
    rw [hi']
    have hok := cntS_ok m (SS.take i) hm
    have hlen := cntS_len m (SS.take i)
    rw [List.length_take] at hlen
    have hsn := cntS_snoc m SS i hi
    generalize SS[i] = s at *
    generalize hP : cntS m (SS.take i) = P at *
    clear hP
    refine W.hideQ fun Q2 hQ2 => ?_
    have fin : ∀ loc' hp' b', (∀ c o, hp c = some o → hp' c = some o ∨ c = b) → σ.hp b' = none → hp' b' = some (.lst ((sg2 (pstep m P s)).map .str)) → lk loc' "told" = some (.ref b') → lk loc' "most" = some (.int m) → Q2 .next ⟨loc', hp'⟩ := fun loc' hp' b' h1 h2 h3 h4 h5 =>
      hQ2 _ _ ⟨b', h2, by rw [hsn]; exact h3, fun c o z => (h1 c o (mono c o z)).resolve_right (fun z' => by rw [z', hb] at z; cases z), h4, h5⟩
    ((try dsimp only); (with_reducible refine WXs_cons ?_))
    ((try dsimp only); (with_reducible refine WX_If ?_))
    refine WT_is (B := bt m P s) ?_ ?_
    · refine WT_And3 ?_
      refine WT_value (he := by intro _ _; rfl) ?_
      ((try dsimp only); ((with_reducible refine W_local (d := ?dz231) (by assumption) ?hkz231 ?hlz231 ?qz231 ?hdz231); (case hkz231 => (have hh := In.scope ‹In _ _ _›; exact kindE hh (by kernel_rfl))); (case hlz231 => ((with_reducible refine lkp_skip ?hne2z231 ?hrest2z231); (case hne2z231 => decide +kernel); (with_reducible assumption))); (case hdz231 => decide +kernel); (try dsimp only)))
      refine t_lst (.own b _ e) (by rw [List.length_map, sg2_len]; omega) ?_
      rcases List.eq_nil_or_concat P with rfl | ⟨P', p, rfl⟩
      · rw [if_neg (by decide)]
        exact ⟨rfl, rfl⟩
      · obtain ⟨k, z⟩ := p
        rw [List.concat_eq_append] at e hok ⊢
        have e' := e
        rw [sg2_app, List.map_append] at e'
        obtain ⟨⟨hk1, hkm⟩, _⟩ := hok (k, z) (by simp)
        dsimp only at hk1 hkm
        have hl2 : ((sg2 P').map V.str).length ≤ 2000 := by rw [List.length_map, sg2_len]; rw [List.concat_eq_append, List.length_append] at hlen; simp at hlen; omega
        generalize (sg2 P').map V.str = ds at e' hl2
        replace e' : hp b = some (.lst (ds ++ [.str [48 + k], .str z])) := e'
        rw [if_pos (by rw [sg2_app]; simp [sg2])]
        ((try dsimp only); ((with_reducible refine WT_Compare (hm := ?hmz232) ?_); (case hmz232 => with_unfolding_all rfl)))
        ((try dsimp only); (with_reducible refine W_Sub ?_))
        ((try dsimp only); ((with_reducible refine W_local (d := ?dz234) (by assumption) ?hkz234 ?hlz234 ?qz234 ?hdz234); (case hkz234 => (have hh := In.scope ‹In _ _ _›; exact kindE hh (by kernel_rfl))); (case hlz234 => ((with_reducible refine lkp_skip ?hne2z234 ?hrest2z234); (case hne2z234 => decide +kernel); (with_reducible assumption))); (case hdz234 => decide +kernel); (try dsimp only)))
        refine W_Unary ?_
        ((try dsimp only); ((with_reducible refine W_int ?_); (try dsimp only)))
        refine o_negi ?_
        refine s_lstNeg (hs := by intro _ _ _; with_unfolding_all rfl) (k := 1) (d := .str z) (.own b _ e') (by simp) (by omega) (by simp; omega) (by simp) ?_
        ((try dsimp only); ((with_reducible refine W_local (d := ?dz236) (by assumption) ?hkz236 ?hlz236 ?qz236 ?hdz236); (case hkz236 => (have hh := In.scope ‹In _ _ _›; exact kindE hh (by kernel_rfl))); (case hlz236 => ((with_reducible exact lk_put_self))); (case hdz236 => decide +kernel); (try dsimp only)))
        refine o_eqs (t_bool ?_)
        rw [bt_last]
        by_cases hz : z = s
        · rw [if_pos (by simpa using hz)]
          ((try dsimp only); ((with_reducible refine WT_Compare (hm := ?hmz237) ?_); (case hmz237 => with_unfolding_all rfl)))
          refine W_Call (hplain := by intro _; rfl) (hlit := by intro _ _ _ _ x; cases x; rfl) okw ?_
          refine W_bi (v := .type "int") okw hKY (by (have hh := In.scope ‹In _ _ _›; exact kindE hh (by kernel_rfl))) (b_int _) (by kernel_rfl) (by decide +kernel) (by decide +kernel) ?_
          refine ⟨_, rfl, keeps_type, ?_⟩
          refine WA_cons ?_
          ((try dsimp only); (with_reducible refine W_Sub ?_))
          ((try dsimp only); ((with_reducible refine W_local (d := ?dz240) (by assumption) ?hkz240 ?hlz240 ?qz240 ?hdz240); (case hkz240 => (have hh := In.scope ‹In _ _ _›; exact kindE hh (by kernel_rfl))); (case hlz240 => ((with_reducible refine lkp_skip ?hne2z240 ?hrest2z240); (case hne2z240 => decide +kernel); (with_reducible assumption))); (case hdz240 => decide +kernel); (try dsimp only)))
          refine W_Unary ?_
          ((try dsimp only); ((with_reducible refine W_int ?_); (try dsimp only)))
          refine o_negi ?_
          refine s_lstNeg (hs := by intro _ _ _; with_unfolding_all rfl) (k := 2) (d := .str [48 + k]) (.own b _ e') (by simp) (by omega) (by simp; omega) (by simp) ?_
          refine WA_nil ?_
          refine c_intstr (a := (k : Int)) (by simp) (undig k (by omega)) ?_
          ((try dsimp only); ((with_reducible refine W_local (d := ?dz242) (by assumption) ?hkz242 ?hlz242 ?qz242 ?hdz242); (case hkz242 => (have hh := In.scope ‹In _ _ _›; exact kindE hh (by kernel_rfl))); (case hlz242 => ((with_reducible refine lkp_skip ?hne2z242 ?hrest2z242); (case hne2z242 => decide +kernel); (with_reducible assumption))); (case hdz242 => decide +kernel); (try dsimp only)))
          refine o_lti (t_bool ?_)
          exact ⟨by simp [hz], rfl⟩
        · rw [if_neg (by simpa using hz)]
          exact ⟨by simp [hz], rfl⟩
    · by_cases hb : bt m P s = true
      · rw [if_pos hb]
        obtain ⟨P', k, rfl, hkm, hps⟩ := bt_true hb
        have e' := e
        rw [sg2_app, List.map_append] at e'
        obtain ⟨⟨hk1, _⟩, _⟩ := hok (k, s) (by simp)
        dsimp only at hk1
        have hl2 : ((sg2 P').map V.str).length ≤ 2000 := by rw [List.length_map, sg2_len]; rw [List.length_append] at hlen; simp at hlen; omega
        generalize hds : (sg2 P').map V.str = ds at e' hl2
        replace e' : hp b = some (.lst (ds ++ [.str [48 + k], .str s])) := e'
        ((try dsimp only); (with_reducible refine WXs_cons ?_))
        ((try dsimp only); (with_reducible refine WX_Assign (hs := ?hsz244) (by assumption) ?hkz244 ?_); (case hsz244 => intro _; rfl); (case hkz244 => (have hh := In.scope ‹In _ _ _›; exact kindE hh (by kernel_rfl))))
        ((try dsimp only); (with_reducible refine W_BinOp ?_))
        refine W_SliceLst (ht := by intro _ _; rfl) ?_
        ((try dsimp only); ((with_reducible refine W_local (d := ?dz246) (by assumption) ?hkz246 ?hlz246 ?qz246 ?hdz246); (case hkz246 => (have hh := In.scope ‹In _ _ _›; exact kindE hh (by kernel_rfl))); (case hlz246 => ((with_reducible refine lkp_skip ?hne2z246 ?hrest2z246); (case hne2z246 => decide +kernel); (with_reducible assumption))); (case hdz246 => decide +kernel); (try dsimp only)))
        refine WP_none ?_
        refine WP_some ?_
        refine W_Unary ?_
        ((try dsimp only); ((with_reducible refine W_int ?_); (try dsimp only)))
        refine o_negi ?_
        refine ⟨_, _, _, .own b _ e', by simp; omega, .none, .int _, ?_⟩
        rw [show (-2 : Int) = -2 from rfl, slc_cut2]
        refine W_List ?_
        refine WA_cons ?_
        refine W_Call (hplain := by intro _; rfl) (hlit := by intro _ _ _ _ x; cases x; rfl) okw ?_
        refine W_bi (v := .type "str") okw hKY (by (have hh := In.scope ‹In _ _ _›; exact kindE hh (by kernel_rfl))) (b_str _) (by kernel_rfl) (by decide +kernel) (by decide +kernel) ?_
        refine ⟨_, rfl, keeps_type, ?_⟩
        refine WA_cons ?_
        ((try dsimp only); (with_reducible refine W_BinOp ?_))
        refine W_Call (hplain := by intro _; rfl) (hlit := by intro _ _ _ _ x; cases x; rfl) okw ?_
        refine W_bi (v := .type "int") okw hKY (by (have hh := In.scope ‹In _ _ _›; exact kindE hh (by kernel_rfl))) (b_int _) (by kernel_rfl) (by decide +kernel) (by decide +kernel) ?_
        refine ⟨_, rfl, keeps_type, ?_⟩
        refine WA_cons ?_
        ((try dsimp only); (with_reducible refine W_Sub ?_))
        ((try dsimp only); ((with_reducible refine W_local (d := ?dz252) (by assumption) ?hkz252 ?hlz252 ?qz252 ?hdz252); (case hkz252 => (have hh := In.scope ‹In _ _ _›; exact kindE hh (by kernel_rfl))); (case hlz252 => ((with_reducible refine lkp_skip ?hne2z252 ?hrest2z252); (case hne2z252 => decide +kernel); (with_reducible assumption))); (case hdz252 => decide +kernel); (try dsimp only)))
        refine W_Unary ?_
        ((try dsimp only); ((with_reducible refine W_int ?_); (try dsimp only)))
        refine o_negi ?_
        refine s_lstNeg (hs := by intro _ _ _; with_unfolding_all rfl) (k := 2) (d := .str [48 + k]) (.own b _ e') (by simp) (by omega) (by simp; omega) (by simp) ?_
        refine WA_nil ?_
        refine c_intstr (a := (k : Int)) (by simp) (undig k (by omega)) ?_
        ((try dsimp only); ((with_reducible refine W_int ?_); (try dsimp only)))
        refine o_addi ?_
        refine WA_nil ?_
        refine c_strint (by omega) (by omega) ?_
        rw [show ((k : Int) + 1) = ((k + 1 : Nat) : Int) from rfl, dig _ (by omega)]
        refine WA_cons ?_
        ((try dsimp only); ((with_reducible refine W_local (d := ?dz255) (by assumption) ?hkz255 ?hlz255 ?qz255 ?hdz255); (case hkz255 => (have hh := In.scope ‹In _ _ _›; exact kindE hh (by kernel_rfl))); (case hlz255 => ((with_reducible exact lk_put_self))); (case hdz255 => decide +kernel); (try dsimp only)))
        refine WA_nil ⟨by simp, ?_⟩
        refine o_addlO okw (.val _) (.val _) (by simp; omega) fun c hc => ?_
        replace hc : hp c = none := hc
        ((try dsimp only); ((with_reducible refine WXs_nil ?_); (try dsimp only)))
        ((try dsimp only); ((with_reducible refine WXs_nil ?_); (try dsimp only)))
        refine fin _ _ c (fun x o z => .inl ?_) ?_ ?_ (by ((with_reducible exact lk_put_self))) (by ((with_reducible refine lkp_skip ?hne3z259 ?hrest3z259); (case hne3z259 => decide +kernel); (with_reducible refine lkp_skip ?hne2z259 ?hrest2z259); (case hne2z259 => decide +kernel); (with_reducible assumption)))
        · show upd hp c _ x = _
          rw [upd_ne (fun z' => by rw [z', hc] at z; cases z)]; exact z
        · cases hq : σ.hp c with
          | none => rfl
          | some o => have := mono c o hq; rw [hc] at this; cases this
        · show upd hp c _ c = _
          rw [upd_self, hps, sg2_app, List.map_append, hds]; rfl
      · rw [if_neg hb]
        have hps := bt_false (Bool.eq_false_iff.mpr hb)
        ((try dsimp only); (with_reducible refine WXs_cons ?_))
        ((try dsimp only); (with_reducible refine WX_Aug (d := ?dz261) (by assumption) ?hkz261 ?hlz261 ?_); (case hkz261 => (have hh := In.scope ‹In _ _ _›; exact kindE hh (by kernel_rfl))); (case hlz261 => ((with_reducible refine lkp_skip ?hne2z261 ?hrest2z261); (case hne2z261 => decide +kernel); (with_reducible assumption))))
        refine W_List ?_
        refine WA_cons ?_
        refine W_str s_1 ?_
        refine WA_cons ?_
        ((try dsimp only); ((with_reducible refine W_local (d := ?dz262) (by assumption) ?hkz262 ?hlz262 ?qz262 ?hdz262); (case hkz262 => (have hh := In.scope ‹In _ _ _›; exact kindE hh (by kernel_rfl))); (case hlz262 => ((with_reducible exact lk_put_self))); (case hdz262 => decide +kernel); (try dsimp only)))
        refine WA_nil ⟨by simp, ?_⟩
        refine o_iaddl okw e (.val _) (by rw [List.length_map, sg2_len]; simp; omega) ?_
        ((try dsimp only); ((with_reducible refine WXs_nil ?_); (try dsimp only)))
        ((try dsimp only); ((with_reducible refine WXs_nil ?_); (try dsimp only)))
        refine fin _ _ b (fun c o z => ?_) (by assumption) (by show upd hp b _ b = _; rw [upd_self, hps, sg2_app]; simp [sg2]) (by ((with_reducible exact lk_put_self))) (by ((with_reducible refine lkp_skip ?hne3z266 ?hrest3z266); (case hne3z266 => decide +kernel); (with_reducible refine lkp_skip ?hne2z266 ?hrest2z266); (case hne2z266 => decide +kernel); (with_reducible assumption)))
        by_cases hcb : c = b
        · exact .inr hcb
        · left; show upd hp b _ c = _; rw [upd_ne hcb]; exact z
  · obtain ⟨loc, hp⟩ := σ'
    obtain ⟨b, hb, e, mono, et, em⟩ := inv
    dsimp only at e mono et em
    rw [List.length_map, List.take_of_length_le (Nat.le_refl _)] at e
    ((try dsimp only); ((with_reducible refine WXs_nil ?_); (try dsimp only)))
    ((try dsimp only); (with_reducible refine WXs_cons ?_))
    ((try dsimp only); (with_reducible refine WX_Return ?_))
    ((try dsimp only); ((with_reducible refine W_local (d := ?dz270) (by assumption) ?hkz270 ?hlz270 ?qz270 ?hdz270); (case hkz270 => (have hh := In.scope ‹In _ _ _›; exact kindE hh (by kernel_rfl))); (case hlz270 => ((with_reducible assumption))); (case hdz270 => decide +kernel); (try dsimp only)))
    exact hQ1 _ _ ⟨σ.hp, _, mono, .own e hb, q⟩
end Mine
namespace Mine
open PySem PySem.W PySem.Calls PySem.Spec PyProof.Rows
theorem SubF.of {loc loc' : List (Str × V)} {hp hp' : Addr → Option HO} (h : ∀ p ∈ loc', ∃ d, lk loc p.1 = some d ∧ Fz hp hp' d p.2) (hh : ∀ a o, hp' a = some o → hp a = some o) : SubF ⟨loc', hp'⟩ ⟨loc, hp⟩ := by
  refine ⟨hh, fun x d e => ?_⟩
  have : ∃ p ∈ loc', p.1 = x ∧ p.2 = d := by
    have e' : lk loc' x = some d := e
    clear e h
    induction loc' with
    | nil => simp [lk] at e'
    | cons p r ih =>
      by_cases q : x = p.1
      · subst q
        have : lk (p :: r) p.1 = some p.2 := lk_hit
        rw [this] at e'
        cases e'
        exact ⟨p, .head _, rfl, rfl⟩
      · have : lk (p :: r) x = lk r x := by
          unfold lk
          rw [List.lookup_cons, show (x == p.1) = false from by simpa using q]
        rw [this] at e'
        obtain ⟨z, hz, a, b⟩ := ih e'
        exact ⟨z, .tail _ hz, a, b⟩
  obtain ⟨p, hp, rfl, rfl⟩ := this
  exact h p hp
theorem acc_filter (L : List (List Nat)) (p : List Nat → Bool) : accOf (fun i => p (L.getD i [])) (fun i => V.str (L.getD i [])) L.length = (L.filter p).map V.str := by
  unfold accOf
  have e : (List.range L.length).map (fun i => L.getD i []) = L := by
    apply List.ext_getElem
    · simp
    · intro i h1 h2; simp [List.getD_eq_getElem?_getD, h2]
  have e2 : (L.filter p).map V.str = (((List.range L.length).map fun i => L.getD i []).filter p).map V.str := by rw [e]
  rw [e2, List.filter_map, List.map_map]
  rfl
noncomputable def M5 : List (List Nat) := [[97], [49], [50], [92, 97], [92, 92]]
noncomputable def U5 (x : Int) : List (List Nat) := List.replicate (1 + ((x.fdiv 5).fmod 4).toNat) (M5.getD (x.fmod 5).toNat [])
noncomputable def S5 (xs : List Int) : List (List Nat) := (xs.map U5).flatten
theorem fmod_nat (n : Int) (k : Nat) (hk : 0 < k) : n.fmod k = ((n.fmod k).toNat : Int) ∧ (n.fmod k).toNat < k := by
  rw [Int.fmod_eq_emod_of_nonneg n (by omega)]
  have h1 := Int.emod_nonneg n (b := (k : Int)) (by omega)
  have h2 := Int.emod_lt_of_pos n (b := (k : Int)) (by omega)
  omega
theorem M5_ok : ∀ s ∈ M5, Gd s ∧ ∀ c ∈ s, c < 1000 := by
  intro s hs
  simp only [M5, List.mem_cons, List.not_mem_nil, or_false] at hs
  rcases hs with rfl | rfl | rfl | rfl | rfl
  · exact ⟨.inl ⟨97, by decide, rfl⟩, by decide⟩
  · exact ⟨.inl ⟨49, by decide, rfl⟩, by decide⟩
  · exact ⟨.inl ⟨50, by decide, rfl⟩, by decide⟩
  · exact ⟨.inr ⟨97, rfl⟩, by decide⟩
  · exact ⟨.inr ⟨92, rfl⟩, by decide⟩
theorem M5_getD {k : Nat} (h : k < 5) : M5[k]? = some (M5.getD k []) := by
  have : k < M5.length := h
  simp [List.getD_eq_getElem?_getD, this]
theorem S5_mem (xs : List Int) : ∀ s ∈ S5 xs, s ∈ M5 := by
  intro s hs
  unfold S5 at hs
  obtain ⟨l, hl, hs⟩ := List.mem_flatten.mp hs
  obtain ⟨x, _, rfl⟩ := List.mem_map.mp hl
  have e := List.eq_of_mem_replicate hs
  rw [e]
  have h := (fmod_nat x 5 (by decide)).2
  exact List.mem_of_getElem? (M5_getD h)
theorem S5_len (xs : List Int) : (S5 xs).length ≤ 4 * xs.length := by
  unfold S5
  induction xs with
  | nil => simp
  | cons x xs ih =>
    have h := (fmod_nat (x.fdiv 5) 4 (by decide)).2
    rw [show ((4 : Nat) : Int) = 4 from rfl] at h
    rw [List.map_cons, List.flatten_cons, List.length_append, List.length_cons]
    have : (U5 x).length = 1 + ((x.fdiv 5).fmod 4).toNat := by simp [U5]
    omega
theorem S5_snoc (xs : List Int) (x : Int) : S5 (xs ++ [x]) = S5 xs ++ U5 x := by simp [S5]
theorem sg2_sm (P : List (Nat × List Nat)) (h : ∀ p ∈ P, p.1 ≤ 9 ∧ ∀ c ∈ p.2, c < 1000) : Sm (sg2 P) := by
  intro s hs
  obtain ⟨p, hp, hs⟩ := List.mem_flatMap.mp hs
  obtain ⟨h1, h2⟩ := h p hp
  simp at hs
  rcases hs with rfl | rfl
  · intro c hc; simp at hc; omega
  · exact h2
end Mine
namespace Mine
open PySem PySem.W PySem.Calls PySem.Spec PyProof.Rows
theorem slc_to {α : Type} (l : List α) (k : Nat) : slc l none (some (k : Int)) = l.take k := by
  unfold slc kms_lo kms_hi
  dsimp only
  rw [if_neg (by omega)]
  simp
theorem slc_at {α : Type} (l : List α) (i k : Nat) : slc l (some (i : Int)) (some (k : Int)) = (l.drop i).take (k - i) := by
  unfold slc kms_lo kms_hi
  dsimp only
  rw [if_neg (by omega), if_neg (by omega)]
  simp only [Int.toNat_natCast]
  by_cases h : i ≤ l.length
  · rw [Nat.min_eq_left h]
    by_cases hk : k ≤ l.length
    · rw [Nat.min_eq_left hk]
    · rw [List.take_of_length_le (by rw [List.length_drop]; omega), List.take_of_length_le (by rw [List.length_drop]; omega)]
  · rw [List.drop_eq_nil_of_le (by omega), List.drop_eq_nil_of_le (by omega)]; simp
theorem o_muli {X : Cx} {σ : S} {E : Value → S → Prop} {Q : V → S → Prop} {i : Nat} (h : i ≤ 1000) (q : Q (.int ((2 * i : Nat) : Int)) σ) : Op2 X (binaryOp .Mult) (.int 2) (.int i) σ Q E := fun _ _ _ st va wb => by
  cases va; cases wb
  refine PyProof.Rows.mul_int (qw_same st _ ?_ q) (by mul_fits)
  rw [show ((2 * i : Nat) : Int) = 2 * (i : Int) from by omega]
  exact .int _ _
theorem m_a : (Str.ofString "a").cps.toList = [97] := by decide +kernel
theorem m_1 : (Str.ofString "1").cps.toList = [49] := by decide +kernel
theorem m_2 : (Str.ofString "2").cps.toList = [50] := by decide +kernel
theorem m_ba : (Str.ofString "\\a").cps.toList = [92, 97] := by decide +kernel
theorem m_bb : (Str.ofString "\\\\").cps.toList = [92, 92] := by decide +kernel
inductive XInv (m : Nat) (xs : List Int) (L : Nat) (i : Nat) (σ' : S) : Prop
  | mk (b : Addr) (hb : cells0 L 2 b = none) (e : σ'.hp b = some (.lst ((S5 (xs.take i)).map .str))) (mono : ∀ c o, cells0 L 2 c = some o → σ'.hp c = some o) (es : lk σ'.loc "signs" = some (.ref b)) (em : lk σ'.loc "most" = some (.int m))
theorem U5_strs (x : Int) : (List.replicate (1 + (x.fdiv 5).fmod 4).toNat [V.str (M5.getD (x.fmod 5).toNat [])]).flatten = (U5 x).map V.str := by
  have h := fmod_nat (x.fdiv 5) 4 (by decide)
  rw [show ((4 : Nat) : Int) = 4 from rfl] at h
  unfold U5
  rw [show (1 + (x.fdiv 5).fmod 4).toNat = 1 + ((x.fdiv 5).fmod 4).toNat from by omega, List.map_replicate]
  generalize 1 + ((x.fdiv 5).fmod 4).toNat = k
  induction k with
  | zero => rfl
  | succ k ih => rw [List.replicate_succ, List.flatten_cons, ih, List.replicate_succ]; rfl
end Mine
namespace Mine
open PySem PySem.W PySem.Calls PySem.Spec PyProof.Rows
inductive KInv (l : List Nat) (ONCE : List (List Nat)) (m L : Nat) (a dx : Addr) (i : Nat) (σ' : S) : Prop
  | mk (j : Nat) (e : V) (tk : Tk σ'.hp a dx l j e) (hel : ∀ w, e ≠ .lit w) (h1 : σ'.hp (L + 1) = some (.cell (some (.lst (ONCE.map .str))))) (h2 : ∃ v, σ'.hp (L + 2) = some (.cell v)) (et : lk σ'.loc "t" = some (.ref a)) (em : lk σ'.loc "most" = some (.int m))
set_option maxHeartbeats 8000000 in
theorem w_law {pp : Params} {X : Cx} {n : Nat} {ns : List Int} {L : Nat} (ok : Ok X (n + 8)) (hK : X.K = KK pp) (hP : X.prog = PySem.Challenge.rw_ij0062_03.row.prog) (hc : X.ctx = none) (hI : In X X (fdAt (KK pp) 163)) (hcl : X.env.cells = [(("k" : Str), (L + 2 : Addr)), (("once" : Str), (L + 1 : Addr))]) (hns : ns.length ≤ 63) :
    WXs X (bodyAt (KK pp) 163) ⟨[("script", .lst (ns.map .int))], cells0 L 2⟩ (fun fl _ => fl = .ret (.bool true)) F0 := by
  have c1 : X.env.cells.lookup ("once" : Str) = some (L + 1) := by rw [hcl]; kernel_rfl
  have c2 : X.env.cells.lookup ("k" : Str) = some (L + 2) := by rw [hcl]; kernel_rfl
  conv in bodyAt _ _ => whnf
  refine W.hideQ fun Q1 hQ1 => ?_
  ((try dsimp only); (with_reducible refine WXs_cons ?_))
  ((try dsimp only); (with_reducible refine WX_Assign (hs := ?hsz272) (by assumption) ?hkz272 ?_); (case hsz272 => intro _; rfl); (case hkz272 => (have hh := In.scope ‹In _ _ _›; exact kindE hh (by kernel_rfl))))
  ((try dsimp only); (with_reducible refine W_BinOp ?_))
  ((try dsimp only); ((with_reducible refine W_int ?_); (try dsimp only)))
  ((try dsimp only); (with_reducible refine W_BinOp ?_))
  refine W_Call (hplain := by intro _; rfl) (hlit := by intro _ _ _ _ x; cases x; rfl) ok ?_
  refine W_bi (v := .builtin "len") ok hK (by (have hh := In.scope ‹In _ _ _›; exact kindE hh (by kernel_rfl))) (b_len _) (by kernel_rfl) (by decide +kernel) (by decide +kernel) ?_
  refine ⟨_, rfl, keeps_builtin, ?_⟩
  refine WA_cons ?_
  ((try dsimp only); ((with_reducible refine W_local (d := ?dz277) (by assumption) ?hkz277 ?hlz277 ?qz277 ?hdz277); (case hkz277 => (have hh := In.scope ‹In _ _ _›; exact kindE hh (by kernel_rfl))); (case hlz277 => ((with_reducible exact lk_hit))); (case hdz277 => decide +kernel); (try dsimp only)))
  refine WA_nil ?_
  refine c_lenL (.val _) (by rw [List.length_map]; omega) ?_
  ((try dsimp only); ((with_reducible refine W_int ?_); (try dsimp only)))
  refine o_modi (by decide) (o_addi ?_)
  rw [List.length_map]
  obtain ⟨f1, f2⟩ := fmod_nat (ns.length : Int) 3 (by decide)
  rw [show ((3 : Nat) : Int) = 3 from rfl] at f1 f2
  rw [f1]
  generalize ((ns.length : Int).fmod 3).toNat = r at f2
  rw [show (2 + (r : Int)) = ((2 + r : Nat) : Int) from rfl]
  obtain ⟨m, hm⟩ : ∃ m, m = 2 + r := ⟨_, rfl⟩
  rw [← hm]
  have hm2 : 2 ≤ m := by omega
  have hm4 : m ≤ 4 := by omega
  clear hm f1 f2
  ((try dsimp only); (with_reducible refine WXs_cons ?_))
  ((try dsimp only); (with_reducible refine WX_Assign (hs := ?hsz280) (by assumption) ?hkz280 ?_); (case hsz280 => intro _; rfl); (case hkz280 => (have hh := In.scope ‹In _ _ _›; exact kindE hh (by kernel_rfl))))
  refine W_ListO ok ?_
  refine WA_nil ⟨by simp, fun b hb => ?_⟩
  replace hb : cells0 L 2 b = none := hb
  obtain ⟨xs, hxs⟩ : ∃ xs, xs = ns.take 4 ++ [ns.sum] := ⟨_, rfl⟩
  have hxl : xs.length ≤ 5 := by rw [hxs, List.length_append, List.length_take]; simp; omega
  ((try dsimp only); (with_reducible refine WXs_cons ?_))
  refine WX_For (hs := by intro _ _; rfl) ok hc hI.env (by (have hh := In.scope ‹In _ _ _›; exact kindE hh (by kernel_rfl))) (XInv m xs L) ?_
  refine wit_val ?_
  ((try dsimp only); (with_reducible refine W_BinOp ?_))
  refine W_SliceLst (ht := by intro _ _; rfl) ?_
  ((try dsimp only); ((with_reducible refine W_local (d := ?dz284) (by assumption) ?hkz284 ?hlz284 ?qz284 ?hdz284); (case hkz284 => (have hh := In.scope ‹In _ _ _›; exact kindE hh (by kernel_rfl))); (case hlz284 => ((with_reducible refine lkp_skip ?hne3z284 ?hrest3z284); (case hne3z284 => decide +kernel); (with_reducible refine lkp_skip ?hne2z284 ?hrest2z284); (case hne2z284 => decide +kernel); (with_reducible exact lk_hit))); (case hdz284 => decide +kernel); (try dsimp only)))
  refine WP_none ?_
  refine WP_some ?_
  ((try dsimp only); ((with_reducible refine W_int ?_); (try dsimp only)))
  refine ⟨_, _, _, .val _, by rw [List.length_map]; omega, .none, .int _, ?_⟩
  rw [show slc (ns.map V.int) none (some 4) = _ from slc_to _ 4]
  refine W_List ?_
  refine WA_cons ?_
  refine W_Call (hplain := by intro _; rfl) (hlit := by intro _ _ _ _ x; cases x; rfl) ok ?_
  refine W_bi (v := .builtin "sum") ok hK (by (have hh := In.scope ‹In _ _ _›; exact kindE hh (by kernel_rfl))) (b_sum _) (by kernel_rfl) (by decide +kernel) (by decide +kernel) ?_
  refine ⟨_, rfl, keeps_builtin, ?_⟩
  refine WA_cons ?_
  ((try dsimp only); ((with_reducible refine W_local (d := ?dz287) (by assumption) ?hkz287 ?hlz287 ?qz287 ?hdz287); (case hkz287 => (have hh := In.scope ‹In _ _ _›; exact kindE hh (by kernel_rfl))); (case hlz287 => ((with_reducible refine lkp_skip ?hne3z287 ?hrest3z287); (case hne3z287 => decide +kernel); (with_reducible refine lkp_skip ?hne2z287 ?hrest2z287); (case hne2z287 => decide +kernel); (with_reducible exact lk_hit))); (case hdz287 => decide +kernel); (try dsimp only)))
  refine WA_nil ?_
  refine c_sum ok hc ?_
  refine WA_nil ⟨by simp, ?_⟩
  refine o_addl (.val _) (.val _) (by rw [List.length_take]; simp; omega) ?_
  rw [show (ns.map V.int).take 4 ++ [V.int ns.sum] = xs.map V.int from by rw [hxs]; simp [List.map_take]]
  clear hxs
  refine ⟨_, _, itb_lst, ⟨b, hb, by show upd (cells0 L 2) b _ b = _; rw [upd_self]; rfl, fun c o e => by show upd (cells0 L 2) b _ c = _; rw [upd_ne (fun z => by rw [z, hb] at e; cases e)]; exact e, by ((with_reducible exact lk_put_self)), by ((with_reducible refine lkp_skip ?hne2z289 ?hrest2z289); (case hne2z289 => decide +kernel); (with_reducible exact lk_put_self))⟩, fun i σ' wr hi inv okw => ?_, fun σ' inv => ?_⟩
  · rw [List.length_map] at hi
    obtain ⟨loc, hp⟩ := σ'
    obtain ⟨b, hb, e, mono, es, em⟩ := inv
    dsimp only at e mono es em
    have hi' : (xs.map V.int).getD i .none = .int xs[i] := by rw [List.getD_eq_getElem?_getD]; simp [hi]
    rw [hi']
    have hsn : S5 (xs.take (i + 1)) = S5 (xs.take i) ++ U5 xs[i] := by rw [List.take_add_one, List.getElem?_eq_getElem hi]; exact S5_snoc _ _
    have hl := S5_len (xs.take i)
    rw [List.length_take] at hl
    generalize xs[i] = x at *
    generalize S5 (xs.take i) = SS at *
    refine W.hideQ fun Q2 hQ2 => ?_
    obtain ⟨g1, g2⟩ := fmod_nat (x.fdiv 5) 4 (by decide)
    obtain ⟨k1, k2⟩ := fmod_nat x 5 (by decide)
    rw [show ((4 : Nat) : Int) = 4 from rfl] at g1 g2
    rw [show ((5 : Nat) : Int) = 5 from rfl] at k1 k2
    have hu := U5_strs x
    have hul : ((U5 x).map V.str).length ≤ 4 := by simp [U5]; omega
    ((try dsimp only); (with_reducible refine WXs_cons ?_))
    ((try dsimp only); (with_reducible refine WX_Aug (d := ?dz291) (by assumption) ?hkz291 ?hlz291 ?_); (case hkz291 => (have hh := In.scope ‹In _ _ _›; exact kindE hh (by kernel_rfl))); (case hlz291 => ((with_reducible refine lkp_skip ?hne2z291 ?hrest2z291); (case hne2z291 => decide +kernel); (with_reducible assumption))))
    ((try dsimp only); (with_reducible refine W_BinOp ?_))
    ((try dsimp only); (with_reducible refine W_BinOp ?_))
    ((try dsimp only); ((with_reducible refine W_int ?_); (try dsimp only)))
    ((try dsimp only); (with_reducible refine W_BinOp ?_))
    ((try dsimp only); (with_reducible refine W_BinOp ?_))
    ((try dsimp only); ((with_reducible refine W_local (d := ?dz297) (by assumption) ?hkz297 ?hlz297 ?qz297 ?hdz297); (case hkz297 => (have hh := In.scope ‹In _ _ _›; exact kindE hh (by kernel_rfl))); (case hlz297 => ((with_reducible exact lk_put_self))); (case hdz297 => decide +kernel); (try dsimp only)))
    ((try dsimp only); ((with_reducible refine W_int ?_); (try dsimp only)))
    refine o_divi (by decide) (by decide) ?_
    ((try dsimp only); ((with_reducible refine W_int ?_); (try dsimp only)))
    refine o_modi (by decide) (o_addi ?_)
    refine W_List ?_
    refine WA_cons ?_
    ((try dsimp only); (with_reducible refine W_Sub ?_))
    refine W_Tuple ?_
    refine WA_cons (W_str m_a ?_)
    refine WA_cons (W_str m_1 ?_)
    refine WA_cons (W_str m_2 ?_)
    refine WA_cons (W_str m_ba ?_)
    refine WA_cons (W_str m_bb ?_)
    refine WA_nil ⟨by simp, ?_⟩
    ((try dsimp only); (with_reducible refine W_BinOp ?_))
    ((try dsimp only); ((with_reducible refine W_local (d := ?dz302) (by assumption) ?hkz302 ?hlz302 ?qz302 ?hdz302); (case hkz302 => (have hh := In.scope ‹In _ _ _›; exact kindE hh (by kernel_rfl))); (case hlz302 => ((with_reducible exact lk_put_self))); (case hdz302 => decide +kernel); (try dsimp only)))
    ((try dsimp only); ((with_reducible refine W_int ?_); (try dsimp only)))
    refine o_modi (by decide) ?_
    rw [k1]
    refine s_tupItem (hs := by intro _ _ _; with_unfolding_all rfl) (d := .str (M5.getD (x.fmod 5).toNat [])) (by omega) ?_ ?_
    · show (M5.map V.str)[(x.fmod 5).toNat]? = _
      rw [List.getElem?_map, M5_getD k2]; rfl
    refine WA_nil ⟨by simp, ?_⟩
    refine o_mull (.val _) (by omega) (by omega) (by simp) ?_
    rw [hu]
    refine o_iaddl okw e (.val _) (by rw [List.length_map]; omega) ?_
    ((try dsimp only); ((with_reducible refine WXs_nil ?_); (try dsimp only)))
    refine hQ2 _ _ ⟨b, hb, by show upd hp b _ b = _; rw [upd_self, hsn, List.map_append], fun c o z => by show upd hp b _ c = _; rw [upd_ne (fun q => by rw [q, hb] at z; cases z)]; exact mono c o z, by ((with_reducible exact lk_put_self)), by ((with_reducible refine lkp_skip ?hne3z306 ?hrest3z306); (case hne3z306 => decide +kernel); (with_reducible refine lkp_skip ?hne2z306 ?hrest2z306); (case hne2z306 => decide +kernel); (with_reducible assumption))⟩
  · obtain ⟨loc, hp⟩ := σ'
    obtain ⟨b, hb, e, mono, es, em⟩ := inv
    dsimp only at e mono es em
    rw [List.length_map, List.take_of_length_le (Nat.le_refl _)] at e
    have hSl := S5_len xs
    have hSM := S5_mem xs
    generalize S5 xs = SS at e hSl hSM
    have hG : ∀ s ∈ SS, Gd s := fun s hs => (M5_ok s (hSM s hs)).1
    have hSm : Sm SS := fun s hs => (M5_ok s (hSM s hs)).2
    ((try dsimp only); ((with_reducible refine WXs_nil ?_); (try dsimp only)))
    refine W.dropF (σ' := ⟨[("most", .int m), ("signs", .lst (SS.map .str))], cells0 L 2⟩) (SubF.of (fun p hp => ?_) mono) ?_
    · rcases List.mem_cons.mp hp with rfl | hp
      · exact ⟨_, em, .refl _⟩
      · rw [List.mem_singleton.mp hp]; exact ⟨_, es, .own e hb⟩
    clear e mono es em hp loc hb
    have hf2 : ∀ (P : List (Nat × List Nat)), (∀ p ∈ P, Gd p.2) → (sg2 P).flatten.length ≤ 3 * P.length := fun P h => by
      induction P with
      | nil => simp [sg2]
      | cons p P ih =>
        have := ih fun q hq => h q (by simp [hq])
        have := (h p (by simp)).len.2
        show (_ :: _ :: sg2 P).flatten.length ≤ _
        simp only [List.flatten_cons, List.length_append, List.length_cons, List.length_nil]
        omega
    have hP0 := cntS_ok m SS (by omega)
    have hP0l := cntS_len m SS
    have hx0 := ex_cntS m SS
    have hT := flat_len SS fun s hs => (hG s hs).len.2
    ((try dsimp only); (with_reducible refine WXs_cons ?_))
    ((try dsimp only); (with_reducible refine WX_Assign (hs := ?hsz309) (by assumption) ?hkz309 ?_); (case hsz309 => intro _; rfl); (case hkz309 => (have hh := In.scope ‹In _ _ _›; exact kindE hh (by kernel_rfl))))
    refine W_Method (hbase := by intro _; rfl) (hfew := by intro _; rfl) (hline := by rfl) (hplain := by intro _; rfl) ok ?_
    refine W_str s_e ?_
    refine gm_str F.slot_str_join F.type_str_join ⟨keeps_builtin, ?_⟩
    refine WA_cons ?_
    ((try dsimp only); ((with_reducible refine W_local (d := ?dz310) (by assumption) ?hkz310 ?hlz310 ?qz310 ?hdz310); (case hkz310 => (have hh := In.scope ‹In _ _ _›; exact kindE hh (by kernel_rfl))); (case hlz310 => ((with_reducible refine lk_skip ?hne2z310 ?hrest2z310); (case hne2z310 => decide +kernel); (with_reducible exact lk_hit))); (case hdz310 => decide +kernel); (try dsimp only)))
    refine WA_nil ?_
    refine c_join (ls := SS) (fun l hl => by have := (hG l hl).len.2; omega) (by simp) (by omega) (.val _) ?_
    rw [joinL_eq, jn_nil]
    ((try dsimp only); (with_reducible refine WXs_cons ?_))
    refine WX_AssignC (hs := by intro _; rfl) ok (by (have hh := In.scope ‹In _ _ _›; exact kindE hh (by kernel_rfl))) c1 ?_
    refine W_Call (hplain := by intro _; rfl) (hlit := by intro _ _ _ _ x; cases x; rfl) ok ?_
    refine W_gl ok hK (by (have hh := In.scope ‹In _ _ _›; exact kindE hh (by kernel_rfl))) (g_counted _) (by decide +kernel) ?_
    refine ⟨_, rfl, keeps_fn hK (by kernel_rfl), ?_⟩
    refine WA_cons ?_
    ((try dsimp only); ((with_reducible refine W_local (d := ?dz314) (by assumption) ?hkz314 ?hlz314 ?qz314 ?hdz314); (case hkz314 => (have hh := In.scope ‹In _ _ _›; exact kindE hh (by kernel_rfl))); (case hlz314 => ((with_reducible refine lkp_skip ?hne3z314 ?hrest3z314); (case hne3z314 => decide +kernel); (with_reducible refine lk_skip ?hne2z314 ?hrest2z314); (case hne2z314 => decide +kernel); (with_reducible exact lk_hit))); (case hdz314 => decide +kernel); (try dsimp only)))
    refine WA_cons ?_
    ((try dsimp only); ((with_reducible refine W_local (d := ?dz315) (by assumption) ?hkz315 ?hlz315 ?qz315 ?hdz315); (case hkz315 => (have hh := In.scope ‹In _ _ _›; exact kindE hh (by kernel_rfl))); (case hlz315 => ((with_reducible refine lkp_skip ?hne2z315 ?hrest2z315); (case hne2z315 => decide +kernel); (with_reducible exact lk_hit))); (case hdz315 => decide +kernel); (try dsimp only)))
    refine WA_nil ?_
    refine c_counted (n := n + 7) ok hK hc (by omega) (by omega) (by omega) ?_
    refine ⟨none, cells0_at (Nat.lt_succ_self _) (Nat.le_succ _), ?_⟩
    have h1 : upd (cells0 L 2) (L + 1) (.cell (some (.lst ((sg2 (cntS m SS)).map .str)))) (L + 1) = some (.cell (some (.lst ((sg2 (cntS m SS)).map .str)))) := upd_self
    have h2 : upd (cells0 L 2) (L + 1) (.cell (some (.lst ((sg2 (cntS m SS)).map .str)))) (L + 2) = some (.cell none) := by rw [upd_ne (Nat.succ_ne_self _)]; exact cells0_at (Nat.lt_succ_of_lt (Nat.lt_succ_self _)) (Nat.le_refl _)
    dsimp only
    generalize upd (cells0 L 2) (L + 1) (.cell (some (.lst ((sg2 (cntS m SS)).map .str)))) = hp1 at h1 h2 ⊢
    have hG0 : ∀ p ∈ cntS m SS, (1 ≤ p.1 ∧ p.1 ≤ 4) ∧ Gd p.2 := fun p hp => ⟨by have := (hP0 p hp).1; omega, hG _ (hP0 p hp).2⟩
    have hO : ∀ s ∈ sg2 (cntS m SS), Gd s := sg2_good _ fun p hp => ⟨by have := (hG0 p hp).1; omega, (hG0 p hp).2⟩
    have hOs : Sm (sg2 (cntS m SS)) := sg2_sm _ fun p hp => ⟨by have := (hG0 p hp).1; omega, hSm _ (hP0 p hp).2⟩
    have hOl := sg2_len (cntS m SS)
    have hOf := hf2 (cntS m SS) fun p hp => (hG0 p hp).2
    ((try dsimp only); (with_reducible refine WXs_cons ?_))
    ((try dsimp only); (with_reducible refine WX_Assign (hs := ?hsz317) (by assumption) ?hkz317 ?_); (case hsz317 => intro _; rfl); (case hkz317 => (have hh := In.scope ‹In _ _ _›; exact kindE hh (by kernel_rfl))))
    refine W_Call (hplain := by intro _; rfl) (hlit := by intro _ _ _ _ x; cases x; rfl) ok ?_
    refine W_gl ok hK (by (have hh := In.scope ‹In _ _ _›; exact kindE hh (by kernel_rfl))) (g_runs _) (by decide +kernel) ?_
    refine ⟨_, rfl, keeps_fn hK (by kernel_rfl), ?_⟩
    refine WA_cons ?_
    ((try dsimp only); ((with_reducible refine W_local (d := ?dz319) (by assumption) ?hkz319 ?hlz319 ?qz319 ?hdz319); (case hkz319 => (have hh := In.scope ‹In _ _ _›; exact kindE hh (by kernel_rfl))); (case hlz319 => ((with_reducible exact lk_put_self))); (case hdz319 => decide +kernel); (try dsimp only)))
    refine WA_cons ?_
    ((try dsimp only); ((with_reducible refine W_local (d := ?dz320) (by assumption) ?hkz320 ?hlz320 ?qz320 ?hdz320); (case hkz320 => (have hh := In.scope ‹In _ _ _›; exact kindE hh (by kernel_rfl))); (case hlz320 => ((with_reducible refine lkp_skip ?hne2z320 ?hrest2z320); (case hne2z320 => decide +kernel); (with_reducible exact lk_hit))); (case hdz320 => decide +kernel); (try dsimp only)))
    refine WA_nil ?_
    refine c_runs (n := n + 4) ok hK hP hc (by omega) (by omega) hG hSm (by omega) (by omega) ?_
    generalize hP00 : cntS m SS = P0 at *
    generalize hON : sg2 P0 = ONCE at *
    have hP1 := cntS_ok m ONCE (by omega)
    have hP1l := cntS_len m ONCE
    have hx1 := ex_cntS m ONCE
    have hG1 : ∀ p ∈ cntS m ONCE, (1 ≤ p.1 ∧ p.1 ≤ 4) ∧ Gd p.2 := fun p hp => ⟨by have := (hP1 p hp).1; omega, hO _ (hP1 p hp).2⟩
    have hQf := hf2 (cntS m ONCE) fun p hp => (hG1 p hp).2
    ((try dsimp only); (with_reducible refine WXs_cons ?_))
    ((try dsimp only); (with_reducible refine WX_Assign (hs := ?hsz322) (by assumption) ?hkz322 ?_); (case hsz322 => intro _; rfl); (case hkz322 => (have hh := In.scope ‹In _ _ _›; exact kindE hh (by kernel_rfl))))
    refine W_Call (hplain := by intro _; rfl) (hlit := by intro _ _ _ _ x; cases x; rfl) ok ?_
    refine W_gl ok hK (by (have hh := In.scope ‹In _ _ _›; exact kindE hh (by kernel_rfl))) (g_runs _) (by decide +kernel) ?_
    refine ⟨_, rfl, keeps_fn hK (by kernel_rfl), ?_⟩
    refine WA_cons ?_
    ((try dsimp only); ((with_reducible refine W_local (d := ?dz324) (by assumption) ?hkz324 ?hlz324 ?qz324 ?hdz324); (case hkz324 => (have hh := In.scope ‹In _ _ _›; exact kindE hh (by kernel_rfl))); (case hlz324 => ((with_reducible exact lk_put_self))); (case hdz324 => decide +kernel); (try dsimp only)))
    refine WA_cons ?_
    ((try dsimp only); ((with_reducible refine W_local (d := ?dz325) (by assumption) ?hkz325 ?hlz325 ?qz325 ?hdz325); (case hkz325 => (have hh := In.scope ‹In _ _ _›; exact kindE hh (by kernel_rfl))); (case hlz325 => ((with_reducible refine lkp_skip ?hne3z325 ?hrest3z325); (case hne3z325 => decide +kernel); (with_reducible refine lkp_skip ?hne2z325 ?hrest2z325); (case hne2z325 => decide +kernel); (with_reducible exact lk_hit))); (case hdz325 => decide +kernel); (try dsimp only)))
    refine WA_nil ?_
    refine c_runs (n := n + 4) ok hK hP hc (by omega) (by omega) hO hOs (by omega) (by omega) ?_
    generalize hP11 : cntS m ONCE = P1 at *
    have hjb : ∀ l ∈ ONCE, l.length ≤ 1000 := fun l hl => by have := (hO l hl).len.2; omega
    have hjb1 : ∀ l ∈ sg2 P1, l.length ≤ 1000 := fun l hl => by
      have := (sg2_good P1 (fun p hp => ⟨by have := (hG1 p hp).1; omega, (hG1 p hp).2⟩) l hl).len.2
      omega
    have hP1l2 := sg2_len P1
    ((try dsimp only); (with_reducible refine WXs_cons ?_))
    ((try dsimp only); (with_reducible refine WX_If ?_))
    ((try dsimp only); (with_reducible refine WT_Or2 ?_))
    ((try dsimp only); ((with_reducible refine WT_Compare (hm := ?hmz329) ?_); (case hmz329 => with_unfolding_all rfl)))
    ((try dsimp only); ((with_reducible refine W_local (d := ?dz330) (by assumption) ?hkz330 ?hlz330 ?qz330 ?hdz330); (case hkz330 => (have hh := In.scope ‹In _ _ _›; exact kindE hh (by kernel_rfl))); (case hlz330 => ((with_reducible refine lkp_skip ?hne2z330 ?hrest2z330); (case hne2z330 => decide +kernel); (with_reducible exact lk_put_self))); (case hdz330 => decide +kernel); (try dsimp only)))
    refine W_Method (hbase := by intro _; rfl) (hfew := by intro _; rfl) (hline := by rfl) (hplain := by intro _; rfl) ok ?_
    refine W_str s_e ?_
    refine gm_str F.slot_str_join F.type_str_join ⟨keeps_builtin, ?_⟩
    refine WA_cons ?_
    refine W_cell ok (by (have hh := In.scope ‹In _ _ _›; exact kindE hh (by kernel_rfl))) c1 h1 ?_ (by decide +kernel)
    refine WA_nil ?_
    refine c_join (ls := ONCE) hjb (by simp) (by omega) (.val _) ?_
    rw [joinL_eq, jn_nil]
    refine o_nes (t_bool ?_)
    rw [if_neg (by simp)]
    ((try dsimp only); ((with_reducible refine WT_Compare (hm := ?hmz332) ?_); (case hmz332 => with_unfolding_all rfl)))
    ((try dsimp only); ((with_reducible refine W_local (d := ?dz333) (by assumption) ?hkz333 ?hlz333 ?qz333 ?hdz333); (case hkz333 => (have hh := In.scope ‹In _ _ _›; exact kindE hh (by kernel_rfl))); (case hlz333 => ((with_reducible exact lk_put_self))); (case hdz333 => decide +kernel); (try dsimp only)))
    refine W_Method (hbase := by intro _; rfl) (hfew := by intro _; rfl) (hline := by rfl) (hplain := by intro _; rfl) ok ?_
    refine W_str s_e ?_
    refine gm_str F.slot_str_join F.type_str_join ⟨keeps_builtin, ?_⟩
    refine WA_cons ?_
    refine W_Call (hplain := by intro _; rfl) (hlit := by intro _ _ _ _ x; cases x; rfl) ok ?_
    refine W_gl ok hK (by (have hh := In.scope ‹In _ _ _›; exact kindE hh (by kernel_rfl))) (g_counted _) (by decide +kernel) ?_
    refine ⟨_, rfl, keeps_fn hK (by kernel_rfl), ?_⟩
    refine WA_cons ?_
    refine W_cell ok (by (have hh := In.scope ‹In _ _ _›; exact kindE hh (by kernel_rfl))) c1 h1 ?_ (by decide +kernel)
    refine WA_cons ?_
    ((try dsimp only); ((with_reducible refine W_local (d := ?dz336) (by assumption) ?hkz336 ?hlz336 ?qz336 ?hdz336); (case hkz336 => (have hh := In.scope ‹In _ _ _›; exact kindE hh (by kernel_rfl))); (case hlz336 => ((with_reducible refine lkp_skip ?hne4z336 ?hrest4z336); (case hne4z336 => decide +kernel); (with_reducible refine lkp_skip ?hne3z336 ?hrest3z336); (case hne3z336 => decide +kernel); (with_reducible refine lkp_skip ?hne2z336 ?hrest2z336); (case hne2z336 => decide +kernel); (with_reducible exact lk_hit))); (case hdz336 => decide +kernel); (try dsimp only)))
    refine WA_nil ?_
    refine c_counted (n := n + 7) ok hK hc (by omega) (by omega) (by omega) ?_
    rw [hP11]
    refine WA_nil ?_
    refine c_join (ls := sg2 P1) hjb1 (by simp) (by omega) (.val _) ?_
    rw [joinL_eq, jn_nil]
    refine o_nes (t_bool ?_)
    rw [if_neg (by simp)]
    ((try dsimp only); ((with_reducible refine WXs_nil ?_); (try dsimp only)))
    ((try dsimp only); (with_reducible refine WXs_cons ?_))
    ((try dsimp only); (with_reducible refine WX_If ?_))
    ((try dsimp only); (with_reducible refine WT_Or2 ?_))
    ((try dsimp only); ((with_reducible refine WT_Compare (hm := ?hmz341) ?_); (case hmz341 => with_unfolding_all rfl)))
    refine W_Call (hplain := by intro _; rfl) (hlit := by intro _ _ _ _ x; cases x; rfl) ok ?_
    refine W_gl ok hK (by (have hh := In.scope ‹In _ _ _›; exact kindE hh (by kernel_rfl))) (g_meant _) (by decide +kernel) ?_
    refine ⟨_, rfl, keeps_fn hK (by kernel_rfl), ?_⟩
    refine WA_cons ?_
    ((try dsimp only); ((with_reducible refine W_local (d := ?dz343) (by assumption) ?hkz343 ?hlz343 ?qz343 ?hdz343); (case hkz343 => (have hh := In.scope ‹In _ _ _›; exact kindE hh (by kernel_rfl))); (case hlz343 => ((with_reducible exact lk_put_self))); (case hdz343 => decide +kernel); (try dsimp only)))
    refine WA_nil ?_
    refine c_meant (n := n + 4) (P := P1) ok hK hP hc hG1 (by omega) (by rw [hx1]; omega) ?_
    rw [hx1]
    ((try dsimp only); ((with_reducible refine W_local (d := ?dz344) (by assumption) ?hkz344 ?hlz344 ?qz344 ?hdz344); (case hkz344 => (have hh := In.scope ‹In _ _ _›; exact kindE hh (by kernel_rfl))); (case hlz344 => ((with_reducible refine lkp_skip ?hne2z344 ?hrest2z344); (case hne2z344 => decide +kernel); (with_reducible exact lk_put_self))); (case hdz344 => decide +kernel); (try dsimp only)))
    refine o_nes (t_bool ?_)
    rw [if_neg (by simp)]
    ((try dsimp only); ((with_reducible refine WT_Compare (hm := ?hmz345) ?_); (case hmz345 => with_unfolding_all rfl)))
    refine W_Call (hplain := by intro _; rfl) (hlit := by intro _ _ _ _ x; cases x; rfl) ok ?_
    refine W_gl ok hK (by (have hh := In.scope ‹In _ _ _›; exact kindE hh (by kernel_rfl))) (g_meant _) (by decide +kernel) ?_
    refine ⟨_, rfl, keeps_fn hK (by kernel_rfl), ?_⟩
    refine WA_cons ?_
    ((try dsimp only); ((with_reducible refine W_local (d := ?dz347) (by assumption) ?hkz347 ?hlz347 ?qz347 ?hdz347); (case hkz347 => (have hh := In.scope ‹In _ _ _›; exact kindE hh (by kernel_rfl))); (case hlz347 => ((with_reducible refine lkp_skip ?hne2z347 ?hrest2z347); (case hne2z347 => decide +kernel); (with_reducible exact lk_put_self))); (case hdz347 => decide +kernel); (try dsimp only)))
    refine WA_nil ?_
    rw [← hON]
    refine c_meant (n := n + 4) (P := P0) ok hK hP hc hG0 (by rw [hON]; omega) (by rw [hx0]; omega) ?_
    rw [hx0]
    ((try dsimp only); ((with_reducible refine W_local (d := ?dz348) (by assumption) ?hkz348 ?hlz348 ?qz348 ?hdz348); (case hkz348 => (have hh := In.scope ‹In _ _ _›; exact kindE hh (by kernel_rfl))); (case hlz348 => ((with_reducible refine lkp_skip ?hne3z348 ?hrest3z348); (case hne3z348 => decide +kernel); (with_reducible refine lkp_skip ?hne2z348 ?hrest2z348); (case hne2z348 => decide +kernel); (with_reducible exact lk_put_self))); (case hdz348 => decide +kernel); (try dsimp only)))
    refine o_nes (t_bool ?_)
    rw [if_neg (by simp)]
    rw [hON]
    ((try dsimp only); ((with_reducible refine WXs_nil ?_); (try dsimp only)))
    ((try dsimp only); (with_reducible refine WXs_cons ?_))
    ((try dsimp only); (with_reducible refine WX_Assign (hs := ?hsz351) (by assumption) ?hkz351 ?_); (case hsz351 => intro _; rfl); (case hkz351 => (have hh := In.scope ‹In _ _ _›; exact kindE hh (by kernel_rfl))))
    refine W_Call (hplain := by intro _; rfl) (hlit := by intro _ _ _ _ x; cases x; rfl) ok ?_
    refine W_gl ok hK (by (have hh := In.scope ‹In _ _ _›; exact kindE hh (by kernel_rfl))) (g_tok _) (by decide +kernel) ?_
    refine ⟨_, rfl, keeps_fn hK (by kernel_rfl), ?_⟩
    refine WA_cons ?_
    ((try dsimp only); ((with_reducible refine W_local (d := ?dz353) (by assumption) ?hkz353 ?hlz353 ?qz353 ?hdz353); (case hkz353 => (have hh := In.scope ‹In _ _ _›; exact kindE hh (by kernel_rfl))); (case hlz353 => ((with_reducible refine lkp_skip ?hne2z353 ?hrest2z353); (case hne2z353 => decide +kernel); (with_reducible exact lk_put_self))); (case hdz353 => decide +kernel); (try dsimp only)))
    refine WA_nil ?_
    refine c_new (n := n + 5) ok hK hP hc (by omega) fun a dx hp' u1 u2 u3 => ?_
    have hsg := sg_rs (l := ONCE.flatten) (i := 0) (Nat.zero_le _)
    rw [List.drop_zero, rs_good _ hO] at hsg
    cases hs0 : sg ONCE.flatten 0 with
    | none => rw [hs0] at hsg; cases congrArg Prod.snd hsg
    | some je =>
      obtain ⟨j0, e0⟩ := je
      rw [hs0] at hsg
      dsimp only at hsg u1 u2 u3 ⊢
      intro tk0
      have h1' := u3 _ _ h1
      have h2' := u3 _ _ h2
      have hO40 : ONCE.length ≤ 40 := by omega
      have hOF : ONCE.flatten.length ≤ 60 := by omega
      clear hOl
      clear u1 u2 u3 h1 h2 hP11 hP1 hP1l hx1 hG1 hQf hjb1 hP1l2 hP00 hP0 hP0l hx0 hON hG0 hOf hT hG hSm hSM
      ((try dsimp only); (with_reducible refine WXs_cons ?_))
      refine WX_ForC (hs := by intro _ _; rfl) ok hc hI.env (by (have hh := In.scope ‹In _ _ _›; exact kindE hh (by kernel_rfl))) c2 (KInv ONCE.flatten ONCE m L a dx) ?_
      refine wit_range1 ok (KB.of hK (by (have hh := In.scope ‹In _ _ _›; exact kindE hh (by kernel_rfl))) (b_range _) (by kernel_rfl)) (fun _ => rfl) ?_
      refine WA_cons ?_
      refine W_Call (hplain := by intro _; rfl) (hlit := by intro _ _ _ _ x; cases x; rfl) ok ?_
      refine W_bi (v := .builtin "len") ok hK (by (have hh := In.scope ‹In _ _ _›; exact kindE hh (by kernel_rfl))) (b_len _) (by kernel_rfl) (by decide +kernel) (by decide +kernel) ?_
      refine ⟨_, rfl, keeps_builtin, ?_⟩
      refine WA_cons ?_
      refine W_cell ok (by (have hh := In.scope ‹In _ _ _›; exact kindE hh (by kernel_rfl))) c1 h1' ?_ (by decide +kernel)
      refine WA_nil ?_
      refine c_lenL (.val _) (by rw [List.length_map]; omega) ?_
      rw [List.length_map]
      refine WA_nil ⟨ONCE.length, rfl, by omega, ⟨j0, e0, tk0, hsg.lit, h1', ⟨_, h2'⟩, by ((with_reducible exact lk_put_self)), by ((with_reducible refine lkp_skip ?hne5z360 ?hrest5z360); (case hne5z360 => decide +kernel); (with_reducible refine lkp_skip ?hne4z360 ?hrest4z360); (case hne4z360 => decide +kernel); (with_reducible refine lkp_skip ?hne3z360 ?hrest3z360); (case hne3z360 => decide +kernel); (with_reducible refine lkp_skip ?hne2z360 ?hrest2z360); (case hne2z360 => decide +kernel); (with_reducible exact lk_hit))⟩, fun i σ' hi inv => ?_, fun σ' inv => ?_⟩
      · obtain ⟨loc, hp⟩ := σ'
        obtain ⟨j, e, tk, hel, h1, ⟨v, h2⟩, et, em⟩ := inv
        dsimp only at tk h1 h2 et em
        refine ⟨⟨v, h2⟩, fun wr okw => ?_⟩
        refine W.hideQ fun Q2 hQ2 => ?_
        have tk2 : Tk (upd hp (L + 2) (.cell (some (.int i)))) a dx ONCE.flatten j e := by
          refine ⟨?_, ?_⟩
          · rw [upd_ne (fun z => by have := tk.inst; rw [z, h2] at this; cases this)]; exact tk.inst
          · rw [upd_ne (fun z => by have := tk.dict; rw [z, h2] at this; cases this)]; exact tk.dict
        have g1 : upd hp (L + 2) (.cell (some (.int i))) (L + 1) = some (.cell (some (.lst (ONCE.map .str)))) := by rw [upd_ne (fun z => Nat.succ_ne_self _ z.symm)]; exact h1
        have g2 : upd hp (L + 2) (.cell (some (.int i))) (L + 2) = some (.cell (some (.int i))) := upd_self
        dsimp only
        generalize upd hp (L + 2) (.cell (some (.int i))) = hp1 at tk2 g1 g2 ⊢
        clear tk h1 h2
        have hil : (ONCE.map V.str)[i]? = some (.str ONCE[i]) := by simp [hi]
        have hdr : ONCE.drop i = ONCE[i] :: ONCE.drop (i + 1) := List.drop_eq_getElem_cons hi
        have hpl : ONCE.flatten.drop (ONCE.take i).flatten.length = (ONCE.drop i).flatten := by
          have e : ONCE.flatten = (ONCE.take i).flatten ++ (ONCE.drop i).flatten := by rw [← List.flatten_append, List.take_append_drop]
          rw [e, List.drop_left]
        have hpl2 : (ONCE.take i).flatten.length + (ONCE.drop i).flatten.length = ONCE.flatten.length := by
          rw [← List.length_append, ← List.flatten_append, List.take_append_drop]
        have hz1000 : ∀ c ∈ ONCE[i], c < 1000 := hOs _ (List.getElem_mem hi)
        generalize hz : ONCE[i] = z at *
        ((try dsimp only); (with_reducible refine WXs_cons ?_))
        ((try dsimp only); (with_reducible refine WX_Assign (hs := ?hsz362) (by assumption) ?hkz362 ?_); (case hsz362 => intro _; rfl); (case hkz362 => (have hh := In.scope ‹In _ _ _›; exact kindE hh (by kernel_rfl))))
        refine W_Call (hplain := by intro _; rfl) (hlit := by intro _ _ _ _ x; cases x; rfl) okw ?_
        refine W_bi (v := .builtin "len") okw hK (by (have hh := In.scope ‹In _ _ _›; exact kindE hh (by kernel_rfl))) (b_len _) (by kernel_rfl) (by decide +kernel) (by decide +kernel) ?_
        refine ⟨_, rfl, keeps_builtin, ?_⟩
        refine WA_cons ?_
        refine W_Method (hbase := by intro _; rfl) (hfew := by intro _; rfl) (hline := by rfl) (hplain := by intro _; rfl) okw ?_
        refine W_str s_e ?_
        refine gm_str F.slot_str_join F.type_str_join ⟨keeps_builtin, ?_⟩
        refine WA_cons ?_
        refine W_SliceLst (ht := by intro _ _; rfl) ?_
        refine W_cell okw (by (have hh := In.scope ‹In _ _ _›; exact kindE hh (by kernel_rfl))) c1 g1 ?_ (by decide +kernel)
        refine WP_none ?_
        refine WP_some ?_
        refine W_cell okw (by (have hh := In.scope ‹In _ _ _›; exact kindE hh (by kernel_rfl))) c2 g2 ?_ (by decide +kernel)
        refine ⟨_, _, _, .val _, by rw [List.length_map]; omega, .none, .int _, ?_⟩
        rw [slc_to, ← List.map_take]
        refine WA_nil ?_
        refine c_join (ls := ONCE.take i) (fun l hl => hjb l (List.mem_of_mem_take hl)) (by simp) (by rw [List.length_take]; omega) (.val _) ?_
        rw [joinL_eq, jn_nil]
        refine WA_nil ?_
        refine c_lens (by omega) ?_
        generalize hpn : (ONCE.take i).flatten.length = pl at hpl hpl2 ⊢
        ((try dsimp only); (with_reducible refine WXs_cons ?_))
        refine WX_AssignComp (cl := [(("once" : Str), (L + 1 : Addr)), (("k" : Str), (L + 2 : Addr))]) okw hc (closL_ok hcl (by kernel_rfl)) (by decide) rfl (by decide +kernel) (by kernel_rfl) (swaps_comp hI.scope rfl (by kernel_rfl)) (by (have hh := In.scope ‹In _ _ _›; exact kindE hh (by kernel_rfl))) ?_ (fun _ _ => rfl)
        refine wit_val ?_
        refine W_cell okw (by (have hh := In.scope ‹In _ _ _›; exact kindE hh (by kernel_rfl))) c1 g1 ?_ (by decide +kernel)
        refine ⟨_, _, itb_lst, by rw [List.length_map]; omega, fun i' => ONCE.getD i' [] != z, fun i' => .str (ONCE.getD i' []), fun Z D i' hi' hD inc okZ => ?_, ?_⟩
        · rw [List.length_map] at hi'
          replace hD : hp1 D = none := hD
          have hdi : (ONCE.map V.str).getD i' .none = .str (ONCE.getD i' []) := by rw [List.getD_eq_getElem?_getD, List.getD_eq_getElem?_getD]; simp [hi']
          rw [hdi]
          have d1 : Z.env.cells.lookup ("once" : Str) = some (L + 1) := by rw [inc.cells]; kernel_rfl
          have d2 : Z.env.cells.lookup ("k" : Str) = some (L + 2) := by rw [inc.cells]; kernel_rfl
          refine CT_one ?_
          ((try dsimp only); ((with_reducible refine WT_Compare (hm := ?hmz369) ?_); (case hmz369 => with_unfolding_all rfl)))
          ((try dsimp only); ((with_reducible refine W_local (d := ?dz370) (by assumption) ?hkz370 ?hlz370 ?qz370 ?hdz370); (case hkz370 => (have hh := ‹InC _ _ _ _›; have hs := In.scope ‹In _ _ _›; exact InC.kind hh hs (by kernel_rfl))); (case hlz370 => ((with_reducible exact lk_hit))); (case hdz370 => decide +kernel); (try dsimp only)))
          ((try dsimp only); (with_reducible refine W_Sub ?_))
          refine W_cell okZ (by (have hh := ‹InC _ _ _ _›; have hs := In.scope ‹In _ _ _›; exact InC.kind hh hs (by kernel_rfl))) d1 (by show upd hp1 D _ (L + 1) = _; rw [upd_ne (fun q => by rw [← q, g1] at hD; cases hD)]; exact g1) ?_ (by decide +kernel)
          refine W_cell okZ (by (have hh := ‹InC _ _ _ _›; have hs := In.scope ‹In _ _ _›; exact InC.kind hh hs (by kernel_rfl))) d2 (by show upd hp1 D _ (L + 2) = _; rw [upd_ne (fun q => by rw [← q, g2] at hD; cases hD)]; exact g2) ?_ (by decide +kernel)
          refine s_lstItem (hs := by intro _ _ _; with_unfolding_all rfl) (d := .str z) (.val _) (by omega) hil ?_
          refine o_nes (t_bool ⟨rfl, rfl, fun _ => ?_⟩)
          ((try dsimp only); ((with_reducible refine W_local (d := ?dz374) (by assumption) ?hkz374 ?hlz374 ?qz374 ?hdz374); (case hkz374 => (have hh := ‹InC _ _ _ _›; have hs := In.scope ‹In _ _ _›; exact InC.kind hh hs (by kernel_rfl))); (case hlz374 => ((with_reducible exact lk_hit))); (case hdz374 => decide +kernel); (try dsimp only)))
          exact ⟨rfl, rfl⟩
        rw [List.length_map, acc_filter ONCE (fun y => y != z)]
        ((try dsimp only); (with_reducible refine WXs_cons ?_))
        refine WX_Expr (hs := by intro _; rfl) okw ?_
        refine W_Method (hbase := by intro _; rfl) (hfew := by intro _; rfl) (hline := by rfl) (hplain := by intro _; rfl) okw ?_
        ((try dsimp only); ((with_reducible refine W_local (d := ?dz376) (by assumption) ?hkz376 ?hlz376 ?qz376 ?hdz376); (case hkz376 => (have hh := In.scope ‹In _ _ _›; exact kindE hh (by kernel_rfl))); (case hlz376 => ((with_reducible refine lkp_skip ?hne3z376 ?hrest3z376); (case hne3z376 => decide +kernel); (with_reducible refine lkp_skip ?hne2z376 ?hrest2z376); (case hne2z376 => decide +kernel); (with_reducible assumption))); (case hdz376 => decide +kernel); (try dsimp only)))
        refine getm_inst okw tk2.inst tk2.dict (hK ▸ km_seek _) (by kernel_rfl) ⟨keeps_fn hK (by kernel_rfl), ?_⟩
        refine WA_cons ?_
        ((try dsimp only); ((with_reducible refine W_local (d := ?dz377) (by assumption) ?hkz377 ?hlz377 ?qz377 ?hdz377); (case hkz377 => (have hh := In.scope ‹In _ _ _›; exact kindE hh (by kernel_rfl))); (case hlz377 => ((with_reducible refine lkp_skip ?hne2z377 ?hrest2z377); (case hne2z377 => decide +kernel); (with_reducible exact lk_put_self))); (case hdz377 => decide +kernel); (try dsimp only)))
        refine WA_nil ?_
        refine c_seek (n := n + 5) okw hK hP hc tk2 (by omega) (by omega) ?_
        have hsg := sg_rs (l := ONCE.flatten) (i := pl) (by omega)
        rw [hpl, rs_good _ fun s hs => hO s (List.mem_of_mem_drop hs)] at hsg
        cases hs2 : sg ONCE.flatten pl with
        | none => rw [hs2] at hsg; cases congrArg Prod.snd hsg
        | some je =>
          obtain ⟨j1, e1⟩ := je
          rw [hs2] at hsg
          dsimp only at hsg ⊢
          have tk3 := tk2.upd j1 e1
          have g3 : ∀ D, upd hp1 dx (.dict D) (L + 1) = some (.cell (some (.lst (ONCE.map .str)))) := fun D => by rw [upd_ne (fun q => by have := tk2.dict; rw [← q, g1] at this; cases this)]; exact g1
          have g4 : ∀ D, upd hp1 dx (.dict D) (L + 2) = some (.cell (some (.int i))) := fun D => by rw [upd_ne (fun q => by have := tk2.dict; rw [← q, g2] at this; cases this)]; exact g2
          have g5 := g3 (tokFs ONCE.flatten j1 e1)
          have g6 := g4 (tokFs ONCE.flatten j1 e1)
          generalize upd hp1 dx (.dict (tokFs ONCE.flatten j1 e1)) = hp2 at tk3 g5 g6 ⊢
          clear g1 g2 g3 g4 tk2
          have hDl : (ONCE.drop i).flatten.length ≤ 1000 := by omega
          have hDs : Sm (ONCE.drop i) := fun s hs => hOs s (List.mem_of_mem_drop hs)
          ((try dsimp only); (with_reducible refine WXs_cons ?_))
          ((try dsimp only); (with_reducible refine WX_If ?_))
          refine WT_Or3 ?_
          ((try dsimp only); ((with_reducible refine WT_Compare (hm := ?hmz380) ?_); (case hmz380 => with_unfolding_all rfl)))
          refine W_Method (hbase := by intro _; rfl) (hfew := by intro _; rfl) (hline := by rfl) (hplain := by intro _; rfl) okw ?_
          ((try dsimp only); ((with_reducible refine W_local (d := ?dz381) (by assumption) ?hkz381 ?hlz381 ?qz381 ?hdz381); (case hkz381 => (have hh := In.scope ‹In _ _ _›; exact kindE hh (by kernel_rfl))); (case hlz381 => ((with_reducible refine lkp_skip ?hne3z381 ?hrest3z381); (case hne3z381 => decide +kernel); (with_reducible refine lkp_skip ?hne2z381 ?hrest2z381); (case hne2z381 => decide +kernel); (with_reducible assumption))); (case hdz381 => decide +kernel); (try dsimp only)))
          refine getm_inst okw tk3.inst tk3.dict (hK ▸ km_gwh _) (by kernel_rfl) ⟨keeps_fn hK (by kernel_rfl), ?_⟩
          refine WA_cons ?_
          ((try dsimp only); ((with_reducible refine W_local (d := ?dz382) (by assumption) ?hkz382 ?hlz382 ?qz382 ?hdz382); (case hkz382 => (have hh := In.scope ‹In _ _ _›; exact kindE hh (by kernel_rfl))); (case hlz382 => ((with_reducible refine lkp_skip ?hne3z382 ?hrest3z382); (case hne3z382 => decide +kernel); (with_reducible refine lkp_skip ?hne2z382 ?hrest2z382); (case hne2z382 => decide +kernel); (with_reducible assumption))); (case hdz382 => decide +kernel); (try dsimp only)))
          refine WA_cons ?_
          ((try dsimp only); ((with_reducible refine W_local (d := ?dz383) (by assumption) ?hkz383 ?hlz383 ?qz383 ?hdz383); (case hkz383 => (have hh := In.scope ‹In _ _ _›; exact kindE hh (by kernel_rfl))); (case hlz383 => ((with_reducible exact lk_put_self))); (case hdz383 => decide +kernel); (try dsimp only)))
          refine WA_nil ?_
          refine c_gwh (n := n + 5) (p := fun y => (ONCE.filter (fun y => y != z)).contains y) (C := fun d => d = .none ∨ ∃ z, d = .str z ∧ ∀ c ∈ z, c < 1000) okw hK hP hc tk3 (by omega) hsg (by omega) (by omega) (fun s hs => .inr ⟨s, rfl, hDs s (List.mem_of_mem_take hs)⟩) (fun _ => .inl rfl)
            (fun {Z σ' d' Q' E'} okZ hC hq => o_notinS (S := ONCE.filter (fun y => y != z)) okZ (fun s hs => hOs s (List.mem_filter.mp hs).1) hC hq) fun j2 d2 rd2 => ?_
          have hst : gw (fun y => (ONCE.filter (fun y => y != z)).contains y) m (ONCE.drop i) = ([], ONCE.drop i) := by
            rw [hdr]
            refine gw_stop _ _ _ _ ?_
            simp
          rw [hst] at rd2 ⊢
          dsimp only at rd2 ⊢
          have tk4 := tk3.upd j2 d2
          have q5 : upd hp2 dx (.dict (tokFs ONCE.flatten j2 d2)) (L + 1) = some (.cell (some (.lst (ONCE.map .str)))) := by rw [upd_ne (fun q => by have := tk3.dict; rw [← q, g5] at this; cases this)]; exact g5
          have q6 : upd hp2 dx (.dict (tokFs ONCE.flatten j2 d2)) (L + 2) = some (.cell (some (.int i))) := by rw [upd_ne (fun q => by have := tk3.dict; rw [← q, g6] at this; cases this)]; exact g6
          generalize upd hp2 dx (.dict (tokFs ONCE.flatten j2 d2)) = hp3 at tk4 q5 q6 ⊢
          clear g5 g6 tk3 hsg
          refine W_str s_e ?_
          refine o_nes (t_bool ?_)
          rw [if_neg (by simp)]
          ((try dsimp only); ((with_reducible refine WT_Compare (hm := ?hmz384) ?_); (case hmz384 => with_unfolding_all rfl)))
          refine W_Method (hbase := by intro _; rfl) (hfew := by intro _; rfl) (hline := by rfl) (hplain := by intro _; rfl) okw ?_
          ((try dsimp only); ((with_reducible refine W_local (d := ?dz385) (by assumption) ?hkz385 ?hlz385 ?qz385 ?hdz385); (case hkz385 => (have hh := In.scope ‹In _ _ _›; exact kindE hh (by kernel_rfl))); (case hlz385 => ((with_reducible refine lkp_skip ?hne3z385 ?hrest3z385); (case hne3z385 => decide +kernel); (with_reducible refine lkp_skip ?hne2z385 ?hrest2z385); (case hne2z385 => decide +kernel); (with_reducible assumption))); (case hdz385 => decide +kernel); (try dsimp only)))
          refine getm_inst okw tk4.inst tk4.dict (hK ▸ km_tell _) (by kernel_rfl) ⟨keeps_fn hK (by kernel_rfl), ?_⟩
          refine WA_nil ?_
          refine c_tell (n := n + 7) okw hK tk4 rd2.sgn ?_
          rw [rd2.pos, show ((ONCE.flatten.length : Int) - ((ONCE.drop i).flatten.length : Nat)) = (pl : Int) from by omega]
          ((try dsimp only); ((with_reducible refine W_local (d := ?dz386) (by assumption) ?hkz386 ?hlz386 ?qz386 ?hdz386); (case hkz386 => (have hh := In.scope ‹In _ _ _›; exact kindE hh (by kernel_rfl))); (case hlz386 => ((with_reducible refine lkp_skip ?hne2z386 ?hrest2z386); (case hne2z386 => decide +kernel); (with_reducible exact lk_put_self))); (case hdz386 => decide +kernel); (try dsimp only)))
          refine o_nei (t_bool ?_)
          rw [if_neg (by simp)]
          ((try dsimp only); ((with_reducible refine WT_Compare (hm := ?hmz387) ?_); (case hmz387 => with_unfolding_all rfl)))
          refine W_Method (hbase := by intro _; rfl) (hfew := by intro _; rfl) (hline := by rfl) (hplain := by intro _; rfl) okw ?_
          ((try dsimp only); ((with_reducible refine W_local (d := ?dz388) (by assumption) ?hkz388 ?hlz388 ?qz388 ?hdz388); (case hkz388 => (have hh := In.scope ‹In _ _ _›; exact kindE hh (by kernel_rfl))); (case hlz388 => ((with_reducible refine lkp_skip ?hne3z388 ?hrest3z388); (case hne3z388 => decide +kernel); (with_reducible refine lkp_skip ?hne2z388 ?hrest2z388); (case hne2z388 => decide +kernel); (with_reducible assumption))); (case hdz388 => decide +kernel); (try dsimp only)))
          refine getm_inst okw tk4.inst tk4.dict (hK ▸ km_gwh _) (by kernel_rfl) ⟨keeps_fn hK (by kernel_rfl), ?_⟩
          refine WA_cons ?_
          refine W_cell okw (by (have hh := In.scope ‹In _ _ _›; exact kindE hh (by kernel_rfl))) c2 q6 ?_ (by decide +kernel)
          refine WA_cons ?_
          refine W_cell okw (by (have hh := In.scope ‹In _ _ _›; exact kindE hh (by kernel_rfl))) c1 q5 ?_ (by decide +kernel)
          refine WA_nil ?_
          refine c_gwh (n := n + 5) (p := fun y => ONCE.contains y) (C := fun d => d = .none ∨ ∃ z, d = .str z ∧ ∀ c ∈ z, c < 1000) okw hK hP hc tk4 (by omega) rd2 (by omega) (by omega) (fun s hs => .inr ⟨s, rfl, hDs s (List.mem_of_mem_take hs)⟩) (fun _ => .inl rfl)
            (fun {Z σ' d' Q' E'} okZ hC hq => o_notinS (S := ONCE) okZ hOs hC hq) fun j3 d3 rd3 => ?_
          have hst : gw (fun y => ONCE.contains y) i (ONCE.drop i) = ((ONCE.drop i).take i, (ONCE.drop i).drop i) := gw_whole _ _ _ fun s hs => by
            have := List.mem_of_mem_drop hs
            simpa using this
          rw [hst] at rd3 ⊢
          dsimp only at rd3 ⊢
          have tk5 := tk4.upd j3 d3
          have q7 : upd hp3 dx (.dict (tokFs ONCE.flatten j3 d3)) (L + 1) = some (.cell (some (.lst (ONCE.map .str)))) := by rw [upd_ne (fun q => by have := tk4.dict; rw [← q, q5] at this; cases this)]; exact q5
          have q8 : upd hp3 dx (.dict (tokFs ONCE.flatten j3 d3)) (L + 2) = some (.cell (some (.int i))) := by rw [upd_ne (fun q => by have := tk4.dict; rw [← q, q6] at this; cases this)]; exact q6
          generalize upd hp3 dx (.dict (tokFs ONCE.flatten j3 d3)) = hp4 at tk5 q7 q8 ⊢
          clear q5 q6 tk4 rd2
          refine W_Method (hbase := by intro _; rfl) (hfew := by intro _; rfl) (hline := by rfl) (hplain := by intro _; rfl) okw ?_
          refine W_str s_e ?_
          refine gm_str F.slot_str_join F.type_str_join ⟨keeps_builtin, ?_⟩
          refine WA_cons ?_
          refine W_SliceLst (ht := by intro _ _; rfl) ?_
          refine W_cell okw (by (have hh := In.scope ‹In _ _ _›; exact kindE hh (by kernel_rfl))) c1 q7 ?_ (by decide +kernel)
          refine WP_some ?_
          refine W_cell okw (by (have hh := In.scope ‹In _ _ _›; exact kindE hh (by kernel_rfl))) c2 q8 ?_ (by decide +kernel)
          refine WP_some ?_
          ((try dsimp only); (with_reducible refine W_BinOp ?_))
          ((try dsimp only); ((with_reducible refine W_int ?_); (try dsimp only)))
          refine W_cell okw (by (have hh := In.scope ‹In _ _ _›; exact kindE hh (by kernel_rfl))) c2 q8 ?_ (by decide +kernel)
          refine o_muli (i := i) (by omega) ?_
          refine ⟨_, _, _, .val _, by rw [List.length_map]; omega, .int _, .int _, ?_⟩
          rw [slc_at, show 2 * i - i = i from by omega, ← List.map_drop, ← List.map_take]
          refine WA_nil ?_
          refine c_join (ls := (ONCE.drop i).take i) (fun l hl => hjb l (List.mem_of_mem_drop (List.mem_of_mem_take hl))) (by simp) (by rw [List.length_take]; omega) (.val _) ?_
          rw [joinL_eq, jn_nil]
          refine o_nes (t_bool ?_)
          rw [if_neg (by simp)]
          ((try dsimp only); ((with_reducible refine WXs_nil ?_); (try dsimp only)))
          ((try dsimp only); ((with_reducible refine WXs_nil ?_); (try dsimp only)))
          exact hQ2 _ _ ⟨j3, d3, tk5, rd3.lit, q7, ⟨_, q8⟩, by ((with_reducible refine lkp_skip ?hne3z398 ?hrest3z398); (case hne3z398 => decide +kernel); (with_reducible refine lkp_skip ?hne2z398 ?hrest2z398); (case hne2z398 => decide +kernel); (with_reducible assumption)), by ((with_reducible refine lkp_skip ?hne3z399 ?hrest3z399); (case hne3z399 => decide +kernel); (with_reducible refine lkp_skip ?hne2z399 ?hrest2z399); (case hne2z399 => decide +kernel); (with_reducible assumption))⟩
      · obtain ⟨loc, hp⟩ := σ'
        ((try dsimp only); ((with_reducible refine WXs_nil ?_); (try dsimp only)))
        ((try dsimp only); (with_reducible refine WXs_cons ?_))
        ((try dsimp only); (with_reducible refine WX_Return ?_))
        ((try dsimp only); ((with_reducible refine W_bool ?_); (try dsimp only)))
        exact hQ1 _ _ rfl
end Mine
namespace Mine
open PySem PySem.W PyProof.Rows
set_option pp.deepTerms false
set_option maxHeartbeats 8000000 in
theorem tt : PySem.Challenge.rw_ij0062_03.Holds := hd (by
  k_go0
  rename_i hL ra w1 r0 hI hr hcond hc2 K0 hD h₁ tk₁ F o2 o1 d2 d1 N0 X0
  refine wpAny_mono (launchC (k := 2) (K := hd.heap_39 ‹World›.params) (p := hd.view_39) (fd := fdAt (KK ‹World›.params) 163) (body := bodyAt (KK ‹World›.params) 163) (by assumption) (topRead_of (by assumption)) hL hI F (by rfl) rfl N0 (fun c h1 h2 => ?_)
    (fun X ok hK hP hw hc hI hcl => w_law (n := 32) ok hK hP hc hI (hcl.trans (by kernel_rfl)) (by omega))) (fun f s' q => ?_) (fun e s' q => q.elim)
  · rcases Nat.lt_or_eq_of_le h1 with h3 | h3
    · have h4 : c = _ + 1 + 1 := Nat.le_antisymm h2 h3
      exact ⟨o2, by rw [h4]; exact .head _, d2.trans rfl⟩
    · exact ⟨o1, by rw [← h3]; exact .tail _ (.head _), d1.trans rfl⟩
  obtain ⟨rfl, h', tk', rfl, hs⟩ := q
  exact ⟨.inl ⟨.bool true, .bool true, [], rfl, fun cls => rfl, .bool true, by wrow_post, fun _ => ⟨List.nodup_nil, fun a ha => by cases ha⟩⟩, hs, rfl, by assumption⟩)
end Mine

theorem PySem.Challenge.cw_ij0062_03_holds : PySem.Challenge.rw_ij0062_03.Holds := by
  exact Mine.tt
