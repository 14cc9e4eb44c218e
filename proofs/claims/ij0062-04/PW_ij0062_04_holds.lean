import PyProof.Rows.All
import Wide.All
import OpenK.AllK
import Wide.FinOn
import Lean
import PySem.Challenge.RW_ij0062_04
set_option Elab.async false
set_option maxRecDepth 100000
set_option linter.unusedVariables false
set_option linter.unusedSimpArgs false
namespace Mine
open PySem PySem.W PySem.Calls PySem.Spec PyProof.Rows
inductive V where
  | none
  | bool (b : Bool)
  | int (i : Int)
  | str (l : List Nat)
  | tup (vs : List V)
  | lst (vs : List V)
  | ref (a : Addr)
  | lit (v : Value)
inductive HO where
  | lst (vs : List V)
  | inst (C dx : Addr)
  | dict (fs : List (Str × V))
  | exc (C : Addr) (dx : Option Addr)
  | cell (d : Option V)
  | pair
mutual
inductive VM (mu : Addr → Prop) (h : Heap) : Value → V → Prop
  | none : VM mu h Value.none V.none
  | bool (b : Bool) : VM mu h (Value.bool b) (V.bool b)
  | int (i : Int) (t : Tok) : VM mu h (Value.int i t) (V.int i)
  | str (x : Str) (t : Tok) : VM mu h (Value.str x t) (V.str x.cps.toList)
  | tup {a : Addr} {o : Obj} {vs : List Value} {n : Nat} {ds : List V} : h.get? a = some o → o.cls = .type "tuple" → o.data = .seq vs.toArray n → ¬ mu a → VMs mu h vs ds → VM mu h (Value.ref a) (V.tup ds)
  | lst {a : Addr} {o : Obj} {vs : List Value} {n : Nat} {ds : List V} : h.get? a = some o → o.cls = .type "list" → o.data = .seq vs.toArray n → ¬ mu a → VMs mu h vs ds → VM mu h (Value.ref a) (V.lst ds)
  | ref (a : Addr) : VM mu h (Value.ref a) (V.ref a)
  | lit (v : Value) : VM mu h v (V.lit v)
inductive VMs (mu : Addr → Prop) (h : Heap) : List Value → List V → Prop
  | nil : VMs mu h [] []
  | cons {v : Value} {vs : List Value} {d : V} {ds : List V} : VM mu h v d → VMs mu h vs ds → VMs mu h (v :: vs) (d :: ds)
end
noncomputable def isSeq : Data → Prop
  | .seq _ _ => True
  | _ => False
structure Ext (L : Addr) (prot : List Addr) (mu : Addr → Prop) (h : Heap) (mu' : Addr → Prop) (h' : Heap) : Prop where
  seq : ∀ a o, h.get? a = some o → ¬ mu a → isSeq o.data → h'.get? a = some o ∧ ¬ mu' a
  obj : ∀ a o, h.get? a = some o → ¬ mu a → a ≠ L → (∀ vs, o.data ≠ .fields vs) → ¬ mu' a ∧ ∃ sl, h'.get? a = some { o with slots := sl }
  watch : ∀ a ∈ prot, ∀ o, h.get? a = some o → h'.get? a = some o ∧ ¬ mu' a
noncomputable def SeqX (mu : Addr → Prop) (h : Heap) (mu' : Addr → Prop) (h' : Heap) : Prop := ∀ a o, h.get? a = some o → ¬ mu a → isSeq o.data → h'.get? a = some o ∧ ¬ mu' a
theorem VM.monoS {mu mu' : Addr → Prop} {h h' : Heap} (x : SeqX mu h mu' h') {v : Value} {d : V} (y : VM mu h v d) : VM mu' h' v d :=
  VM.rec (motive_1 := fun v d _ => VM mu' h' v d) (motive_2 := fun vs ds _ => VMs mu' h' vs ds) .none .bool .int .str (fun ho hc hd hn _ r => .tup (x _ _ ho hn (by rw [hd]; trivial)).1 hc hd (x _ _ ho hn (by rw [hd]; trivial)).2 r)
    (fun ho hc hd hn _ r => .lst (x _ _ ho hn (by rw [hd]; trivial)).1 hc hd (x _ _ ho hn (by rw [hd]; trivial)).2 r) .ref .lit .nil (fun _ _ a r => .cons a r) y
theorem VMs.monoS {mu mu' : Addr → Prop} {h h' : Heap} (x : SeqX mu h mu' h') {vs : List Value} {ds : List V} (y : VMs mu h vs ds) : VMs mu' h' vs ds := by
  induction vs generalizing ds with
  | nil => cases y; exact .nil
  | cons v vs ih => cases y with | cons a r => exact .cons (a.monoS x) (ih r)
theorem VM.mono {L : Addr} {prot : List Addr} {mu mu' : Addr → Prop} {h h' : Heap} (x : Ext L prot mu h mu' h') {v : Value} {d : V} (y : VM mu h v d) : VM mu' h' v d := y.monoS x.seq
theorem VMs.mono {L : Addr} {prot : List Addr} {mu mu' : Addr → Prop} {h h' : Heap} (x : Ext L prot mu h mu' h') {vs : List Value} {ds : List V} (y : VMs mu h vs ds) : VMs mu' h' vs ds := y.monoS x.seq
theorem VMs.length {mu : Addr → Prop} {h : Heap} {vs : List Value} {ds : List V} (x : VMs mu h vs ds) : vs.length = ds.length := by
  induction vs generalizing ds with
  | nil => cases x; rfl
  | cons v vs ih => cases x with | cons a r => simp [ih r]
theorem VMs.append {mu : Addr → Prop} {h : Heap} {vs ws : List Value} {ds es : List V} (x : VMs mu h vs ds) (y : VMs mu h ws es) : VMs mu h (vs ++ ws) (ds ++ es) := by
  induction vs generalizing ds with
  | nil => cases x; exact y
  | cons v vs ih => cases x with | cons a r => exact .cons a (ih r)
theorem VMs.get {mu : Addr → Prop} {h : Heap} {vs : List Value} {ds : List V} (x : VMs mu h vs ds) {k : Nat} {d : V} (e : ds[k]? = some d) : ∃ v, vs[k]? = some v ∧ VM mu h v d := by
  induction vs generalizing ds k with
  | nil => cases x; simp at e
  | cons v vs ih =>
    cases x with
    | cons a r =>
      cases k with
      | zero => simp at e; subst e; exact ⟨v, rfl, a⟩
      | succ k => simp at e; simpa using ih r e
theorem VMs.get' {mu : Addr → Prop} {h : Heap} {vs : List Value} {ds : List V} (x : VMs mu h vs ds) {k : Nat} {v : Value} (e : vs[k]? = some v) : ∃ d, ds[k]? = some d ∧ VM mu h v d := by
  induction vs generalizing ds k with
  | nil => cases x; simp at e
  | cons w vs ih =>
    cases x with
    | cons a r =>
      cases k with
      | zero => simp at e; subst e; exact ⟨_, rfl, a⟩
      | succ k => simp at e; simpa using ih r e
theorem Ext.refl (L : Addr) (prot : List Addr) (mu : Addr → Prop) (h : Heap) (hp : ∀ a ∈ prot, ¬ mu a) : Ext L prot mu h mu h :=
  ⟨fun _ _ e n _ => ⟨e, n⟩, fun _ o e n _ _ => ⟨n, o.slots, e⟩, fun a ha _ e => ⟨e, hp a ha⟩⟩
theorem Ext.trans {L : Addr} {prot : List Addr} {m₁ m₂ m₃ : Addr → Prop} {h₁ h₂ h₃ : Heap} (x : Ext L prot m₁ h₁ m₂ h₂) (y : Ext L prot m₂ h₂ m₃ h₃) : Ext L prot m₁ h₁ m₃ h₃ := by
  refine ⟨fun a o e n q => ?_, fun a o e n l q => ?_, fun a ha o e => ?_⟩
  · have z := x.seq a o e n q
    exact y.seq a o z.1 z.2 q
  · obtain ⟨n', sl, e'⟩ := x.obj a o e n l q
    obtain ⟨n'', sl', e''⟩ := y.obj a _ e' n' l q
    exact ⟨n'', sl', e''⟩
  · have z := x.watch a ha o e
    exact y.watch a ha o z.1
theorem Ext.keeps {L : Addr} {prot : List Addr} {mu : Addr → Prop} {h h' : Heap} (hp : ∀ a ∈ prot, ¬ mu a) (k : ∀ b o, h.get? b = some o → h'.get? b = some o) : Ext L prot mu h mu h' :=
  ⟨fun a o e n _ => ⟨k a o e, n⟩, fun a o e n _ _ => ⟨n, o.slots, k a o e⟩, fun a ha o e => ⟨k a o e, hp a ha⟩⟩
inductive Ents (mu : Addr → Prop) (h : Heap) : List DictEntry → List (Str × V) → Prop
  | nil : Ents mu h [] []
  | cons {e : DictEntry} {es : List DictEntry} {x : Str} {t : Tok} {d : V} {fs : List (Str × V)} : e.key = .str x t → VM mu h e.val d → Ents mu h es fs → Ents mu h (e :: es) ((x, d) :: fs)
theorem Ents.mono {L : Addr} {prot : List Addr} {mu mu' : Addr → Prop} {h h' : Heap} (x : Ext L prot mu h mu' h') {es : List DictEntry} {fs : List (Str × V)} (y : Ents mu h es fs) : Ents mu' h' es fs := by
  induction y with
  | nil => exact .nil
  | cons a b _ ih => exact .cons a (b.mono x) ih
noncomputable def lk (fs : List (Str × V)) (x : Str) : Option V := fs.lookup x
noncomputable def OM (mu : Addr → Prop) (h : Heap) (a : Addr) : HO → Prop
  | .lst ds => ∃ vs n, h.get? a = some (listOf vs.toArray n) ∧ VMs mu h vs ds
  | .inst C dx => h.get? a = some (instObj C dx)
  | .dict fs => ∃ es n, h.get? a = some (dictOf es n) ∧ Ents mu h es fs ∧ es.length ≤ 100
  | .exc C dx => ∃ vs a0, h.get? a = some { cls := .ref C, dict := dx, data := .fields vs } ∧ vs[0]? = some a0 ∧ vs[1]? = some .none ∧ vs.size = 6
  | .cell d => ∃ o v, h.get? a = some o ∧ o.data = .cell v ∧ (match d with | some d => ∃ w, v = some w ∧ VM mu h w d | none => v = none)
  | .pair => ∃ x y : Value, h.get? a = some { cls := .type "tuple", data := .seq #[x, y] }
theorem OM.mono {L : Addr} {prot : List Addr} {mu mu' : Addr → Prop} {h h' : Heap} {a : Addr} {o : HO} (x : Ext L prot mu h mu' h') (e : h'.get? a = h.get? a) (y : OM mu h a o) : OM mu' h' a o := by
  cases o with
  | lst ds => obtain ⟨vs, n, q, r⟩ := y; exact ⟨vs, n, e.trans q, r.mono x⟩
  | inst C dx => exact e.trans y
  | dict fs => obtain ⟨es, n, q, r, z⟩ := y; exact ⟨es, n, e.trans q, r.mono x, z⟩
  | exc C dx => obtain ⟨vs, a0, q, r⟩ := y; exact ⟨vs, a0, e.trans q, r⟩
  | cell d =>
    obtain ⟨o, v, q, r, z⟩ := y
    refine ⟨o, v, e.trans q, r, ?_⟩
    cases d with
    | none => exact z
    | some d => obtain ⟨w, a, b⟩ := z; exact ⟨w, a, b.mono x⟩
  | pair => obtain ⟨u, v, q⟩ := y; exact ⟨u, v, e.trans q⟩
theorem OM.there {mu : Addr → Prop} {h : Heap} {a : Addr} {o : HO} (y : OM mu h a o) : ∃ ob, h.get? a = some ob := by
  cases o with
  | lst ds => obtain ⟨vs, n, q, r⟩ := y; exact ⟨_, q⟩
  | inst C dx => exact ⟨_, y⟩
  | dict fs => obtain ⟨es, n, q, r, z⟩ := y; exact ⟨_, q⟩
  | exc C dx => obtain ⟨vs, a0, q, r⟩ := y; exact ⟨_, q⟩
  | cell d => obtain ⟨o, v, q, r, z⟩ := y; exact ⟨_, q⟩
  | pair => obtain ⟨u, v, q⟩ := y; exact ⟨_, q⟩
structure S where
  loc : List (Str × V)
  hp : Addr → Option HO
noncomputable def S.mu (σ : S) : Addr → Prop := fun a => σ.hp a ≠ none
structure Cx where
  prog : Program
  w : World
  K : Frag
  p : Program
  loose : List Str
  mg : Str → Option Value
  mb : Str → Option Value
  base : Heap
  A : Around
  env : Env
  fenv : Env
  L : Addr
  outer : List Env
  prot : List Addr
  ctx : Option (Addr × Bool) := none
structure Ok (X : Cx) (n : Nat) : Prop where
  inK : X.K.In X.base
  top : TopRead X.p X.loose X.mg X.mb X.base
  frames : X.A.frames = some (X.fenv :: X.outer)
  frame : X.fenv.frame = some X.L
  eframe : X.env.frame = some X.L
  kind : X.env.scope.kind = .function
  genv : X.env.globals = mainGlobals
  benv : X.env.builtins = builtinsNs
  above : X.base.objs.size ≤ X.env.locals
  locProt : X.env.locals ∉ X.prot
  handled : X.A.handled = X.ctx.map fun p => .ref p.1
  ctxIn : ∀ p, X.ctx = some p → p.1 ∈ X.prot
  depth : X.A.depth + 2 * n + 8 < recursionLimit
  units : X.A.units + 20 * n + 300 < cLine
inductive FrIs (base : Heap) (mu : Addr → Prop) (h : Heap) (e : Env) : Prop
  | mk (k0 : e.scope.kind ≠ .module) (L : Addr) (o : Obj) (es : Array DictEntry) (ep : Nat) (k1 : e.frame = some L) (k2 : base.get? L = none) (k3 : ¬ mu L) (k4 : h.get? L = some o) (k5 : o.data = .dict es ep)
theorem funs_of {base : Heap} {mu : Addr → Prop} {h : Heap} : ∀ {l : List Env}, (∀ e ∈ l, FrIs base mu h e) → h.FunFrames base l
  | [], _ => trivial
  | _ :: _, k =>
    let ⟨a, L, o, es, ep, hf, hn, _, ho, hd⟩ := k _ (.head _)
    ⟨a, ⟨L, o, hf, hn, ho, fun _ e => by rw [hd] at e; cases e⟩, funs_of fun e he => k e (.tail _ he)⟩
structure St (X : Cx) (σ : S) (h : Heap) : Prop where
  base : X.base.StaysIn h
  names : ∃ m, h.Ns X.env.locals m ∧ ∀ x d, lk σ.loc x = some d → ∃ v, m x = some v ∧ VM σ.mu h v d
  own : ∀ a o, σ.hp a = some o → OM σ.mu h a o ∧ X.base.get? a = none
  locOff : ¬ σ.mu X.env.locals
  prot : ∀ a ∈ X.prot, ¬ σ.mu a ∧ ∃ o vs, h.get? a = some o ∧ o.data = .fields vs ∧ (X.ctx = some (a, true) → vs[2]? = some .none)
  frs : ∀ e ∈ X.fenv :: X.outer, FrIs X.base σ.mu h e
theorem St.protOff {X : Cx} {σ : S} {h : Heap} (st : St X σ h) : ∀ a ∈ X.prot, ¬ σ.mu a := fun a ha => (st.prot a ha).1
noncomputable def Ctx0 (cls : Value) (vs : Array Value) : Prop := (∃ T, cls = .type T) → vs[2]? = some .none
inductive ExcAt (X : Cx) (mu : Addr → Prop) (h : Heap) (e : Addr) (cls : Value) : Prop
  | mk (k0 : X.base.get? e = none ∧ ¬ mu e) (k1 : e ∉ X.prot) (oe : Obj) (vs : Array Value) (a0 : Value) (k2 : h.get? e = some oe) (k3 : oe.cls = cls) (k4 : oe.data = .fields vs) (k5 : vs[0]? = some a0 ∧ Ctx0 cls vs)
    (k6 : vs[1]? = some .none ∨ ∃ T oT ts, vs[1]? = some (.ref T) ∧ (X.base.get? T = none ∧ ¬ mu T) ∧ T ∉ X.prot ∧ T ≠ e ∧ h.get? T = some oT ∧ oT.data = .fields ts ∧ (ts[3]? = some .none ∨ ts[3]? = some (rawInt X.L)))
structure Post (X : Cx) (σ : S) (s : Shared) (σ' : S) (s' : Shared) : Prop where
  upd : ∃ h' tk', s' = { s with heap := h', toks := tk' }
  ext : Ext X.env.locals X.prot σ.mu s.heap σ'.mu s'.heap
  st : St X σ' s'.heap
theorem Post.refl {X : Cx} {σ : S} {s : Shared} (st : St X σ s.heap) : Post X σ s σ s := ⟨⟨s.heap, s.toks, rfl⟩, Ext.refl _ _ _ _ st.protOff, st⟩
theorem Post.trans {X : Cx} {σ₁ σ₂ σ₃ : S} {s₁ s₂ s₃ : Shared} (a : Post X σ₁ s₁ σ₂ s₂) (b : Post X σ₂ s₂ σ₃ s₃) : Post X σ₁ s₁ σ₃ s₃ := by
  obtain ⟨h₂, t₂, e₂⟩ := a.upd
  obtain ⟨h₃, t₃, e₃⟩ := b.upd
  exact ⟨⟨h₃, t₃, by rw [e₃, e₂]⟩, a.ext.trans b.ext, b.st⟩
section
variable {α β : Type}
inductive Qw (X : Cx) (σ : S) (s : Shared) (R : (Addr → Prop) → Heap → α → β → Prop) (Q : β → S → Prop) (a : α) (s' : Shared) : Prop
  | mk (b : β) (σ' : S) (P : Post X σ s σ' s') (r : R σ'.mu s'.heap a b) (q : Q b σ')
inductive Ew (X : Cx) (σ : S) (s : Shared) (E : Value → S → Prop) (e : Value) (s' : Shared) : Prop
  | mk (ea : Addr) (cls : Value) (σ' : S) (P : Post X σ s σ' s') (he : e = .ref ea) (x : ExcAt X σ'.mu s'.heap ea cls) (q : E cls σ')
noncomputable def W (X : Cx) (t : Sem α) (R : (Addr → Prop) → Heap → α → β → Prop) (σ : S) (Q : β → S → Prop) (E : Value → S → Prop) : Prop :=
  ∀ s, St X σ s.heap → wpAny (model X.prog X.w) X.A t (Qw X σ s R Q) (Ew X σ s E) s
theorem Ew.after {X : Cx} {σ σ₁ : S} {s s₁ s' : Shared} {E : Value → S → Prop} {e : Value} (P : Post X σ s σ₁ s₁) (h : Ew X σ₁ s₁ E e s') : Ew X σ s E e s' := by
  obtain ⟨ea, cls, σ', q, r1, r2, r3⟩ := h
  exact ⟨ea, cls, σ', P.trans q, r1, r2, r3⟩
theorem Qw.after {X : Cx} {σ σ₁ : S} {s s₁ s' : Shared} {R : (Addr → Prop) → Heap → α → β → Prop} {Q : β → S → Prop} {a : α} (P : Post X σ s σ₁ s₁) (h : Qw X σ₁ s₁ R Q a s') : Qw X σ s R Q a s' := by
  obtain ⟨b, σ', q, r1, r2⟩ := h
  exact ⟨b, σ', P.trans q, r1, r2⟩
theorem W.run {X : Cx} {t : Sem α} {R : (Addr → Prop) → Heap → α → β → Prop} {σ : S} {Q : β → S → Prop} {E : Value → S → Prop} (h : W X t R σ Q E) {σ₀ : S} {s₀ s : Shared} (P : Post X σ₀ s₀ σ s)
    {Q' : α → Shared → Prop} (hq : ∀ a s' b σ', Post X σ s σ' s' → Post X σ₀ s₀ σ' s' → R σ'.mu s'.heap a b → Q b σ' → Q' a s') : wpAny (model X.prog X.w) X.A t Q' (Ew X σ₀ s₀ E) s := by
  refine wpAny_mono (h s P.st) (fun a s' q => ?_) fun e s' q => q.after P
  obtain ⟨b, σ', p, r, q⟩ := q
  exact hq a s' b σ' p (P.trans p) r q
theorem W.hide {X : Cx} {t : Sem α} {R : (Addr → Prop) → Heap → α → β → Prop} {σ : S} {Q : β → S → Prop} {E : Value → S → Prop} (h : ∀ Q' E', (∀ b σ', Q b σ' → Q' b σ') → (∀ c σ', E c σ' → E' c σ') → W X t R σ Q' E') : W X t R σ Q E := h Q E (fun _ _ q => q) fun _ _ q => q
theorem W.hideQ {X : Cx} {t : Sem α} {R : (Addr → Prop) → Heap → α → β → Prop} {σ : S} {Q : β → S → Prop} {E : Value → S → Prop} (h : ∀ Q', (∀ b σ', Q b σ' → Q' b σ') → W X t R σ Q' E) : W X t R σ Q E := h Q fun _ _ q => q
theorem W.mono {X : Cx} {t : Sem α} {R : (Addr → Prop) → Heap → α → β → Prop} {σ : S} {Q Q' : β → S → Prop} {E E' : Value → S → Prop} (h : W X t R σ Q E) (hq : ∀ b σ', Q b σ' → Q' b σ') (he : ∀ c σ', E c σ' → E' c σ') : W X t R σ Q' E' := by
  intro s st
  refine wpAny_mono (h s st) (fun a s' q => ?_) fun e s' q => ?_
  · obtain ⟨b, σ', p, r, q⟩ := q
    exact ⟨b, σ', p, r, hq _ _ q⟩
  · obtain ⟨ea, cls, σ', p, r, z, q⟩ := q
    exact ⟨ea, cls, σ', p, r, z, he _ _ q⟩
end
noncomputable abbrev RU : (Addr → Prop) → Heap → Unit → Unit → Prop := fun _ _ _ _ => True
noncomputable abbrev RB : (Addr → Prop) → Heap → Bool → Bool → Prop := fun _ _ a b => a = b
inductive FV where
  | next | brk | cont | ret (d : V)
noncomputable def FM (mu : Addr → Prop) (h : Heap) : Flow → FV → Prop
  | .next, .next => True
  | .brk, .brk => True
  | .cont, .cont => True
  | .ret v, .ret d => VM mu h v d
  | _, _ => False
theorem Post.keeps {X : Cx} {σ : S} {s s' : Shared} (st : St X σ s.heap) (h' : Heap) (tk' : Nat) (e : s' = { s with heap := h', toks := tk' }) (k : ∀ b o, s.heap.get? b = some o → h'.get? b = some o) : Post X σ s σ s' := by
  subst e
  have x : Ext X.env.locals X.prot σ.mu s.heap σ.mu h' := Ext.keeps st.protOff k
  refine ⟨⟨h', tk', rfl⟩, x, ⟨fun b o q => k b o (st.base b o q), ?_, ?_, st.locOff, fun a ha => ?_, fun e he => ?_⟩⟩
  · obtain ⟨m, hn, hm⟩ := st.names
    exact ⟨m, hn.keeps k, fun y d q => let ⟨v, a, b⟩ := hm y d q; ⟨v, a, b.mono x⟩⟩
  · intro a o q
    obtain ⟨y, z⟩ := st.own a o q
    obtain ⟨ob, g⟩ := y.there
    exact ⟨y.mono x ((k a ob g).trans g.symm), z⟩
  · obtain ⟨z, o, vs, g, d⟩ := st.prot a ha
    exact ⟨z, o, vs, k a o g, d⟩
  · obtain ⟨z, L, o, es, ep, hf, hn, hm, g, d⟩ := st.frs e he
    exact ⟨z, L, o, es, ep, hf, hn, hm, k L o g, d⟩
theorem St.fr {X : Cx} {n : Nat} (ok : Ok X n) {σ : S} {h : Heap} (st : St X σ h) : ∃ m, Fr X.base X.env.locals h m ∧ ∀ x d, lk σ.loc x = some d → ∃ v, m x = some v ∧ VM σ.mu h v d := by
  obtain ⟨m, hn, hm⟩ := st.names
  exact ⟨m, ⟨hn, st.base, ok.above⟩, hm⟩
theorem St.inK {X : Cx} {n : Nat} (ok : Ok X n) {σ : S} {h : Heap} (st : St X σ h) : X.K.In h := ok.inK.keeps st.base
end Mine
namespace Mine
open PySem PySem.W PySem.Calls PySem.Spec PyProof.Rows
section
variable {X : Cx} {n : Nat} {σ : S} {E : Value → S → Prop}
noncomputable abbrev WE (X : Cx) (e : Expr) (σ : S) (Q : V → S → Prop) (E : Value → S → Prop) : Prop := W X (eval e X.env) VM σ Q E
noncomputable abbrev WX (X : Cx) (st : Stmt) (σ : S) (Q : FV → S → Prop) (E : Value → S → Prop) : Prop := W X (exec st X.env) FM σ Q E
noncomputable abbrev WXs (X : Cx) (st : List Stmt) (σ : S) (Q : FV → S → Prop) (E : Value → S → Prop) : Prop := W X (execs st X.env) FM σ Q E
noncomputable abbrev WT (X : Cx) (e : Expr) (σ : S) (Q : Bool → S → Prop) (E : Value → S → Prop) : Prop := W X (isTrue e X.env (eval e X.env)) RB σ Q E
theorem qw_same {α β : Type} {R : (Addr → Prop) → Heap → α → β → Prop} {s : Shared} {a : α} {b : β} {Q : β → S → Prop} (st : St X σ s.heap) (tk : Nat) (r : R σ.mu s.heap a b) (q : Q b σ) : Qw X σ s R Q a { s with toks := tk } :=
  ⟨b, σ, ⟨⟨s.heap, tk, rfl⟩, Ext.refl _ _ _ _ st.protOff, st⟩, r, q⟩
theorem qw_self {α β : Type} {R : (Addr → Prop) → Heap → α → β → Prop} {s : Shared} {a : α} {b : β} {Q : β → S → Prop} (st : St X σ s.heap) (r : R σ.mu s.heap a b) (q : Q b σ) : Qw X σ s R Q a s :=
  ⟨b, σ, Post.refl st, r, q⟩
theorem W_int {i : Int} {k : Nat} {pos : Pos} {Q : V → S → Prop} (q : Q (.int i) σ) : WE X (.Constant (.int i) k pos) σ Q E := fun _ st =>
  wpAny_Constant_int (qw_same st _ (.int i _) q)
theorem W_str {x : Str} {l : List Nat} {k : Nat} {pos : Pos} {Q : V → S → Prop} (e : x.cps.toList = l) (q : Q (.str l) σ) : WE X (.Constant (.str x) k pos) σ Q E := fun _ st =>
  wpAny_Constant_str (qw_same st _ (.str x _) (e ▸ q))
theorem W_none {k : Nat} {pos : Pos} {Q : V → S → Prop} (q : Q .none σ) : WE X (.Constant .none k pos) σ Q E := fun _ st => wpAny_Constant_none (qw_self st .none q)
theorem W_bool {b : Bool} {k : Nat} {pos : Pos} {Q : V → S → Prop} (q : Q (.bool b) σ) : WE X (.Constant (.bool b) k pos) σ Q E := fun _ st => wpAny_Constant_bool (qw_self st (.bool b) q)
theorem W_local {x : Str} {pos : Pos} {d : V} {Q : V → S → Prop} (ok : Ok X n) (hx : X.env.kindOf x = some .local) (e : lk σ.loc x = some d) (q : Q d σ) (hd : (x == ("__debug__" : Str)) = false) :
    WE X (.Name x pos) σ Q E := fun _ st => by
  obtain ⟨m, hn, hm⟩ := st.names
  obtain ⟨v, hv, vm⟩ := hm x d e
  exact wpAny_Name (wpAny_loadName_local ok.kind hx hn hv (qw_self st vm q)) hd
theorem W_global {x : Str} {pos : Pos} {v : Value} {Q : V → S → Prop} (ok : Ok X n) (hx : X.env.kindOf x = some .globalImplicit) (e : nsIn X.K mainGlobals x = some (some v)) (q : Q (.lit v) σ) (hd : (x == ("__debug__" : Str)) = false) :
    WE X (.Name x pos) σ Q E := fun _ st =>
  Name_function_global ok.kind hx (loadGlobal_global (ok.genv ▸ ok.top.g.keeps st.base) (mg_of ok.inK ok.top.g e) (qw_self st (.lit v) q)) hd
theorem W_builtin {x : Str} {pos : Pos} {v : Value} {Q : V → S → Prop} (ok : Ok X n) (hx : X.env.kindOf x = some .globalImplicit) (e : nsIn X.K mainGlobals x = some none) (hv : bootBuiltins x = some v) (hn : x ≠ "__name__") (q : Q (.lit v) σ) (hd : (x == ("__debug__" : Str)) = false) :
    WE X (.Name x pos) σ Q E := fun _ st =>
  Name_function_global ok.kind hx (loadGlobal_builtin (ok.genv ▸ ok.top.g.keeps st.base) (mg_none_of ok.inK ok.top.g e) (ok.benv ▸ ok.top.b.keeps st.base) ((ok.top.builtins x hn).trans hv) (qw_self st (.lit v) q)) hd
noncomputable def Op2 (X : Cx) (t : Value → Value → Sem Value) (a b : V) (σ : S) (Q : V → S → Prop) (E : Value → S → Prop) : Prop :=
  ∀ v w s, St X σ s.heap → VM σ.mu s.heap v a → VM σ.mu s.heap w b → wpAny (model X.prog X.w) X.A (t v w) (Qw X σ s VM Q) (Ew X σ s E) s
noncomputable def Tr (X : Cx) (a : V) (σ : S) (Q : Bool → S → Prop) (E : Value → S → Prop) : Prop :=
  ∀ v s, St X σ s.heap → VM σ.mu s.heap v a → wpAny (model X.prog X.w) X.A (truthy v) (Qw X σ s RB Q) (Ew X σ s E) s
noncomputable def Op1 (X : Cx) (t : Value → Sem Value) (a : V) (σ : S) (Q : V → S → Prop) (E : Value → S → Prop) : Prop :=
  ∀ v s, St X σ s.heap → VM σ.mu s.heap v a → wpAny (model X.prog X.w) X.A (t v) (Qw X σ s VM Q) (Ew X σ s E) s
theorem Op2.go {t : Value → Value → Sem Value} {a b : V} {Q : V → S → Prop} (h : Op2 X t a b σ Q E) {σ₀ : S} {s₀ s : Shared} (P : Post X σ₀ s₀ σ s) {v w : Value} (va : VM σ.mu s.heap v a) (wb : VM σ.mu s.heap w b) :
    wpAny (model X.prog X.w) X.A (t v w) (Qw X σ₀ s₀ VM Q) (Ew X σ₀ s₀ E) s :=
  wpAny_mono (h v w s P.st va wb) (fun _ _ q => q.after P) fun _ _ q => q.after P
theorem Op1.go {t : Value → Sem Value} {a : V} {Q : V → S → Prop} (h : Op1 X t a σ Q E) {σ₀ : S} {s₀ s : Shared} (P : Post X σ₀ s₀ σ s) {v : Value} (va : VM σ.mu s.heap v a) :
    wpAny (model X.prog X.w) X.A (t v) (Qw X σ₀ s₀ VM Q) (Ew X σ₀ s₀ E) s :=
  wpAny_mono (h v s P.st va) (fun _ _ q => q.after P) fun _ _ q => q.after P
theorem Tr.go {a : V} {Q : Bool → S → Prop} (h : Tr X a σ Q E) {σ₀ : S} {s₀ s : Shared} (P : Post X σ₀ s₀ σ s) {v : Value} (va : VM σ.mu s.heap v a) :
    wpAny (model X.prog X.w) X.A (truthy v) (Qw X σ₀ s₀ RB Q) (Ew X σ₀ s₀ E) s :=
  wpAny_mono (h v s P.st va) (fun _ _ q => q.after P) fun _ _ q => q.after P
theorem W.go {α β : Type} {t : Sem α} {R : (Addr → Prop) → Heap → α → β → Prop} {Q : β → S → Prop} (h : W X t R σ Q E) {σ₀ : S} {s₀ s : Shared} (P : Post X σ₀ s₀ σ s) : wpAny (model X.prog X.w) X.A t (Qw X σ₀ s₀ R Q) (Ew X σ₀ s₀ E) s :=
  wpAny_mono (h s P.st) (fun _ _ q => q.after P) fun _ _ q => q.after P
theorem W_BinOp {l r : Expr} {op : Operator} {pos : Pos} {Q : V → S → Prop} (h : WE X l σ (fun a σ₁ => WE X r σ₁ (fun b σ₂ => Op2 X (binaryOp op) a b σ₂ Q E) E) E) : WE X (.BinOp l op r pos) σ Q E := fun _ st =>
  wpAny_BinOp (h.run (Post.refl st) fun _ _ _ _ _ P₁ va h₁ => h₁.run P₁ fun _ _ _ _ p₂ P₂ vb h₂ => h₂.go P₂ (va.mono p₂.ext) vb)
theorem W_Compare {l r : Expr} {op : CmpOp} {pos : Pos} {Q : V → S → Prop} (h : WE X l σ (fun a σ₁ => WE X r σ₁ (fun b σ₂ => Op2 X (compareOp op) a b σ₂ Q E) E) E) (hm : behindInMarks op r = false) :
    WE X (.Compare l [op] [r] pos) σ Q E := fun _ st =>
  wpAny_Compare1 (h.run (Post.refl st) fun _ _ _ _ _ P₁ va h₁ => h₁.run P₁ fun _ _ _ _ p₂ P₂ vb h₂ => h₂.go P₂ (va.mono p₂.ext) vb) hm
theorem WT_Compare {l r : Expr} {op : CmpOp} {pos : Pos} {Q : Bool → S → Prop} (h : WE X l σ (fun a σ₁ => WE X r σ₁ (fun b σ₂ => Op2 X (compareOp op) a b σ₂ (fun c σ₃ => Tr X c σ₃ Q E) E) E) E) (hm : behindInMarks op r = false) :
    WT X (.Compare l [op] [r] pos) σ Q E := fun _ st =>
  wpAny_isTrue_Compare1 (h.run (Post.refl st) fun _ _ _ _ _ P₁ va h₁ => h₁.run P₁ fun _ _ _ _ p₂ P₂ vb h₂ => wpAny_mono (h₂.go P₂ (va.mono p₂.ext) vb) (fun _ _ q => by
    obtain ⟨c, σ₃, P₃, vc, h₃⟩ := q
    exact h₃.go P₃ vc) fun _ _ e => e) hm
theorem WT_Not {x : Expr} {pos : Pos} {Q : Bool → S → Prop} (h : WT X x σ (fun b σ₁ => Q (!b) σ₁) E) : WT X (.UnaryOp .Not x pos) σ Q E := fun _ st =>
  wpAny_isTrue_Not (h.run (Post.refl st) fun _ _ _ _ _ P₁ e q => by subst e; exact ⟨_, _, P₁, rfl, q⟩)
theorem WT_value {e : Expr} {Q : Bool → S → Prop} (h : WE X e σ (fun a σ₁ => Tr X a σ₁ Q E) E) (he : ∀ env whole, isTrue e env whole = (do let v ← whole; standAt e.pos; holding [v] (truthy v))) : WT X e σ Q E := fun _ st =>
  wpAny_isTrue_value (h.run (Post.refl st) fun _ _ _ _ _ P₁ va h₁ => h₁.go P₁ va) (he _ _)
theorem WT_And2 {x y : Expr} {pos : Pos} {Q : Bool → S → Prop} (h : WT X x σ (fun b σ₁ => if b then WT X y σ₁ Q E else Q false σ₁) E) : WT X (.BoolOp .And [x, y] pos) σ Q E := fun _ st =>
  wpAny_isTrue_BoolOp (wpAny_allTrue_And_cons (h.run (Post.refl st) fun _ _ _ _ _ P₁ e q => by
    subst e
    split at q
    · rename_i e; subst e
      rw [if_pos rfl]
      refine wpAny_allTrue_And_cons (q.run P₁ fun _ _ _ _ _ P₂ e q => ?_)
      subst e
      split
      · rename_i e; subst e; exact wpAny_allTrue_And_nil ⟨_, _, P₂, rfl, q⟩
      · rename_i e; rw [Bool.not_eq_true] at e; subst e; exact ⟨_, _, P₂, rfl, q⟩
    · rename_i e; rw [Bool.not_eq_true] at e; subst e
      exact ⟨_, _, P₁, rfl, q⟩))
theorem WT_Or2 {x y : Expr} {pos : Pos} {Q : Bool → S → Prop} (h : WT X x σ (fun b σ₁ => if b then Q true σ₁ else WT X y σ₁ Q E) E) : WT X (.BoolOp .Or [x, y] pos) σ Q E := fun _ st =>
  wpAny_isTrue_BoolOp (wpAny_allTrue_Or_cons (h.run (Post.refl st) fun _ _ _ _ _ P₁ e q => by
    subst e
    split at q
    · rename_i e; subst e
      exact ⟨_, _, P₁, rfl, q⟩
    · rename_i e; rw [Bool.not_eq_true] at e; subst e
      rw [if_neg (by decide)]
      refine wpAny_allTrue_Or_cons (q.run P₁ fun _ _ _ _ _ P₂ e q => ?_)
      subst e
      split
      · rename_i e; subst e; exact ⟨_, _, P₂, rfl, q⟩
      · rename_i e; rw [Bool.not_eq_true] at e; subst e; exact wpAny_allTrue_Or_nil ⟨_, _, P₂, rfl, q⟩))
theorem W_Or {x y : Expr} {pos : Pos} {Q : V → S → Prop} (h : WE X x σ (fun a σ₁ => Tr X a σ₁ (fun b σ₂ => if b then Q a σ₂ else WE X y σ₂ Q E) E) E) : WE X (.BoolOp .Or [x, y] pos) σ Q E := fun _ st =>
  wpAny_Or2 (h.run (Post.refl st) fun _ s₁ _ _ _ P₁ va h₁ => wpAny_mono (h₁ _ s₁ P₁.st va) (fun b s₂ q => by
    obtain ⟨c, σ₃, p₃, e, h₃⟩ := q
    have P₃ := P₁.trans p₃
    cases e
    cases b
    · simp only [Bool.false_eq_true, if_false] at h₃ ⊢
      exact h₃.go P₃
    · simp only [if_true] at h₃ ⊢
      exact ⟨_, _, P₃, va.mono p₃.ext, h₃⟩) fun _ _ e => e.after P₁)
theorem W_Unary {op : UnaryOp} {x : Expr} {pos : Pos} {Q : V → S → Prop} (h : WE X x σ (fun a σ₁ => Op1 X (unaryOp op) a σ₁ Q E) E) : WE X (.UnaryOp op x pos) σ Q E := fun _ st =>
  wpAny_UnaryOp (h.run (Post.refl st) fun _ _ _ _ _ P₁ va h₁ => h₁.go P₁ va)
theorem WA_nil {Q : List V → S → Prop} (q : Q [] σ) : W X (spliced []) VMs σ Q E := fun _ st => spliced_nil (qw_self st .nil q)
theorem WA_cons {e : Expr} {rest : List (Bool × Sem Value)} {Q : List V → S → Prop} (h : WE X e σ (fun a σ₁ => W X (spliced rest) VMs σ₁ (fun as σ₂ => Q (a :: as) σ₂) E) E) : W X (spliced ((false, eval e X.env) :: rest)) VMs σ Q E := fun _ st =>
  spliced_cons (h.run (Post.refl st) fun _ _ _ _ _ P₁ va h₁ => h₁.run P₁ fun _ _ _ _ p₂ P₂ vs q => ⟨_, _, P₂, .cons (va.mono p₂.ext) vs, q⟩)
theorem st_push {s : Shared} (st : St X σ s.heap) (o : Obj) : Post X σ s σ { s with heap := s.heap.push o } :=
  Post.keeps st _ s.toks rfl fun _ _ e => Heap.get?_push_of_some _ e
theorem new_none {s : Shared} (st : St X σ s.heap) : σ.hp s.heap.objs.size = none := by
  cases e : σ.hp s.heap.objs.size with
  | none => rfl
  | some o =>
    obtain ⟨ob, g⟩ := (st.own _ o e).1.there
    exact absurd (Heap.lt_size g) (Nat.lt_irrefl _)
theorem new_off {s : Shared} (st : St X σ s.heap) : ¬ σ.mu s.heap.objs.size := fun hm => hm (new_none st)
theorem W_Tuple {elts : List Expr} {k : Nat} {pos : Pos} {Q : V → S → Prop} (h : W X (spliced (backTo pos (starEach elts X.env))) VMs σ (fun as σ₁ => as.length ≤ 1000 ∧ Q (.tup as) σ₁) E) : WE X (.Tuple elts k pos) σ Q E := fun _ st =>
  Tuple_ (h.run (Post.refl st) fun vs s₁ as σ₁ _ P₁ va q => wpAny_newObj_type (⟨_, σ₁, P₁.trans (st_push P₁.st _), .tup (Heap.get?_push_size _ rfl) rfl rfl (new_off P₁.st) (va.mono (st_push P₁.st _).ext), q.2⟩)
    (by show vs.toArray.size ≤ sizeLine; rw [List.size_toArray, va.length, sizeLine_eq]; omega))
theorem W_List {elts : List Expr} {pos : Pos} {Q : V → S → Prop} (h : W X (spliced (backTo pos (starEach elts X.env))) VMs σ (fun as σ₁ => as.length ≤ 1000 ∧ Q (.lst as) σ₁) E) : WE X (.List elts pos) σ Q E := fun _ st =>
  List_ (h.run (Post.refl st) fun vs s₁ as σ₁ _ P₁ va q => wpAny_newObj_type (⟨_, σ₁, P₁.trans (st_push P₁.st _), .lst (Heap.get?_push_size _ rfl) rfl rfl (new_off P₁.st) (va.mono (st_push P₁.st _).ext), q.2⟩)
    (by show vs.toArray.size ≤ sizeLine; rw [List.size_toArray, va.length, sizeLine_eq]; omega))
theorem WXs_nil {Q : FV → S → Prop} (q : Q .next σ) : WXs X [] σ Q E := fun _ st => wpAny_execs_nil ⟨.next, σ, Post.refl st, trivial, q⟩
theorem WXs_cons {st : Stmt} {rest : List Stmt} {Q : FV → S → Prop} (h : WX X st σ (fun f σ₁ => match f with | .next => WXs X rest σ₁ Q E | f => Q f σ₁) E) : WXs X (st :: rest) σ Q E := fun _ sst =>
  wpAny_execs_cons (h.run (Post.refl sst) fun f s₁ g σ₁ _ P₁ r q => by
    cases f <;> cases g <;> first | exact r.elim | exact q.go P₁ | exact ⟨_, _, P₁, r, q⟩)
theorem WX_If {test : Expr} {body orelse : List Stmt} {pos : Pos} {Q : FV → S → Prop} (h : WT X test σ (fun b σ₁ => if b then WXs X body σ₁ Q E else WXs X orelse σ₁ Q E) E) : WX X (.If test body orelse pos) σ Q E := fun _ st =>
  wpAny_If (h.run (Post.refl st) fun b _ _ _ _ P₁ e h₁ => by
    subst e
    cases b
    · simp only [Bool.false_eq_true, if_false] at h₁ ⊢
      exact h₁.go P₁
    · simp only [if_true] at h₁ ⊢
      exact h₁.go P₁)
theorem WX_Return {e : Expr} {pos : Pos} {Q : FV → S → Prop} (h : WE X e σ (fun a σ₁ => Q (.ret a) σ₁) E) : WX X (.Return (some e) pos) σ Q E := fun _ st =>
  wpAny_Return_some (h.run (Post.refl st) fun _ _ a _ _ P₁ va q => ⟨.ret a, _, P₁, va, q⟩)
theorem WX_Return0 {pos : Pos} {Q : FV → S → Prop} (q : Q (.ret .none) σ) : WX X (.Return none pos) σ Q E := fun _ st => wpAny_Return_none ⟨.ret .none, _, Post.refl st, VM.none, q⟩
theorem WX_Expr {e : Expr} {pos : Pos} {Q : FV → S → Prop} (ok : Ok X n) (h : WE X e σ (fun _ σ₁ => Q .next σ₁) E) (hs : ∀ env, swapsWith e none pos.line env = pure false) : WX X (.Expr e pos) σ Q E := fun _ st =>
  wpAny_Expr_any (h.run (Post.refl st) fun _ _ a _ _ P₁ va q => ⟨.next, _, P₁, trivial, q⟩) (by unfold interactive; rw [ok.kind]; rfl) (hs _)
noncomputable def put (fs : List (Str × V)) (x : Str) (d : V) : List (Str × V) := (x, d) :: fs.filter (fun p => !(p.1 == x))
theorem lk_put_self {fs : List (Str × V)} {x : Str} {d : V} : lk (put fs x d) x = some d := by simp [lk, put, List.lookup]
theorem lk_put_ne {fs : List (Str × V)} {x y : Str} {d : V} (h : y ≠ x) : lk (put fs x d) y = lk fs y := by
  have e : (y == x) = false := by simpa using h
  unfold lk put
  rw [List.lookup_cons, e]
  dsimp only
  induction fs with
  | nil => rfl
  | cons p r ih =>
    rw [List.filter_cons]
    by_cases q : p.1 = x
    · have e1 : (p.1 == x) = true := by simpa using q
      simp only [e1, Bool.not_true, Bool.false_eq_true, if_false]
      rw [ih, List.lookup_cons]
      have : (y == p.1) = false := by simpa [q] using h
      rw [this]
    · have e1 : (p.1 == x) = false := by simpa using q
      simp only [e1, Bool.not_false, if_true]
      rw [List.lookup_cons, List.lookup_cons, ih]
theorem Post.frame {s : Shared} {h' : Heap} {tk : Nat} {loc : List (Str × V)} {m : Str → Option Value} (ok : Ok X n) (st : St X σ s.heap) (hs : Heap.SameBut X.env.locals s.heap h') (hn : h'.Ns X.env.locals m)
    (hm : ∀ x d, lk loc x = some d → ∃ v, m x = some v ∧ VM σ.mu s.heap v d) : Post X σ s { σ with loc := loc } { s with heap := h', toks := tk } := by
  obtain ⟨m₀, hn₀, _⟩ := st.names
  obtain ⟨oL, esL, epL, gL, dL, _⟩ := hn₀
  have x : Ext X.env.locals X.prot σ.mu s.heap σ.mu h' := by
    refine ⟨fun a o e nm q => ⟨(hs.2 a fun z => ?_).trans e, nm⟩, fun a o e nm l q => ⟨nm, o.slots, (hs.2 a l).trans e⟩, fun a ha o e => ⟨(hs.2 a fun z => ?_).trans e, st.protOff a ha⟩⟩
    · rw [z, gL] at e; cases e; rw [dL] at q; exact q
    · exact ok.locProt (z ▸ ha)
  refine ⟨⟨h', tk, rfl⟩, x, ⟨fun b o e => (hs.2 b (Nat.ne_of_lt (Nat.lt_of_lt_of_le (Heap.lt_size e) ok.above))).trans (st.base b o e), ⟨m, hn, fun y d e => let ⟨v, a, b⟩ := hm y d e; ⟨v, a, b.mono x⟩⟩, fun a o q => ?_, st.locOff, fun a ha => ?_, fun e he => ?_⟩⟩
  · obtain ⟨y, z⟩ := st.own a o q
    exact ⟨y.mono x (hs.2 a fun e => st.locOff (by rw [← e]; show σ.hp a ≠ none; rw [q]; exact Option.some_ne_none o)), z⟩
  · obtain ⟨z, o, vs, g, d⟩ := st.prot a ha
    exact ⟨z, o, vs, (hs.2 a fun e => ok.locProt (e ▸ ha)).trans g, d⟩
  · obtain ⟨z, L, o, es, ep, hf, hnb, hmu, g, d⟩ := st.frs e he
    by_cases q : L = X.env.locals
    · obtain ⟨o', es', ep', g', d', _⟩ := hn
      exact ⟨z, L, o', es', ep', hf, hnb, hmu, q ▸ g', d'⟩
    · exact ⟨z, L, o, es, ep, hf, hnb, hmu, (hs.2 L q).trans g, d⟩
theorem store_local {x : Str} {d : V} {Q : Unit → S → Prop} (ok : Ok X n) (hx : X.env.kindOf x = some .local) (q : Q () { σ with loc := put σ.loc x d }) {σ₀ : S} {s₀ s : Shared} (P : Post X σ₀ s₀ σ s) {v : Value} (vm : VM σ.mu s.heap v d) :
    wpAny (model X.prog X.w) X.A (storeName X.env x v) (Qw X σ₀ s₀ RU Q) (Ew X σ₀ s₀ E) s := by
  obtain ⟨m, hn, hm⟩ := P.st.names
  refine wpAny_storeName_local hx hn (fun h' hn' hs => ⟨(), _, P.trans (Post.frame ok P.st hs hn' fun y e he => ?_), trivial, q⟩) (by rw [ok.kind]; rfl)
  by_cases z : y = x
  · subst z
    rw [lk_put_self] at he
    cases he
    exact ⟨v, if_pos rfl, vm⟩
  · rw [lk_put_ne z] at he
    obtain ⟨w, a, b⟩ := hm y e he
    exact ⟨w, by rw [if_neg z]; exact a, b⟩
theorem WX_Assign {x : Str} {px pos : Pos} {e : Expr} {Q : FV → S → Prop} (ok : Ok X n) (hx : X.env.kindOf x = some .local) (h : WE X e σ (fun d σ₁ => Q .next { σ₁ with loc := put σ₁.loc x d }) E)
    (hs : ∀ env, swapsWith e (some (.Name x px)) pos.line env = pure false) : WX X (.Assign [.Name x px] e pos) σ Q E := fun _ st =>
  wpAny_Assign_Name (h.run (Post.refl st) fun v s₁ d σ₁ _ P₁ vm q => wpAny_mono (store_local (E := E) (Q := fun _ σ' => Q .next σ') ok hx q P₁ vm) (fun _ _ ⟨_, σ', P', _, q'⟩ => ⟨.next, σ', P', trivial, q'⟩) fun _ _ e => e) (hs _)
theorem WX_Aug {x : Str} {px pos : Pos} {e : Expr} {op : Operator} {d : V} {Q : FV → S → Prop} (ok : Ok X n) (hx : X.env.kindOf x = some .local) (hd : lk σ.loc x = some d)
    (h : WE X e σ (fun b σ₁ => Op2 X (inplaceOp op) d b σ₁ (fun r σ₂ => Q .next { σ₂ with loc := put σ₂.loc x r }) E) E) : WX X (.AugAssign (.Name x px) op e pos) σ Q E := fun _ st => by
  obtain ⟨m, hn, hm⟩ := st.names
  obtain ⟨v, hv, vm⟩ := hm x d hd
  refine wpAny_AugAssign_Name (wpAny_loadName_local ok.kind hx hn hv (h.run (Post.refl st) fun w s₁ b σ₁ p₁ P₁ wm h₁ => ?_))
  refine wpAny_mono (h₁.go P₁ (vm.mono p₁.ext) wm) (fun r s₂ q => ?_) fun _ _ e => e
  obtain ⟨c, σ₂, P₂, rm, h₂⟩ := q
  exact wpAny_mono (store_local (E := E) (Q := fun _ σ' => Q .next σ') ok hx h₂ P₂ rm) (fun _ _ ⟨_, σ', P', _, q'⟩ => ⟨.next, σ', P', trivial, q'⟩) fun _ _ e => e
end
end Mine
namespace Mine
open PySem PySem.W PySem.Calls PySem.Spec PyProof.Rows
section
variable {X : Cx} {n : Nat} {σ : S} {E : Value → S → Prop}
noncomputable def upd (hp : Addr → Option HO) (a : Addr) (o : HO) : Addr → Option HO := fun b => if b = a then some o else hp b
theorem upd_self {hp : Addr → Option HO} {a : Addr} {o : HO} : upd hp a o a = some o := if_pos rfl
theorem upd_ne {hp : Addr → Option HO} {a b : Addr} {o : HO} (h : b ≠ a) : upd hp a o b = hp b := if_neg h
theorem upd_upd {hp : Addr → Option HO} {a : Addr} {o o' : HO} : upd (upd hp a o) a o' = upd hp a o' := by
  funext b; unfold upd; split <;> rfl
theorem post_write {s : Shared} {h' : Heap} {tk : Nat} {a : Addr} {o : HO} (ok : Ok X n) (st : St X σ s.heap) (k : ∀ b o, b ≠ a → b ≠ X.env.locals → s.heap.get? b = some o → h'.get? b = some o)
    (hL : ∃ m, h'.Ns X.env.locals m ∧ ∀ x d, lk σ.loc x = some d → ∃ v, m x = some v ∧ VM σ.mu s.heap v d) (hown : σ.hp a ≠ none ∨ (s.heap.get? a = none))
    (om : (∀ v d, VM σ.mu s.heap v d → VM (S.mu { σ with hp := upd σ.hp a o }) h' v d) → (∀ es fs, Ents σ.mu s.heap es fs → Ents (S.mu { σ with hp := upd σ.hp a o }) h' es fs) → (∀ vs ds, VMs σ.mu s.heap vs ds → VMs (S.mu { σ with hp := upd σ.hp a o }) h' vs ds) → OM (S.mu { σ with hp := upd σ.hp a o }) h' a o) :
    Post X σ s { σ with hp := upd σ.hp a o } { s with heap := h', toks := tk } := by
  obtain ⟨m₀, hn₀, _⟩ := st.names
  obtain ⟨oL, esL, epL, gL, dL, _⟩ := id hn₀
  have hne : ∀ b ob, s.heap.get? b = some ob → ¬ σ.mu b → b ≠ a := fun b ob g nm e => by
    subst e
    rcases hown with q | q
    · exact nm q
    · rw [q] at g; cases g
  have nmu : ∀ b, ¬ σ.mu b → b ≠ a → ¬ S.mu { σ with hp := upd σ.hp a o } b := fun b nm ne q => nm (by
    have : upd σ.hp a o b ≠ none := q
    rwa [upd_ne ne] at this)
  have x : Ext X.env.locals X.prot σ.mu s.heap (S.mu { σ with hp := upd σ.hp a o }) h' := by
    refine ⟨fun b ob g nm q => ⟨k b ob (hne b ob g nm) (fun z => ?_) g, nmu b nm (hne b ob g nm)⟩, fun b ob g nm l q => ⟨nmu b nm (hne b ob g nm), ob.slots, k b ob (hne b ob g nm) l g⟩, fun b hb ob g => ?_⟩
    · rw [z, gL] at g; cases g; rw [dL] at q; exact q
    · have nm := st.protOff b hb
      exact ⟨k b ob (hne b ob g nm) (fun z => ok.locProt (z ▸ hb)) g, nmu b nm (hne b ob g nm)⟩
  have La : X.env.locals ≠ a := hne _ _ gL st.locOff
  have ba : X.base.get? a = none := by
    rcases hown with q | q
    · cases e : σ.hp a with
      | none => exact absurd e q
      | some o' => exact (st.own a o' e).2
    · cases e : X.base.get? a with
      | none => rfl
      | some o' => have := st.base a o' e; rw [q] at this; cases this
  refine ⟨⟨h', tk, rfl⟩, x, ⟨fun b ob e => k b ob (fun z => by rw [z, ba] at e; cases e) (Nat.ne_of_lt (Nat.lt_of_lt_of_le (Heap.lt_size e) ok.above)) (st.base b ob e), ?_, fun b ob e => ?_, nmu _ st.locOff La, fun p hp => ?_, fun e he => ?_⟩⟩
  · obtain ⟨m, hn, hm⟩ := hL
    exact ⟨m, hn, fun y d e => let ⟨v, q, r⟩ := hm y d e; ⟨v, q, r.mono x⟩⟩
  · by_cases z : b = a
    · subst z
      have e' : Mine.upd σ.hp b o b = some ob := e
      rw [upd_self] at e'
      cases e'
      exact ⟨om (fun _ _ q => q.mono x) (fun _ _ q => q.mono x) (fun _ _ q => q.mono x), ba⟩
    · replace e : Mine.upd σ.hp a o b = some ob := e
      rw [upd_ne z] at e
      obtain ⟨y, r⟩ := st.own b ob e
      obtain ⟨oc, g⟩ := y.there
      refine ⟨y.mono x ((k b oc z (fun q => st.locOff (by rw [← q]; show σ.hp b ≠ none; rw [e]; exact Option.some_ne_none ob)) g).trans g.symm), r⟩
  · obtain ⟨z, ob, vs, g, d⟩ := st.prot p hp
    exact ⟨nmu p z (hne p ob g z), ob, vs, k p ob (hne p ob g z) (fun q => ok.locProt (q ▸ hp)) g, d⟩
  · obtain ⟨z, L, ob, es, ep, hf, hn, hm, g, d⟩ := st.frs e he
    by_cases q : L = X.env.locals
    · obtain ⟨m, hnn, _⟩ := hL
      obtain ⟨o', es', ep', g', d', _⟩ := hnn
      exact ⟨z, L, o', es', ep', hf, hn, nmu L hm (hne L ob g hm), q ▸ g', d'⟩
    · exact ⟨z, L, ob, es, ep, hf, hn, nmu L hm (hne L ob g hm), k L ob (hne L ob g hm) q g, d⟩
noncomputable def restOf (base h : Heap) (L a : Addr) : List (Addr × Obj) :=
  (List.range h.objs.size).filterMap fun b => if b = L ∨ b = a ∨ (base.get? b).isSome then none else (h.get? b).map fun o => (b, o)
theorem restOf_mem {base h : Heap} {L a : Addr} {p : Addr × Obj} (hp : p ∈ restOf base h L a) : h.get? p.1 = some p.2 ∧ p.1 ≠ L ∧ p.1 ≠ a ∧ base.get? p.1 = none := by
  obtain ⟨b, _, e⟩ := List.mem_filterMap.mp hp
  split at e
  · cases e
  · rename_i q
    rw [not_or, not_or] at q
    obtain ⟨o, g, rfl⟩ := Option.map_eq_some_iff.mp e
    exact ⟨g, q.1, q.2.1, by simpa using q.2.2⟩
theorem mem_restOf {base h : Heap} {L a b : Addr} {o : Obj} (g : h.get? b = some o) (h1 : b ≠ L) (h2 : b ≠ a) (h3 : base.get? b = none) : (b, o) ∈ restOf base h L a := by
  refine List.mem_filterMap.mpr ⟨b, List.mem_range.mpr (Heap.lt_size g), ?_⟩
  rw [if_neg (by rw [h3]; simp [h1, h2]), g]; rfl
theorem restOf_news {base h : Heap} {L a : Addr} : News base L h (restOf base h L a) := fun p hp =>
  let ⟨g, h1, _, h3⟩ := restOf_mem hp
  ⟨g, h1, h3⟩
theorem kept_of {base h h' : Heap} {L a : Addr} {m : Str → Option Value} (F : Fr base L h' m) (sb : base.StaysIn h) (N : News base L h' (restOf base h L a)) : ∀ b o, b ≠ a → b ≠ L → h.get? b = some o → h'.get? b = some o := fun b o h1 h2 g => by
  cases e : base.get? b with
  | none => exact (N _ (mem_restOf g h2 h1 e)).1
  | some o' =>
    have := sb b o' e
    rw [g] at this
    cases this
    exact F.keep b o e
theorem Ents.getL {mu : Addr → Prop} {h : Heap} {es : List DictEntry} {fs : List (Str × V)} (x : Ents mu h es fs) {name : Str} : (∀ d, lk fs name = some d → ∃ v, PySem.W.getL name es = some (some v) ∧ VM mu h v d) ∧ (lk fs name = none → PySem.W.getL name es = some none) := by
  induction x with
  | nil => exact ⟨fun d e => by simp [lk] at e, fun _ => rfl⟩
  | @cons e es x t d fs hk vm r ih =>
    have ik : e.key.isStr name = (x == name) := by rw [hk]; rfl
    have rk : e.refKey = false := by unfold DictEntry.refKey; rw [hk]
    by_cases q : x = name
    · subst q
      refine ⟨fun d' e' => ⟨e.val, ?_, ?_⟩, fun e' => ?_⟩
      · unfold PySem.W.getL; rw [List.find?_cons, ik]; simp
      · simp [lk, List.lookup] at e'; subst e'; exact vm
      · simp [lk, List.lookup] at e'
    · have q1 : (x == name) = false := by simpa using q
      have q2 : (name == x) = false := by simpa using fun z => q z.symm
      have gl : PySem.W.getL name (e :: es) = PySem.W.getL name es := by
        unfold PySem.W.getL; rw [List.find?_cons, ik, q1]; simp [rk]
      have ll : lk ((x, d) :: fs) name = lk fs name := by unfold lk; rw [List.lookup_cons, q2]
      rw [gl, ll]; exact ih
noncomputable def updF : List (Str × V) → Str → V → List (Str × V)
  | [], x, d => [(x, d)]
  | (y, e) :: r, x, d => if y == x then (y, d) :: r else (y, e) :: updF r x d
theorem Ents.put {mu : Addr → Prop} {h : Heap} {es : List DictEntry} {fs : List (Str × V)} (x : Ents mu h es fs) {name : Str} {hs : Int} {tk : Tok} {v : Value} {d : V} (vm : VM mu h v d) : Ents mu h (putL name hs (.str name tk) v es) (updF fs name d) := by
  induction x with
  | nil => exact .cons rfl vm .nil
  | @cons e es x t d' fs hk vm' r ih =>
    have ik : e.key.isStr name = (x == name) := by rw [hk]; rfl
    unfold putL updF
    rw [ik]
    split
    · exact .cons hk vm r
    · exact .cons hk vm' ih
theorem Ents.length {mu : Addr → Prop} {h : Heap} {es : List DictEntry} {fs : List (Str × V)} (x : Ents mu h es fs) : es.length = fs.length := by
  induction x with
  | nil => rfl
  | cons _ _ _ ih => simp [ih]
theorem updF_length (fs : List (Str × V)) (x : Str) (d : V) : (updF fs x d).length ≤ fs.length + 1 := by
  induction fs with
  | nil => simp [updF]
  | cons p r ih => obtain ⟨y, e⟩ := p; unfold updF; split <;> simp <;> omega
structure KGet (K : Frag) (C : Addr) (name : Str) : Prop where
  get : plainGet K C name = true
  dict : hasDictIn K C = true
  cls : ∃ attr, findIn K (.ref C) name = some attr ∧ noGet K attr = true
structure KSet (K : Frag) (C : Addr) (name : Str) : Prop where
  set : findIn K (.ref C) "__setattr__" = some (some (.builtin "object.__setattr__"))
  plain : plainOver K C = true
  taker : takerIn K C name = some none
  dict : hasDictIn K C = true
structure KMeth (K : Frag) (C : Addr) (name : Str) (f : Addr) : Prop where
  get : plainGet K C name = true
  cls : findIn K (.ref C) name = some (some (.ref f))
  fn : isFn K (.ref f) = true
  keep : keepIn K (.ref f) = true
theorem VM.handed {mu : Addr → Prop} {h : Heap} {v : Value} {d : V} (x : VM mu h v d) (hd : ∀ w, d ≠ .lit w) : handedIn v = true := by
  cases x <;> first | rfl | exact absurd rfl (hd _)
theorem inst_at {a C dx : Addr} {fs : List (Str × V)} {h : Heap} (st : St X σ h) (h1 : σ.hp a = some (.inst C dx)) (h2 : σ.hp dx = some (.dict fs)) : ∃ es k, InstAt h a (instObj C dx) C (some (dictOf es k)) ∧ Ents σ.mu h es fs ∧ es.length ≤ 100 := by
  obtain ⟨g1, _⟩ := st.own a _ h1
  obtain ⟨⟨es, k, g2, en, hl⟩, _⟩ := st.own dx _ h2
  exact ⟨es, k, ⟨g1, rfl, rfl, g2⟩, en, hl⟩
theorem get_field {a C dx : Addr} {fs : List (Str × V)} {name : Str} {d : V} {ex : Bool} {Q : V → S → Prop} (ok : Ok X n) (h1 : σ.hp a = some (.inst C dx)) (h2 : σ.hp dx = some (.dict fs)) (kg : KGet X.K C name)
    (hd : lk fs name = some d) (hl : ∀ w, d ≠ .lit w) (q : Q d σ) : Op1 X (fun v => getAttr v name ex) (.ref a) σ Q E := by
  intro v s st vm
  cases vm
  obtain ⟨m, F, _⟩ := st.fr ok
  obtain ⟨es, k, I, en, _⟩ := inst_at st h1 h2
  obtain ⟨w, e, wm⟩ := en.getL.1 d hd
  obtain ⟨attr, c1, c2⟩ := kg.cls
  exact get_own F ok.inK I kg.get kg.dict c1 c2 e (wm.handed hl) (qw_same st _ wm q)
theorem W_Attr {x attr : Str} {xp pos : Pos} {Q : V → S → Prop} (h : WE X (.Name x xp) σ (fun a σ₁ => Op1 X (fun v => getAttr v attr true) a σ₁ Q E) E) : WE X (.Attribute (.Name x xp) attr pos) σ Q E := fun _ st =>
  Attribute_name (h.run (Post.refl st) fun _ _ _ _ _ P₁ va h₁ => h₁.go P₁ va)
theorem set_field {a C dx : Addr} {fs : List (Str × V)} {name : Str} {d : V} {Q : Unit → S → Prop} (ok : Ok X n) (h1 : σ.hp a = some (.inst C dx)) (h2 : σ.hp dx = some (.dict fs)) (ks : KSet X.K C name)
    (hlen : fs.length ≤ 90) (q : Q () { σ with hp := upd σ.hp dx (.dict (updF fs name d)) }) {σ₀ : S} {s₀ s : Shared} (P : Post X σ₀ s₀ σ s) {v : Value} (vm : VM σ.mu s.heap v d) :
    wpAny (model X.prog X.w) X.A (setAttr (.ref a) name v) (Qw X σ₀ s₀ RU Q) (Ew X σ₀ s₀ E) s := by
  have st := P.st
  obtain ⟨m, F, hm⟩ := st.fr ok
  obtain ⟨es, k, I, en, _⟩ := inst_at st h1 h2
  have hl : (PySem.W.getL name es).isSome = true := by
    cases e : lk fs name with
    | none => rw [en.getL.2 e]; rfl
    | some d' => obtain ⟨w, e', _⟩ := en.getL.1 d' e; rw [e']; rfl
  obtain ⟨⟨es₂, k₂, g2, _⟩, nb⟩ := st.own dx _ h2
  have g2' : s.heap.get? dx = some (dictOf es k) := I.dict
  have dL : dx ≠ X.env.locals := fun e => st.locOff (by rw [← e]; show σ.hp dx ≠ none; rw [h2]; exact Option.some_ne_none _)
  have N : News X.base X.env.locals s.heap ((dx, dictOf es k) :: restOf X.base s.heap X.env.locals dx) := fun p hp => by
    rcases List.mem_cons.mp hp with rfl | hp
    · exact ⟨g2', dL, nb⟩
    · exact restOf_news p hp
  have el := en.length
  have en' := en.put (name := name) (hs := PyData.keyHash X.w.params name) (tk := s.toks + 1) vm
  have el' := en'.length
  have ul := updF_length fs name d
  refine set_dict F ok.inK N I rfl ks.set ks.plain ks.taker ks.dict hl rfl (Upd.head fun p hp => (restOf_mem hp).2.2.1) (by omega) fun h' F' N' => ?_
  refine ⟨(), _, P.trans (post_write ok st (kept_of F' st.base (fun p hp => N' p (.tail _ hp))) ⟨m, F'.ns, hm⟩ (.inl (by rw [h2]; exact Option.some_ne_none _)) fun _ me _ => ?_), trivial, q⟩
  exact ⟨_, _, (N' _ (.head _)).1, me _ _ en', by omega⟩
end
end Mine
namespace Mine
open PySem PySem.W PySem.Calls PySem.Spec PyProof.Rows
section
variable {X : Cx} {n : Nat} {σ : S} {E : Value → S → Prop}
noncomputable def Cx.frs (X : Cx) : List Addr := (X.fenv :: X.outer).filterMap (·.frame)
theorem frs_of {h : Heap} (st : St X σ h) {b : Addr} (hb : b ∈ X.frs) : X.base.get? b = none ∧ ¬ σ.mu b ∧ ∃ o es ep, h.get? b = some o ∧ o.data = .dict es ep := by
  obtain ⟨e, he, hf⟩ := List.mem_filterMap.mp hb
  obtain ⟨_, L, o, es, ep, hf', hn, hm, g, d⟩ := st.frs e he
  rw [hf'] at hf
  cases hf
  exact ⟨hn, hm, o, es, ep, g, d⟩
theorem post_slots {s : Shared} {h' : Heap} {tk : Nat} {bad : List Addr} (st : St X σ s.heap) (k1 : ∀ b o, s.heap.get? b = some o → b ∉ X.frs → b ∉ bad → h'.get? b = some o) (k2 : s.heap.UpToSlots h')
    (hb : ∀ b ∈ bad, (X.base.get? b = none ∧ ¬ σ.mu b) ∧ b ∉ X.prot ∧ ∃ o vs, s.heap.get? b = some o ∧ o.data = .fields vs) : Post X σ s σ { s with heap := h', toks := tk } := by
  have nf : ∀ b o, s.heap.get? b = some o → (∀ es ep, o.data ≠ .dict es ep) → b ∉ X.frs := fun b o g q hm => by
    obtain ⟨_, _, o', es, ep, g', d⟩ := frs_of st hm
    rw [g] at g'; cases g'; exact q _ _ d
  have nb : ∀ b o, s.heap.get? b = some o → (∀ vs, o.data ≠ .fields vs) → b ∉ bad := fun b o g q hm => by
    obtain ⟨_, _, o', vs, g', d⟩ := hb b hm
    rw [g] at g'; cases g'; exact q _ d
  have x : Ext X.env.locals X.prot σ.mu s.heap σ.mu h' := by
    refine ⟨fun a o g nm q => ⟨k1 a o g (nf a o g ?_) (nb a o g ?_), nm⟩, fun a o g nm _ q => ⟨nm, k2 a o g q⟩, fun a ha o g => ?_⟩
    · intro es ep d; rw [d] at q; exact q
    · intro vs d; rw [d] at q; exact q
    · obtain ⟨z, o', vs, g', d, _⟩ := st.prot a ha
      rw [g] at g'; cases g'
      exact ⟨k1 a o g (nf a o g fun es ep d' => by rw [d] at d'; cases d') (fun hm => (hb a hm).2.1 ha), z⟩
  refine ⟨⟨h', tk, rfl⟩, x, ⟨fun b o e => k1 b o (st.base b o e) (fun hm => ?_) (fun hm => ?_), ?_, fun a o e => ?_, st.locOff, fun a ha => ?_, fun e he => ?_⟩⟩
  · have := (frs_of st hm).1; rw [e] at this; cases this
  · have := (hb b hm).1.1; rw [e] at this; cases this
  · obtain ⟨m, hn, hm⟩ := st.names
    exact ⟨m, k2.ns hn, fun y d e => let ⟨v, q, r⟩ := hm y d e; ⟨v, q, r.mono x⟩⟩
  · obtain ⟨y, z⟩ := st.own a o e
    obtain ⟨ob, g⟩ := y.there
    exact ⟨y.mono x ((k1 a ob g (fun hm => (frs_of st hm).2.1 (by show σ.hp a ≠ none; rw [e]; exact Option.some_ne_none _)) (fun hm => (hb a hm).1.2 (by show σ.hp a ≠ none; rw [e]; exact Option.some_ne_none _))).trans g.symm), z⟩
  · obtain ⟨z, o', vs, g', d⟩ := st.prot a ha
    exact ⟨z, o', vs, (x.watch a ha o' g').1, d⟩
  · obtain ⟨z, L, o, es, ep, hf, hn, hm, g, d⟩ := st.frs e he
    obtain ⟨sl, g'⟩ := k2 L o g fun vs q => by rw [d] at q; cases q
    exact ⟨z, L, _, es, ep, hf, hn, hm, g', d⟩
noncomputable def ExcTb (X : Cx) (mu : Addr → Prop) (h : Heap) (e : Addr) (cls fl : Value) : Prop :=
  (X.base.get? e = none ∧ ¬ mu e) ∧ e ∉ X.prot ∧ ∃ oe vs a0 T oT ts, h.get? e = some oe ∧ oe.cls = cls ∧ oe.data = .fields vs ∧ (vs[0]? = some a0 ∧ Ctx0 cls vs) ∧ vs[1]? = some (.ref T) ∧ (X.base.get? T = none ∧ ¬ mu T) ∧ T ∉ X.prot ∧ T ≠ e ∧
    h.get? T = some oT ∧ oT.data = .fields ts ∧ ts[3]? = some fl
theorem ExcTb.own {mu : Addr → Prop} {h : Heap} {e : Addr} {cls : Value} (x : ExcTb X mu h e cls (rawInt X.L)) : ExcAt X mu h e cls := by
  obtain ⟨a, b, oe, vs, a0, T, oT, ts, g, c, d, v0, v1, bT, pT, ne, gT, dT, v3⟩ := x
  exact ⟨a, b, oe, vs, a0, g, c, d, v0, .inr ⟨T, oT, ts, v1, bT, pT, ne, gT, dT, .inr v3⟩⟩
theorem set_flight {s : Shared} {e : Addr} {cls fl : Value} {fr : Option Addr} {Q : Unit → Shared → Prop} {E' : Value → Shared → Prop} {A : Around} (st : St X σ s.heap) (x : ExcTb X σ.mu s.heap e cls fl)
    (h : ∀ h', Post X σ s σ { s with heap := h' } → ExcTb X σ.mu h' e cls (fr.elim .none fun f => rawInt f) → Q () { s with heap := h' }) : wpAny (model X.prog X.w) A (setFlight (.ref e) fr) Q E' s := by
  obtain ⟨be, pe, oe, vs, a0, T, oT, ts, g, c, d, v0, v1, bT, pT, ne, gT, dT, v3⟩ := x
  have hsz3 : 3 < ts.size := (Array.getElem?_eq_some_iff.mp v3).1
  have other : ∀ b, b ≠ T → (s.heap.update T (Obj.mapFields (·.setIfInBounds 3 (fr.elim Value.none fun f => rawInt f)))).get? b = s.heap.get? b :=
    fun b hb => Heap.get?_update_other _ _ (Ne.symm hb)
  unfold setFlight
  refine wpAny_bind (wpAny_field g d v1 ?_)
  rw [if_pos (show (Value.ref T != Value.none) = true from by simp)]
  refine wpAny_setField gT dT hsz3 (h _ ?_ ?_)
  · refine post_slots (bad := [T]) st (fun b o g' _ nb => (other b fun q => nb (by simp [q])).trans g') (fun b o g' nf => ⟨o.slots, (other b fun q => ?_).trans g'⟩) fun b hb => ?_
    · rw [q, gT] at g'; cases g'; exact nf _ dT
    · rw [List.mem_singleton.mp hb]; exact ⟨bT, pT, oT, ts, gT, dT⟩
  · exact ⟨be, pe, oe, vs, a0, T, _, _, (other e (Ne.symm ne)).trans g, c, d, v0, v1, bT, pT, ne, Heap.get?_update_self _ gT (Obj.isFreed_of_fields (Obj.data_mapFields dT _)), Obj.data_mapFields dT _, by simp [hsz3]⟩
theorem entry_new {s : Shared} {e : Addr} {oe : Obj} {vs : Array Value} {head : Value} {hadNext : Bool} {Q : Unit → Shared → Prop} {E' : Value → Shared → Prop} {A : Around} (ok : Ok X n) (st : St X σ s.heap) (hA : A.frames = some (X.fenv :: X.outer))
    (he : s.heap.get? e = some oe) (hd : oe.data = .fields vs) (hsz : 1 < vs.size)
    (h : ∀ h' T ts, (∀ b o, b ≠ e → b ∉ X.frs → s.heap.get? b = some o → h'.get? b = some o) → s.heap.UpToSlots h' → s.heap.get? T = none → T ≠ e → h'.get? e = some (oe.mapFields (·.setIfInBounds 1 (.ref T))) →
      (∃ oT, h'.get? T = some oT ∧ oT.data = .fields ts) → ts[3]? = some (rawInt X.L) → Q () { s with heap := h' }) :
    wpAny (model X.prog X.w) A (do let a ← frameOf X.fenv; let pl ← entryPlaceOf X.L hadNext; let b ← EntryCells.newEntry head a .none (rawInt X.L) .none pl; setField (.ref e) 1 b) Q E' s := by
  have hl := funs_of st.frs
  have hene : e ∉ X.frs := fun hm => by
    obtain ⟨_, _, o', es, ep, g', d'⟩ := frs_of st hm
    rw [he] at g'; cases g'; rw [hd] at d'; cases d'
  refine wpAny_bind (wpAny_frameOf_fun hA hl ok.frame fun h₁ hs₁ => ?_)
  refine wpAny_bind (wpAny_entryPlaceOf fun pl hpl => ?_)
  unfold EntryCells.newEntry newFields
  refine wpAny_bind (wpAny_newObj_type ?_ (hpl.sizeOk5 _ _ _ _ _))
  generalize hts : ([head, .ref X.L, .none, rawInt X.L, .none] ++ (if pl.isEmpty then List.replicate 6 Value.none else pl)).toArray = ts
  have he₁ : h₁.get? e = some oe := (hs₁.2.1 e hene).trans he
  have he₂ := Heap.get?_push_of_some (h := h₁) { cls := .type "traceback", dict := none, data := .fields ts } he₁
  have hTe : h₁.objs.size ≠ e := Nat.ne_of_gt (Heap.lt_size he₁)
  have hd₃ := Obj.data_mapFields hd (·.setIfInBounds 1 (Value.ref h₁.objs.size))
  have keep : ∀ b o, b ≠ e → h₁.get? b = some o → ((h₁.push { cls := .type "traceback", dict := none, data := .fields ts }).update e (Obj.mapFields (·.setIfInBounds 1 (Value.ref h₁.objs.size)))).get? b = some o := fun b o hbe hb => by
    rw [Heap.get?_update_other _ _ (Ne.symm hbe)]
    exact Heap.get?_push_of_some _ hb
  refine wpAny_setField he₂ hd hsz (h _ h₁.objs.size ts (fun b o ne nf g => keep b o ne ((hs₁.2.1 b nf).trans g)) (fun b o g nf => ?_) ?_ hTe ?_ ⟨{ cls := .type "traceback", dict := none, data := .fields ts }, ?_, rfl⟩ ?_)
  · obtain ⟨sl, g'⟩ := hs₁.2.2 b o g
    exact ⟨sl, keep b _ (fun q => by rw [q, he] at g; cases g; exact nf _ hd) g'⟩
  · rw [hs₁.1]; exact Heap.get?_none_of_le (Nat.le_refl _)
  · exact Heap.get?_update_self _ he₂ (Obj.isFreed_of_fields hd₃)
  · exact (Heap.get?_update_other _ _ (Ne.symm hTe)).trans (Heap.get?_push_size h₁ rfl)
  · rw [← hts]; simp
theorem note_any {s : Shared} {e : Addr} {cls : Value} {Q : Unit → Shared → Prop} {E' : Value → Shared → Prop} (ok : Ok X n) (he : X.env = X.fenv) (st : St X σ s.heap) (x : ExcAt X σ.mu s.heap e cls)
    (h : ∀ h', Post X σ s σ { s with heap := h' } → ExcTb X σ.mu h' e cls (rawInt X.L) → Q () { s with heap := h' }) {A : Around} (hA : A.frames = some (X.fenv :: X.outer)) : wpAny (model X.prog X.w) A (noteFrame (.ref e) X.env) Q E' s := by
  obtain ⟨be, pe, oe, vs, a0, g, c, d, ⟨v0, c0⟩, hx⟩ := x
  rw [he]
  have fin : ∀ (s₁ : Shared), Post X σ s σ s₁ → s₁.heap.get? e = some oe → ∀ h' T ts, (∀ b o, b ≠ e → b ∉ X.frs → s₁.heap.get? b = some o → h'.get? b = some o) → s₁.heap.UpToSlots h' → s₁.heap.get? T = none → T ≠ e →
      h'.get? e = some (oe.mapFields (·.setIfInBounds 1 (.ref T))) → (∃ oT, h'.get? T = some oT ∧ oT.data = .fields ts) → ts[3]? = some (rawInt X.L) → 1 < vs.size → Post X σ s σ { s₁ with heap := h' } ∧ ExcTb X σ.mu h' e cls (rawInt X.L) := by
    intro s₁ P₁ g₁ h' T ts k1 k2 gT hTe ge ⟨oT, gT', dT⟩ t3 hsz
    refine ⟨P₁.trans (post_slots (bad := [e]) P₁.st (fun b o gb n1 n2 => k1 b o (fun q => n2 (by simp [q])) n1 gb) k2 fun b hb => by rw [List.mem_singleton.mp hb]; exact ⟨be, pe, oe, vs, g₁, d⟩), ?_⟩
    refine ⟨be, pe, _, _, a0, T, oT, ts, ge, (Obj.cls_mapFields _ _).trans c, Obj.data_mapFields d _, ⟨by rw [Array.getElem?_setIfInBounds_ne (by decide)]; exact v0, fun q => by rw [Array.getElem?_setIfInBounds_ne (by decide)]; exact c0 q⟩, by simp [hsz], ?_, fun hp => ?_, hTe, gT', dT, t3⟩
    · refine ⟨?_, fun hm => ?_⟩
      · cases q : X.base.get? T with
        | none => rfl
        | some o => have := P₁.st.base T o q; rw [gT] at this; cases this
      · cases q : σ.hp T with
        | none => exact hm q
        | some o =>
          obtain ⟨ob, g⟩ := (P₁.st.own T o q).1.there
          rw [gT] at g; cases g
    · obtain ⟨_, o, ws, gp, _⟩ := P₁.st.prot T hp
      rw [gT] at gp; cases gp
  rcases hx with v1 | ⟨T, oT, ts, v1, bT, pT, ne, gT, dT, v3 | v3⟩
  · have hsz := (Array.getElem?_eq_some_iff.mp v1).1
    unfold noteFrame
    simp only [ok.frame]
    refine wpAny_bind (wpAny_field g d v1 ?_)
    rw [if_neg (by decide)]
    refine entry_new ok st hA g d hsz fun h' T ts k1 k2 gT hTe ge gT' t3 => ?_
    obtain ⟨P, x⟩ := fin s (Post.refl st) g h' T ts k1 k2 gT hTe ge gT' t3 hsz
    exact h h' P x
  · have hsz := (Array.getElem?_eq_some_iff.mp v1).1
    unfold noteFrame
    simp only [ok.frame]
    refine wpAny_bind (wpAny_field g d v1 ?_)
    rw [if_pos (show (Value.ref T != Value.none) = true from by simp)]
    refine wpAny_bind (wpAny_field gT dT v3 ?_)
    rw [if_neg (show ¬ ((Value.none == rawInt X.L) = true) from by simp [rawInt])]
    have other : ∀ b, b ≠ T → (s.heap.update T (Obj.mapFields (·.setIfInBounds 3 Value.none))).get? b = s.heap.get? b := fun b hb => Heap.get?_update_other _ _ (Ne.symm hb)
    refine wpAny_bind (wpAny_setField gT dT (Array.getElem?_eq_some_iff.mp v3).1 ?_)
    have P₁ : Post X σ s σ { s with heap := s.heap.update T (Obj.mapFields (·.setIfInBounds 3 Value.none)) } :=
      post_slots (tk := s.toks) (bad := [T]) st (fun b o g' _ nb => (other b fun q => nb (by simp [q])).trans g') (fun b o g' nf => ⟨o.slots, (other b fun q => by rw [q, gT] at g'; cases g'; exact nf _ dT).trans g'⟩) fun b hb => by
        rw [List.mem_singleton.mp hb]; exact ⟨bT, pT, oT, ts, gT, dT⟩
    have g₁ := (other e (Ne.symm ne)).trans g
    refine entry_new ok P₁.st hA g₁ d hsz fun h' T' ts' k1 k2 gT₂ hTe ge gT' t3 => ?_
    obtain ⟨P, x⟩ := fin _ P₁ g₁ h' T' ts' k1 k2 gT₂ hTe ge gT' t3 hsz
    exact h h' P x
  · refine wpAny_noteFrame_againW (base := X.base) (cls := cls) (a0 := a0) ok.frame ⟨oe, vs, T, oT, ts, g, ⟨c, v0⟩, d, v1, bT.1, ne, gT, dT, v3⟩ ?_
    exact h s.heap ⟨⟨s.heap, s.toks, rfl⟩, Ext.refl _ _ _ _ st.protOff, st⟩ ⟨be, pe, oe, vs, a0, T, oT, ts, g, c, d, ⟨v0, c0⟩, v1, bT, pT, ne, gT, dT, v3⟩
theorem leave_any {s : Shared} {e : Addr} {cls : Value} {Q : Unit → Shared → Prop} {E' : Value → Shared → Prop} (ok : Ok X n) (he : X.env = X.fenv) (st : St X σ s.heap) (x : ExcAt X σ.mu s.heap e cls)
    (h : ∀ h', Post X σ s σ { s with heap := h' } → ExcTb X σ.mu h' e cls .none → Q () { s with heap := h' }) : wpAny (model X.prog X.w) X.A (leaving X.env (.ref e)) Q E' s := by
  unfold leaving
  refine wpAny_bind (note_any ok he st x (fun h₁ P₁ x₁ => ?_) ok.frames)
  exact set_flight (fr := none) P₁.st x₁ fun h₂ P₂ x₂ => h h₂ (P₁.trans P₂) x₂
end
end Mine
namespace Mine
open PySem PySem.W PySem.Calls PySem.Spec PyProof.Rows
section
variable {X : Cx} {n : Nat} {σ : S} {E : Value → S → Prop}
noncomputable def Cx.into (X : Cx) (A' : Around) (fd : FuncData) (f L : Addr) : Cx :=
  { X with A := A'.deeper (callEnv fd L f), env := callEnv fd L f, fenv := callEnv fd L f, L := L, outer := X.fenv :: X.outer }
structure FnIs (K : Frag) (f : Addr) (fd : FuncData) (body : List Stmt) : Prop where
  at_ : ∃ oc od osl, K.lookup f = some ⟨oc, od, .func fd, osl⟩
  code : codeIn K fd.code fd.qualname = true
  body : fd.body = .stmts body
  glob : fd.globals = mainGlobals
  bult : fd.builtins = builtinsNs
  kind : fd.scope.kind = .function
  co : fd.scope.isCoroutine = false
  gen : fd.scope.isGenerator = false
  cell : ∀ x ∈ fd.scope.names, x.2 ≠ .cell
structure Under (X : Cx) (A' : Around) : Prop where
  frames : A'.frames = X.A.frames
  depth : A'.depth ≤ X.A.depth + 1
  units : A'.units ≤ X.A.units + 10
  handled : A'.handled = X.A.handled
theorem Under.self : Under X X.A := ⟨rfl, Nat.le_succ _, Nat.le_add_right _ _, rfl⟩
theorem ok_into {A' : Around} {fd : FuncData} {f L : Addr} {body : List Stmt} (ok : Ok X (n + 1)) (hf : FnIs X.K f fd body) (hA : Under X A') (hL : X.base.objs.size ≤ L) (hp : L ∉ X.prot) : Ok (X.into A' fd f L) n where
  inK := ok.inK
  top := ok.top
  frames := Around.frames_deeper (hA.frames.trans ok.frames)
  frame := rfl
  eframe := rfl
  kind := hf.kind
  genv := hf.glob
  benv := hf.bult
  above := hL
  locProt := hp
  handled := hA.handled.trans ok.handled
  ctxIn := ok.ctxIn
  depth := by
    have := ok.depth
    have := hA.depth
    show A'.depth + 1 + 2 * n + 8 < _
    omega
  units := by
    have := ok.units
    have := hA.units
    show A'.units + 3 + 20 * n + 300 < _
    omega
theorem enter {A' : Around} {fd : FuncData} {f : Addr} {body : List Stmt} {s : Shared} {h₀ : Heap} {m : Str → Option Value} {loc0 : List (Str × V)} (hf : FnIs X.K f fd body) (st : St X σ s.heap) (hn : h₀.Ns s.heap.objs.size m) (k : ∀ b o, s.heap.get? b = some o → h₀.get? b = some o)
    (hm : ∀ x d, lk loc0 x = some d → ∃ v, m x = some v ∧ VM σ.mu s.heap v d) : St (X.into A' fd f s.heap.objs.size) ⟨loc0, σ.hp⟩ h₀ := by
  have x : Ext X.env.locals X.prot σ.mu s.heap σ.mu h₀ := Ext.keeps st.protOff k
  have bn : X.base.get? s.heap.objs.size = none := by
    cases q : X.base.get? s.heap.objs.size with
    | none => rfl
    | some o => exact absurd (Heap.lt_size (st.base _ o q)) (Nat.lt_irrefl _)
  refine ⟨fun b o e => k b o (st.base b o e), ⟨m, hn, fun y d e => let ⟨v, q, r⟩ := hm y d e; ⟨v, q, r.mono x⟩⟩, fun a o e => ?_, new_off (σ := σ) st, fun a ha => ?_, fun e he => ?_⟩
  · obtain ⟨y, z⟩ := st.own a o e
    obtain ⟨ob, g⟩ := y.there
    exact ⟨y.mono x ((k a ob g).trans g.symm), z⟩
  · obtain ⟨z, o, vs, g, d⟩ := st.prot a ha
    exact ⟨z, o, vs, k a o g, d⟩
  · rcases List.mem_cons.mp he with rfl | he
    · obtain ⟨o, es, ep, g, d, _⟩ := hn
      exact ⟨by show fd.scope.kind ≠ .module; rw [hf.kind]; decide, _, o, es, ep, rfl, bn, new_off (σ := σ) st, g, d⟩
    · obtain ⟨z, L, o, es, ep, hfr, hb, hmu, g, d⟩ := st.frs e he
      exact ⟨z, L, o, es, ep, hfr, hb, hmu, k L o g, d⟩
theorem post_back {A' : Around} {fd : FuncData} {f : Addr} {s s' : Shared} {h₀ : Heap} {loc0 : List (Str × V)} {tk : Nat} {σ' : S} (st : St X σ s.heap) (k : ∀ b o, s.heap.get? b = some o → h₀.get? b = some o)
    (P : Post (X.into A' fd f s.heap.objs.size) ⟨loc0, σ.hp⟩ { s with heap := h₀, toks := tk } σ' s') : Post X σ s ⟨σ.loc, σ'.hp⟩ s' := by
  obtain ⟨h', tk', e⟩ := P.upd
  have lt : ∀ a o, s.heap.get? a = some o → a ≠ s.heap.objs.size := fun a o g => Nat.ne_of_lt (Heap.lt_size g)
  have x : Ext X.env.locals X.prot σ.mu s.heap σ'.mu s'.heap := ⟨fun a o g nm q => P.ext.seq a o (k a o g) nm q, fun a o g nm l q => P.ext.obj a o (k a o g) nm (lt a o g) q, fun a ha o g => P.ext.watch a ha o (k a o g)⟩
  refine ⟨⟨h', tk', e⟩, x, ⟨P.st.base, ?_, P.st.own, ?_, P.st.prot, fun e he => P.st.frs e (.tail _ he)⟩⟩
  · obtain ⟨m, hn, hm⟩ := st.names
    obtain ⟨o, es, ep, g, d, r⟩ := hn
    obtain ⟨_, sl, g'⟩ := P.ext.obj _ o (k _ o g) st.locOff (lt _ o g) fun vs q => by rw [d] at q; cases q
    exact ⟨m, ⟨_, es, ep, g', d, r⟩, fun y d e => let ⟨v, q, r⟩ := hm y d e; ⟨v, q, r.mono x⟩⟩
  · obtain ⟨m, ⟨o, es, ep, g, d, r⟩, hm⟩ := st.names
    exact (P.ext.obj _ o (k _ o g) st.locOff (lt _ o g) fun vs q => by rw [d] at q; cases q).1
noncomputable def retV : FV → V
  | .ret d => d
  | _ => .none
theorem code_fn {fd : FuncData} {f : Addr} {body : List Stmt} {A' : Around} {R : Result → Shared → Prop} {s : Shared} {args : Args} {binds : List (Str × Value)} {loc0 : List (Str × V)} {Qb : FV → S → Prop} {Eb : Value → S → Prop}
    (ok : Ok X (n + 1)) (hf : FnIs X.K f fd body) (hA : Under X A') (st : St X σ s.heap) (hb : BindsTo s fd args binds) (hl : ∀ y ∈ binds, fd.scope.names.lookup y.1 = some .local)
    (hm : ∀ x d, lk loc0 x = some d → ∃ v, binds.reverse.lookup x = some v ∧ VM σ.mu s.heap v d)
    (h : ∀ L, Ok (X.into A' fd f L) n → WXs (X.into A' fd f L) body ⟨loc0, σ.hp⟩ Qb Eb)
    (ret : ∀ v s' fl σ', Post X σ s ⟨σ.loc, σ'.hp⟩ s' → VM σ'.mu s'.heap v (retV fl) → Qb fl σ' → R (.ok (.ret v)) s')
    (exc : ∀ e s' cls σ', Post X σ s ⟨σ.loc, σ'.hp⟩ s' → ExcAt X σ'.mu s'.heap e cls → Eb cls σ' → R (.error (.ref e)) s') : codeAny (model X.prog X.w) A' (.call (.ref f) args) R s := by
  obtain ⟨oc, od, osl, hat⟩ := hf.at_
  have inK := ok.inK.keeps st.base
  have hroom : A'.depth < recursionLimit := by have := ok.depth; have := hA.depth; omega
  refine codeAny_call_def (fd := fd) (body := body) (binds := binds) hroom (inK _ _ hat) rfl (ok.top.nolimit.keeps st.base) (codeRec_of inK hf.code) hf.body hb hf.cell hl (fun h₀ hn hk => ?_) hf.co hf.gen hf.kind
  have bL : X.base.objs.size ≤ s.heap.objs.size := by
    obtain ⟨m, hn, _⟩ := st.names
    exact Nat.le_trans ok.above (Nat.le_of_lt hn.lt)
  have pL : s.heap.objs.size ∉ X.prot := fun hp => by
    obtain ⟨_, o, vs, g, _⟩ := st.prot _ hp
    exact absurd (Heap.lt_size g) (Nat.lt_irrefl _)
  have ok' := ok_into (L := s.heap.objs.size) ok hf hA bL pL
  have st' := enter (A' := A') hf st hn hk hm
  refine wpAny_mono (h s.heap.objs.size ok' _ st') (fun fl s' q => ?_) fun e s' q => ?_
  · obtain ⟨g, σ', P, r, q⟩ := q
    have P' := post_back st hk P
    refine ret _ s' g σ' P' ?_ q
    cases fl <;> cases g <;> first | exact r.elim | exact VM.none | exact r
  · obtain ⟨ea, cls, σ', P, rfl, x, q⟩ := q
    refine leave_any ok' rfl P.st x fun h' P₂ x₂ => ?_
    have P' := post_back st hk (P.trans P₂)
    refine exc ea _ cls σ' P' ?_ q
    obtain ⟨a, b, oe, vs, a0, T, oT, ts, g, c, d, v0, v1, bT, pT, ne, gT, dT, v3⟩ := x₂
    exact ⟨a, b, oe, vs, a0, g, c, d, v0, .inr ⟨T, oT, ts, v1, bT, pT, ne, gT, dT, .inl v3⟩⟩
noncomputable def Call (X : Cx) (f : Value) (ds : List V) (σ : S) (Q : V → S → Prop) (E : Value → S → Prop) : Prop :=
  ∀ vs s, St X σ s.heap → VMs σ.mu s.heap vs ds → wpAny (model X.prog X.w) X.A (call f vs) (Qw X σ s VM Q) (Ew X σ s E) s
theorem Call.fn {fd : FuncData} {f : Addr} {body : List Stmt} {ds : List V} {loc0 : List (Str × V)} {Q : V → S → Prop} (ok : Ok X (n + 1)) (hf : FnIs X.K f fd body)
    (hb : ∀ vs s, St X σ s.heap → VMs σ.mu s.heap vs ds → ∃ binds, BindsTo s fd ⟨vs, []⟩ binds ∧ (∀ y ∈ binds, fd.scope.names.lookup y.1 = some .local) ∧ (∀ x d, lk loc0 x = some d → ∃ v, binds.reverse.lookup x = some v ∧ VM σ.mu s.heap v d))
    (h : ∀ L, Ok (X.into X.A fd f L) n → WXs (X.into X.A fd f L) body ⟨loc0, σ.hp⟩ (fun fl σ' => Q (retV fl) ⟨σ.loc, σ'.hp⟩) (fun c σ' => E c ⟨σ.loc, σ'.hp⟩)) : Call X (.ref f) ds σ Q E := by
  intro vs s st vm
  obtain ⟨binds, h1, h2, h3⟩ := hb vs s st vm
  refine wpAny_call (code_fn ok hf Under.self st h1 h2 h3 h (fun v s' fl σ' P r q => ?_) fun e s' cls σ' P x q => ?_)
  · exact ⟨retV fl, _, P, r, q⟩
  · exact ⟨e, cls, _, P, rfl, x, q⟩
theorem binds_place {fd : FuncData} {names : List Str} {ds : List V} {mu : Addr → Prop} {s : Shared} (hb : ∀ vs : List Value, vs.length = names.length → BindsTo s fd ⟨vs, []⟩ (names.zip vs)) (hl : (names.all fun x => fd.scope.names.lookup x == some .local) = true) (hn : names.Nodup) (hlen : ds.length = names.length)
    {vs : List Value} (vm : VMs mu s.heap vs ds) : ∃ binds, BindsTo s fd ⟨vs, []⟩ binds ∧ (∀ y ∈ binds, fd.scope.names.lookup y.1 = some .local) ∧ (∀ x d, lk (names.zip ds) x = some d → ∃ v, binds.reverse.lookup x = some v ∧ VM mu s.heap v d) := by
  refine ⟨names.zip vs, hb vs (vm.length.trans hlen), fun y hy => ?_, fun x d e => ?_⟩
  · have := List.all_eq_true.mp hl y.1 (List.of_mem_zip hy).1
    simpa using this
  · have rev : ∀ (l : List (Str × Value)), (l.map (·.1)).Nodup → ∀ x v, (x, v) ∈ l → l.reverse.lookup x = some v := by
      intro l hnd x v hm
      have hnd' : ((l.reverse).map (·.1)).Nodup := by rw [List.map_reverse]; exact (List.reverse_perm _).nodup_iff.mpr hnd
      have hm' : (x, v) ∈ l.reverse := List.mem_reverse.mpr hm
      generalize l.reverse = r at hnd' hm'
      induction r with
      | nil => cases hm'
      | cons p r ih =>
        rw [List.map_cons, List.nodup_cons] at hnd'
        rcases List.mem_cons.mp hm' with rfl | hm'
        · simp [List.lookup]
        · have : x ≠ p.1 := fun q => hnd'.1 (q ▸ List.mem_map.mpr ⟨(x, v), hm', rfl⟩)
          rw [List.lookup_cons, show (x == p.1) = false from by simpa using this]
          exact ih hnd'.2 hm'
    have key : ∀ (ns : List Str) (vs : List Value) (ds : List V), VMs mu s.heap vs ds → ns.length = ds.length → lk (ns.zip ds) x = some d → ∃ v, (x, v) ∈ ns.zip vs ∧ VM mu s.heap v d := by
      intro ns
      induction ns with
      | nil => intro vs ds _ _ e; simp [lk] at e
      | cons y ns ih =>
        intro vs ds vm hl e
        cases vm with
        | nil => simp at hl
        | @cons v vs d' ds a r =>
          by_cases q : x = y
          · subst q
            simp [lk, List.lookup] at e
            subst e
            exact ⟨v, by simp, a⟩
          · have e' : lk (ns.zip ds) x = some d := by
              simp only [lk, List.zip_cons_cons, List.lookup_cons, show (x == y) = false from by simpa using q] at e
              exact e
            obtain ⟨w, hm, wm⟩ := ih vs ds r (by simpa using hl) e'
            exact ⟨w, by simp [hm], wm⟩
    obtain ⟨v, hm, wm⟩ := key names vs ds vm hlen.symm e
    refine ⟨v, rev _ ?_ x v hm, wm⟩
    rw [List.map_fst_zip (by rw [vm.length, hlen]; exact Nat.le_refl _)]
    exact hn
noncomputable def Keeps (X : Cx) (f : Value) : Prop := ∀ h, X.K.In h → ∃ k, (k = Keeper.frame ∨ k = Keeper.machine ∨ k = Keeper.boundFrame) ∧ Looks (model X.prog X.w) h (keeperOf f) k
theorem keeps_of {f : Value} (e : keepIn X.K f = true) : Keeps X f := fun h x => keeps_K e h x
theorem keeps_builtin {id : String} : Keeps X (.builtin id) := fun _ _ => ⟨.machine, .inr (.inl rfl), Looks.of_pure rfl⟩
theorem keeps_type {id : String} : Keeps X (.type id) := fun _ _ => ⟨.machine, .inr (.inl rfl), Looks.of_pure rfl⟩
theorem call_with {pos : Pos} {f : Value} {first : List Value} {fd : List V} {trees : List (Bool × Sem Value)} {Q : V → S → Prop} (ok : Ok X n) (hk : Keeps X f) (hplain : trees.any (·.1) = false)
    (h : W X (spliced trees) VMs σ (fun ds σ₂ => Call X f (fd ++ ds) σ₂ Q E) E) {σ₀ : S} {s₀ s : Shared} (P : Post X σ₀ s₀ σ s) (fm : VMs σ.mu s.heap first fd) :
    wpAny (model X.prog X.w) X.A (callWith pos f first trees []) (Qw X σ₀ s₀ VM Q) (Ew X σ₀ s₀ E) s := by
  have fin : ∀ {A : Around}, A = X.A → wpAny (model X.prog X.w) A (evalArgs f true trees []) (fun a s₁ => X.K.In s₁.heap ∧ wpAny (model X.prog X.w) A (call f (first ++ a.pos) a.kw) (Qw X σ₀ s₀ VM Q) (Ew X σ₀ s₀ E) s₁) (Ew X σ₀ s₀ E) s := by
    rintro A rfl
    have main : wpAny (model X.prog X.w) X.A (spliced trees) (fun vs s₁ => X.K.In s₁.heap ∧ wpAny (model X.prog X.w) X.A (call f (first ++ vs) []) (Qw X σ₀ s₀ VM Q) (Ew X σ₀ s₀ E) s₁) (Ew X σ₀ s₀ E) s :=
      h.run P fun vs s₁ ds σ₁ p₁ P₁ vm c => ⟨P₁.st.inK ok, wpAny_mono (c _ s₁ P₁.st ((fm.mono p₁.ext).append vm)) (fun _ _ q => q.after P₁) fun _ _ q => q.after P₁⟩
    cases trees with
    | nil =>
      unfold evalArgs
      show wpAny _ _ (spliced [] >>= _) _ _ s
      refine wpAny_bind (wpAny_mono main (fun vs s' h' => ?_) fun _ _ x => x)
      refine wpAny_holding ?_
      exact wpAny_bind (wpAny_pure (wpAny_bind (wpAny_pure (wpAny_pure h'))))
    | cons t r =>
      obtain ⟨b, t⟩ := t
      cases b
      · exact evalArgs_plain main
      · simp at hplain
  exact callWith_of (P := X.K.In) (by rw [hplain]; rfl) hk (fin rfl)
theorem W_Call {x : Str} {np pos : Pos} {args : List Expr} {Q : V → S → Prop} (ok : Ok X n)
    (h : WE X (.Name x np) σ (fun f σ₁ => ∃ fv, f = .lit fv ∧ Keeps X fv ∧ W X (spliced (backTo pos (starEach args X.env))) VMs σ₁ (fun ds σ₂ => Call X fv ds σ₂ Q E) E) E)
    (hplain : ∀ env, (backTo pos (starEach args env)).any (·.1) = false) (hlit : ∀ {mu : Addr → Prop} {h : Heap} {v w : Value}, VM mu h v (.lit w) → v = w) : WE X (.Call (.Name x np) args [] pos) σ Q E := fun _ st =>
  wpAny_Call_NameR (h.run (Post.refl st) fun v s₁ f σ₁ _ P₁ vm h₁ => by
    obtain ⟨fv, rfl, hk, h₂⟩ := h₁
    cases hlit vm
    exact call_with (fd := []) ok hk (hplain _) h₂ P₁ .nil)
noncomputable def GetM (X : Cx) (a : V) (name : Str) (σ : S) (Q : Value → List V → S → Prop) (E : Value → S → Prop) : Prop :=
  ∀ v s pl, St X σ s.heap → VM σ.mu s.heap v a → wpAny (model X.prog X.w) X.A (getMethod v name pl) (fun r s' => ∃ ds σ', Post X σ s σ' s' ∧ VMs σ'.mu s'.heap r.2 ds ∧ Q r.1 ds σ') (Ew X σ s E) s
theorem W_Method {o : Expr} {name : Str} {apos pos : Pos} {args : List Expr} {Q : V → S → Prop} (ok : Ok X n)
    (h : WE X o σ (fun a σ₁ => GetM X a name σ₁ (fun f fd σ₂ => Keeps X f ∧ W X (spliced (backTo pos (starEach args X.env))) VMs σ₂ (fun ds σ₃ => Call X f (fd ++ ds) σ₃ Q E) E) E) E)
    (hbase : ∀ env, attributeBase o name env (eval o env) = eval o env)
    (hfew : ∀ env, ((backTo pos (starEach args env)).all (fun x => !x.1) && (backToKw pos (keywordEach [] env)).all (fun x => x.1.isSome)
      && decide (args.length + ([] : List Keyword).length + (if ([] : List Keyword).isEmpty then 0 else 1) < 30)) = true)
    (hline : (apos.endLine == pos.line) = true) (hplain : ∀ env, (backTo pos (starEach args env)).any (·.1) = false) : WE X (.Call (.Attribute o name apos) args [] pos) σ Q E := fun _ st => by
  rw [arm_eval_Call, hbase]
  refine wpAny_bind (h.run (Post.refl st) fun v s₁ a σ₁ _ P₁ vm h₁ => wpAny_bind (wpAny_standAt ?_))
  unfold methodCall calleeOf methodCallPos
  have e : methodCallForm (args.length + ([] : List Keyword).length) (backTo pos (starEach args X.env)) (backToKw pos (keywordEach [] X.env)) = true := hfew X.env
  rw [e]
  rw [if_pos rfl]
  dsimp only
  rw [hline]
  refine wpAny_bind (wpAny_holding (wpAny_mono (h₁ v s₁ _ P₁.st vm) (fun r s₂ q => ?_) fun _ _ q => q.after P₁))
  obtain ⟨ds, σ₂, P₂, rm, hk, h₃⟩ := q
  refine wpAny_bind (wpAny_pure ?_)
  exact call_with ok hk (hplain _) h₃ (P₁.trans P₂) rm
theorem getm_inst {a C dx f : Addr} {fs : List (Str × V)} {name : Str} {Q : Value → List V → S → Prop} (ok : Ok X n) (h1 : σ.hp a = some (.inst C dx)) (h2 : σ.hp dx = some (.dict fs)) (km : KMeth X.K C name f) (hd : lk fs name = none)
    (q : Q (.ref f) [.ref a] σ) : GetM X (.ref a) name σ Q E := by
  intro v s pl st vm
  cases vm
  obtain ⟨m, F, _⟩ := st.fr ok
  obtain ⟨es, k, I, en, _⟩ := inst_at st h1 h2
  exact method_inst F ok.inK I km.get km.cls km.fn (en.getL.2 hd) ⟨_, σ, Post.refl st, .cons (.ref a) .nil, q⟩
end
end Mine
namespace Mine
open PySem PySem.W PySem.Calls PySem.Spec PyProof.Rows
section
variable {X : Cx} {n : Nat} {σ : S} {E : Value → S → Prop}
noncomputable def Cx.mark (X : Cx) (e : Addr) (b : Bool) : Cx := { X with A := X.A.mark (some (.ref e)), prot := e :: X.prot, ctx := some (e, b) }
noncomputable def isB : Value → Bool
  | .type _ => true
  | _ => false
theorem st_mark {h : Heap} {e : Addr} {b : Bool} {o : Obj} {vs : Array Value} (st : St X σ h) (g : h.get? e = some o) (d : o.data = .fields vs) (hm : ¬ σ.mu e) (hb : b = true → vs[2]? = some .none) : St (X.mark e b) σ h := by
  refine ⟨st.base, st.names, st.own, st.locOff, fun a ha => ?_, st.frs⟩
  rcases List.mem_cons.mp ha with rfl | ha
  · exact ⟨hm, o, vs, g, d, fun q => hb (by cases q; rfl)⟩
  · obtain ⟨z, o', vs', g', d', c'⟩ := st.prot a ha
    refine ⟨z, o', vs', g', d', fun q => ?_⟩
    have q' : some (e, b) = some (a, true) := q
    cases q'
    rw [g] at g'
    cases g'
    rw [d] at d'
    cases d'
    exact hb rfl
theorem st_unmark {h h₀ : Heap} {e : Addr} {b : Bool} {σ₀ : S} (st : St (X.mark e b) σ h) (st₀ : St X σ₀ h₀) (w : ∀ a ∈ X.prot, ∀ o, h₀.get? a = some o → h.get? a = some o) : St X σ h :=
  ⟨st.base, st.names, st.own, st.locOff, fun a ha => by
    obtain ⟨z, _⟩ := st.prot a (.tail _ ha)
    obtain ⟨_, o, vs, g, r⟩ := st₀.prot a ha
    exact ⟨z, o, vs, w a ha o g, r⟩, st.frs⟩
theorem post_unmark {s s' : Shared} {σ' : S} {e : Addr} {b : Bool} (st : St X σ s.heap) (P : Post (X.mark e b) σ s σ' s') : Post X σ s σ' s' :=
  ⟨P.upd, ⟨P.ext.seq, P.ext.obj, fun a ha => P.ext.watch a (.tail _ ha)⟩, st_unmark P.st st fun a ha o g => (P.ext.watch a (.tail _ ha) o g).1⟩
theorem exc_unmark {mu : Addr → Prop} {h : Heap} {e e' : Addr} {b : Bool} {cls : Value} (x : ExcAt (X.mark e b) mu h e' cls) : ExcAt X mu h e' cls := by
  obtain ⟨a, pe, oe, vs, a0, g, c, d, v0, hx⟩ := x
  refine ⟨a, fun q => pe (.tail _ q), oe, vs, a0, g, c, d, v0, ?_⟩
  rcases hx with v1 | ⟨T, oT, ts, v1, bT, pT, r⟩
  · exact .inl v1
  · exact .inr ⟨T, oT, ts, v1, bT, (fun q => pT (.tail _ q)), r⟩
theorem ok_mark {e : Addr} {b : Bool} (ok : Ok X n) (he : e ≠ X.env.locals) : Ok (X.mark e b) n :=
  ⟨ok.inK, ok.top, ok.frames, ok.frame, ok.eframe, ok.kind, ok.genv, ok.benv, ok.above, (fun q => (List.mem_cons.mp q).elim (fun z => he z.symm) ok.locProt), rfl, (fun p q => by cases q; exact .head _), ok.depth, ok.units⟩
theorem came_back {s : Shared} {e : Addr} {cls : Value} (ok : Ok X n) (st : St X σ s.heap) (x : ExcTb X σ.mu s.heap e cls (rawInt X.L)) {σ₀ : S} {s₀ : Shared} (P : Post X σ₀ s₀ σ s) (q : E cls σ) :
    cameBackBy (model X.prog X.w) X.A X.env (Ew X σ₀ s₀ E) (.ref e) s := by
  have x' := x
  obtain ⟨be, pe, oe, vs, a0, T, oT, ts, g, c, d, v0, v1, bT, pT, ne, gT, dT, v3⟩ := x
  unfold cameBackBy
  refine wpAny_bind (wpAny_field g d v1 ?_)
  rw [if_neg (by simp)]
  rw [ok.eframe]
  exact set_flight (fr := some X.L) st x' fun h' P' x'' => ⟨e, cls, σ, P.trans P', rfl, x''.own, q⟩
theorem noted_back {s : Shared} {e : Addr} {cls : Value} (ok : Ok X n) (he : X.env = X.fenv) (st : St X σ s.heap) (x : ExcAt X σ.mu s.heap e cls) {σ₀ : S} {s₀ : Shared} (P : Post X σ₀ s₀ σ s) (q : E cls σ) {A : Around} (hA : A.frames = some (X.fenv :: X.outer)) :
    notedBy (model X.prog X.w) A X.env (cameBackBy (model X.prog X.w) X.A X.env (Ew X σ₀ s₀ E)) (.ref e) s := by
  unfold notedBy
  exact note_any ok he st x (fun h' P' x' => came_back ok P'.st x' (P.trans P') q) hA
noncomputable def Match (X : Cx) (cls c : Value) (b : Bool) : Prop := ∀ (A : Around) (s : Shared) (e : Addr) (oe : Obj) (Q : Bool → Shared → Prop) (E' : Value → Shared → Prop), X.K.In s.heap → s.heap.get? e = some oe → oe.cls = cls → Q b s → wpAny (model X.prog X.w) A (excMatches (.ref e) c) Q E' s
theorem match_builtin {T U : String} {b : Bool} (hexc : isSubtype (.type U) (.type "BaseException") = pure true) (hnt : isSubtype (.type ((Manifest.find? U).elim "type" fun x => x.metatype)) (.type "tuple") = pure false)
    (hsub : isSubtype (.type T) (.type U) = pure b) : Match X (.type T) (.type U) b := fun A s e oe Q E' _ g c q => wpAny_excMatches_type ⟨oe, g, c⟩ hexc hnt hsub q
theorem WX_Try {body hbody : List Stmt} {b₀ : Stmt} {t : Expr} {hp pos : Pos} {c : Value} {Q : FV → S → Prop} (ok : Ok X n) (he : X.env = X.fenv)
    (ht : ∀ (A : Around) (σ' : S) (s : Shared) (Q' : Value → Shared → Prop) (E' : Value → Shared → Prop), St X σ' s.heap → Q' c s → wpAny (model X.prog X.w) A (eval t X.env) Q' E' s)
    (h : WXs X body σ Q (fun cls σ' => ∃ b, Match X cls c b ∧ if b then ∀ e, Ok (X.mark e (isB cls)) n → WXs (X.mark e (isB cls)) (b₀ :: hbody) σ' Q E else E cls σ')) :
    WX X (.Try body [.ExceptHandler (some t) none (b₀ :: hbody) hp] [] [] pos) σ Q E := fun s st => by
  refine wpAny_Try_except (wpAny_mono (h s st) (fun f s₁ q => ?_) fun e s₁ q => ?_)
  · obtain ⟨g, σ₁, P₁, r, q⟩ := q
    cases f <;> cases g <;> first | exact r.elim | exact wpAny_execs_nil (⟨FV.next, σ₁, P₁, trivial, q⟩ : Qw X σ s FM Q Flow.next s₁) | exact ⟨_, _, P₁, r, q⟩
  · obtain ⟨ea, cls, σ₁, P₁, rfl, x, b, hm, q⟩ := q
    refine note_any ok he P₁.st x (fun h₂ P₂ x₂ => ?_) ok.frames
    refine set_flight (fr := none) P₂.st x₂ fun h₃ P₃ x₃ => ?_
    have P := (P₁.trans P₂).trans P₃
    have x₃' := x₃
    obtain ⟨be, pe, oe, vs, a0, T, oT, ts, g, cc, d, v0, v1, bT, pT, ne, gT, dT, v3⟩ := x₃
    refine wpAny_handleBy_cons (codeAny_handlers_test (ht _ σ₁ _ _ _ P₃.st ?_)) (by intro q; cases q)
    refine hm _ _ ea oe _ _ (P₃.st.inK ok) g cc ?_
    cases b
    · simp only [Bool.false_eq_true, if_false] at q ⊢
      refine wpAny_handleBy_nil ?_
      unfold PySem.passOn
      refine wpAny_bind (wpAny_field g d v1 ?_)
      rw [if_neg (by simp)]
      rw [ok.eframe]
      refine wpAny_bind (set_flight (fr := some X.L) P₃.st x₃' fun h₄ P₄ x₄ => wpAny_throw ?_)
      exact ⟨ea, cls, σ₁, P.trans P₄, rfl, x₄.own, q⟩
    · simp only [if_true] at q ⊢
      refine codeAny_handlers_suite ?_
      refine set_flight (fr := none) P₃.st x₃' fun h₄ P₄ x₄ => ?_
      have PP := P.trans P₄
      obtain ⟨bm', _, oe', vs', _, T', _, _, g', _, d', ⟨_, c0⟩, _⟩ := x₄
      have eL : ea ≠ X.env.locals := fun z => by
        obtain ⟨m, ⟨oL, es, ep, gL, dL, _⟩, _⟩ := P₄.st.names
        rw [← z] at gL
        have : some oe' = some oL := g'.symm.trans gL
        cases this
        rw [d'] at dL; cases dL
      refine wpAny_mono (q ea (ok_mark ok eL) _ (st_mark P₄.st g' d' bm'.2 fun z => c0 (by cases cls <;> first | exact ⟨_, rfl⟩ | cases z))) (fun f s₅ q => ?_) fun e' s₅ q => ?_
      · obtain ⟨gv, σ₅, P₅, r, q⟩ := q
        exact ⟨gv, σ₅, PP.trans (post_unmark P₄.st P₅), r, q⟩
      · obtain ⟨e₅, cls₅, σ₅, P₅, rfl, x₅, q⟩ := q
        exact noted_back ok he (post_unmark P₄.st P₅).st (exc_unmark x₅) (PP.trans (post_unmark P₄.st P₅)) q ok.frames
end
end Mine
namespace Mine
open PySem PySem.W PySem.Calls PySem.Spec PyProof.Rows
section
variable {X : Cx} {n : Nat} {σ : S} {E : Value → S → Prop}
theorem post_drop {s s' : Shared} {σ' : S} {hp : Addr → Option HO} {loc : List (Str × V)} (P : Post X σ s σ' s') (h : ∀ a o, hp a = some o → σ'.hp a = some o) (hl : ∀ x d, lk loc x = some d → lk σ'.loc x = some d) : Post X σ s ⟨loc, hp⟩ s' := by
  have nm : ∀ a, ¬ σ'.mu a → ¬ S.mu ⟨loc, hp⟩ a := fun a n m => by
    cases q : hp a with
    | none => exact m q
    | some o => exact n (by show σ'.hp a ≠ none; rw [h a o q]; exact Option.some_ne_none _)
  have x : Ext X.env.locals X.prot σ'.mu s'.heap (S.mu ⟨loc, hp⟩) s'.heap := ⟨fun a o e n _ => ⟨e, nm a n⟩, fun a o e n _ _ => ⟨nm a n, o.slots, e⟩, fun a ha _ e => ⟨e, nm a (P.st.protOff a ha)⟩⟩
  refine ⟨P.upd, P.ext.trans x, ⟨P.st.base, ?_, fun a o e => ?_, nm _ P.st.locOff, fun a ha => ⟨nm a (P.st.protOff a ha), (P.st.prot a ha).2⟩, fun e he => ?_⟩⟩
  · obtain ⟨m, hn, hm⟩ := P.st.names
    exact ⟨m, hn, fun y d e => let ⟨v, q, r⟩ := hm y d (hl y d e); ⟨v, q, r.mono x⟩⟩
  · obtain ⟨y, z⟩ := P.st.own a o (h a o e)
    exact ⟨y.mono x rfl, z⟩
  · obtain ⟨z, L, o, es, ep, hf, hn, hm, g, d⟩ := P.st.frs e he
    exact ⟨z, L, o, es, ep, hf, hn, nm L hm, g, d⟩
theorem vm_drop {σ' : S} {hp : Addr → Option HO} {loc : List (Str × V)} {h : Heap} {v : Value} {d : V} (y : VM σ'.mu h v d) (k : ∀ a o, hp a = some o → σ'.hp a = some o) : VM (S.mu ⟨loc, hp⟩) h v d := by
  refine y.mono (L := 0) (prot := []) ⟨fun a o e n _ => ⟨e, fun m => ?_⟩, fun a o e n _ _ => ⟨fun m => ?_, o.slots, e⟩, fun a ha => nomatch ha⟩ <;>
  · cases q : hp a with
    | none => exact m q
    | some o => exact n (by show σ'.hp a ≠ none; rw [k a o q]; exact Option.some_ne_none _)
structure KExc (K : Frag) (C : Addr) : Prop where
  cls : ∃ oc od cd sl, K.lookup C = some ⟨oc, od, .cls cd, sl⟩
  base : subIn K (.ref C) (.type "BaseException") = some true
  type : typeIn K (.ref C) = some (.type "type")
end
end Mine
namespace Mine
open PySem PySem.W PySem.Calls PySem.Spec PyProof.Rows Builtin Builtin.ObjectAttr
section
variable {X : Cx} {n : Nat} {σ : S} {E : Value → S → Prop}
structure KExcSet (K : Frag) (C : Addr) (name : Str) : Prop where
  set : findIn K (.ref C) "__setattr__" = some (some (.builtin "object.__setattr__"))
  cls : ∃ cd, clsIn K C = some cd ∧ cd.hasDict = true ∧ ∀ self, refuseLoop self "__setattr__" cd.mro = pure ()
  obj : mroIn K C (.type "object") = some true
  taker : takerIn K C name = some none
end
end Mine
namespace Mine
open PySem PySem.W PySem.Calls PySem.Spec PyProof.Rows Builtin Builtin.ObjectAttr Builtin.BaseException
section
variable {X : Cx} {n : Nat} {σ : S} {E : Value → S → Prop}
structure KSup (X : Cx) (fI C : Addr) (sf : Str) : Prop where
  func : X.env.func = some fI
  fd : ∃ oc od fd osl ar, X.K.lookup fI = some ⟨oc, od, .func fd, osl⟩ ∧ (fd.params.posonlyargs ++ fd.params.args).head? = some ar ∧ ar.arg = sf
  code : ∃ c oc od vs sl file tf, X.env.code = .ref c ∧ X.K.lookup c = some ⟨oc, od, .fields vs, sl⟩ ∧ vs[2]? = some (.str file tf) ∧ ((X.prog.main.file : Str) == file) = true
  top : (X.prog.main.scope.names.lookup ("super" : Str)).isSome = false
  super : X.env.kindOf "super" = some .globalImplicit
  cls : X.env.kindOf "__class__" = some .free
  cell : ∃ cc oc od sl, X.env.cells.lookup ("__class__" : Str) = some cc ∧ X.K.lookup cc = some ⟨oc, od, .cell (some (.ref C)), sl⟩
  glob : nsIn X.K mainGlobals "super" = some none
  boot : bootBuiltins "super" = some (.type "super")
  sub : mroIn X.K C (.ref C) = some true
  exc : mroIn X.K C (.type "Exception") = some true
  opaq : nsIn X.K cStatics "thirdparty.any" = some none
  selfLoc : X.env.kindOf sf = some .local
end
end Mine
namespace Mine
open PySem PySem.W PySem.Calls PySem.Spec PyProof.Rows
section
variable {X : Cx} {n : Nat} {σ : S} {E : Value → S → Prop}
theorem VM.strI {mu : Addr → Prop} {h : Heap} {v : Value} {l : List Nat} (x : VM mu h v (.str l)) : ∃ t, v = .str ⟨l.toArray⟩ t := by
  generalize e : V.str l = d at x
  cases x <;> cases e
  exact ⟨_, by rw [Array.toArray_toList]⟩
theorem VM.strE {mu : Addr → Prop} {h : Heap} {x : Str} {t : Tok} {l : List Nat} (e : x.cps.toList = l) : VM mu h (.str x t) (.str l) := e ▸ .str x t
theorem VM.litI {mu : Addr → Prop} {h : Heap} {v w : Value} (x : VM mu h v (.lit w)) : v = w := by cases x; rfl
theorem VM.tupI {mu : Addr → Prop} {h : Heap} {v : Value} {ds : List V} (x : VM mu h v (.tup ds)) : ∃ a o vs n, v = .ref a ∧ h.get? a = some o ∧ o.cls = .type "tuple" ∧ o.data = .seq vs.toArray n ∧ ¬ mu a ∧ VMs mu h vs ds := by
  generalize e : V.tup ds = d at x
  cases x <;> cases e
  exact ⟨_, _, _, _, rfl, by assumption, by assumption, by assumption, by assumption, by assumption⟩
theorem VM.lstI {mu : Addr → Prop} {h : Heap} {v : Value} {ds : List V} (x : VM mu h v (.lst ds)) : ∃ a o vs n, v = .ref a ∧ h.get? a = some o ∧ o.cls = .type "list" ∧ o.data = .seq vs.toArray n ∧ ¬ mu a ∧ VMs mu h vs ds := by
  generalize e : V.lst ds = d at x
  cases x <;> cases e
  exact ⟨_, _, _, _, rfl, by assumption, by assumption, by assumption, by assumption, by assumption⟩
section ops
variable {a b : Int} {x y : List Nat} {Q : V → S → Prop}
theorem o_addi (q : Q (.int (a + b)) σ) : Op2 X (binaryOp .Add) (.int a) (.int b) σ Q E := fun _ _ _ st va wb => by
  cases va; cases wb; exact PyProof.Rows.add_int (qw_same st _ (.int _ _) q)
theorem o_subi (q : Q (.int (a - b)) σ) : Op2 X (binaryOp .Sub) (.int a) (.int b) σ Q E := fun _ _ _ st va wb => by
  cases va; cases wb; exact PyProof.Rows.sub_int (qw_same st _ (.int _ _) q)
theorem o_negi {Q : V → S → Prop} (q : Q (.int (-a)) σ) : Op1 X (unaryOp .USub) (.int a) σ Q E := fun _ _ st va => by
  cases va; exact PyProof.Rows.neg_int (qw_same st _ (.int _ _) q)
theorem o_modi (hb : b ≠ 0) (q : Q (.int (a.fmod b)) σ) : Op2 X (binaryOp .Mod) (.int a) (.int b) σ Q E := fun _ _ _ st va wb => by
  cases va; cases wb; exact PyProof.Rows.mod_int' hb (qw_same st _ (.int _ _) q)
theorem o_iaddi (q : Q (.int (a + b)) σ) : Op2 X (inplaceOp .Add) (.int a) (.int b) σ Q E := fun _ _ _ st va wb => by
  cases va; cases wb; exact wpAny_iadd_int (qw_same st _ (.int _ _) q)
theorem o_eqi (q : Q (.bool (a == b)) σ) : Op2 X (compareOp .Eq) (.int a) (.int b) σ Q E := fun _ _ _ st va wb => by
  cases va; cases wb; exact PyProof.Rows.eq_int (qw_self st (.bool _) q)
theorem o_nei (q : Q (.bool (a != b)) σ) : Op2 X (compareOp .NotEq) (.int a) (.int b) σ Q E := fun _ _ _ st va wb => by
  cases va; cases wb; exact PyProof.Rows.ne_int (qw_self st (.bool _) q)
theorem catLen {x y : List Nat} (h : x.length + y.length ≤ 10000) : (⟨x.toArray⟩ : Str).length + (⟨y.toArray⟩ : Str).length ≤ sizeLine := by
  simp only [Str.length, List.size_toArray]; rw [sizeLine_eq]; omega
theorem cat_cps {x y : List Nat} : ((⟨x.toArray⟩ : Str) ++ (⟨y.toArray⟩ : Str)).cps.toList = x ++ y := by rw [PySem.Str.cps_append]; simp
theorem o_adds (h : x.length + y.length ≤ 10000) (q : Q (.str (x ++ y)) σ) : Op2 X (binaryOp .Add) (.str x) (.str y) σ Q E := fun _ _ _ st va wb => by
  obtain ⟨t, rfl⟩ := va.strI
  obtain ⟨u, rfl⟩ := wb.strI
  exact PyProof.Rows.add_str (fun t' tk => qw_same st _ (.strE cat_cps) q) (catLen h)
theorem o_iadds (h : x.length + y.length ≤ 10000) (q : Q (.str (x ++ y)) σ) : Op2 X (inplaceOp .Add) (.str x) (.str y) σ Q E := fun _ _ _ st va wb => by
  obtain ⟨t, rfl⟩ := va.strI
  obtain ⟨u, rfl⟩ := wb.strI
  exact SB.iadd (fun t' tk => qw_same st _ (.strE cat_cps) q) (catLen h)
theorem str_beq {x y : List Nat} : ((⟨x.toArray⟩ : Str) == ⟨y.toArray⟩) = (x == y) := by
  by_cases h : x = y
  · subst h; simp
  · have : (⟨x.toArray⟩ : Str) ≠ ⟨y.toArray⟩ := fun e => h (by have := congrArg (fun s => s.cps.toList) e; simpa using this)
    rw [beq_eq_false_iff_ne.mpr this, beq_eq_false_iff_ne.mpr h]
theorem o_eqs (q : Q (.bool (x == y)) σ) : Op2 X (compareOp .Eq) (.str x) (.str y) σ Q E := fun _ _ _ st va wb => by
  obtain ⟨t, rfl⟩ := va.strI
  obtain ⟨u, rfl⟩ := wb.strI
  exact PyProof.Rows.eq_str (qw_self st (.bool _) (by rw [str_beq]; exact q))
end ops
noncomputable def isN : V → Bool
  | .none => true
  | _ => false
noncomputable def known : V → Prop
  | .lit _ => False
  | _ => True
theorem isN_of {mu : Addr → Prop} {h : Heap} {v : Value} {d : V} (x : VM mu h v d) (k : known d) : (v == Value.none) = isN d := by
  cases x <;> first | rfl | exact k.elim
section ops
variable {d : V} {Q : V → S → Prop}
theorem o_isnone (k : known d) (q : Q (.bool (isN d)) σ) : Op2 X (compareOp .Is) d .none σ Q E := fun _ _ _ st va wb => by
  cases wb
  refine is_none_gen (qw_self st (.bool _) ?_)
  rw [isN_of va k]; exact q
theorem o_notnone (k : known d) (q : Q (.bool (!isN d)) σ) : Op2 X (compareOp .IsNot) d .none σ Q E := fun _ _ _ st va wb => by
  cases wb
  refine isnot_none_gen (qw_self st (.bool _) ?_)
  rw [isN_of va k]; exact q
end ops
section tr
variable {Q : Bool → S → Prop}
theorem t_bool {b : Bool} (q : Q b σ) : Tr X (.bool b) σ Q E := fun _ _ st va => by cases va; exact wpAny_truthy_bool (qw_self st rfl q)
theorem t_none (q : Q false σ) : Tr X .none σ Q E := fun _ _ st va => by cases va; exact wpAny_pure (qw_self st rfl q)
theorem t_str {x : List Nat} (h : x.length ≤ 10000) (q : Q (!x.isEmpty) σ) : Tr X (.str x) σ Q E := fun _ s st va => by
  obtain ⟨t, rfl⟩ := va.strI
  refine P.truthy_str (by simp only [Str.length, List.size_toArray]; omega) (qw_same st _ rfl ?_)
  have : (((⟨x.toArray⟩ : Str).length : Int) != 0) = !x.isEmpty := by cases x <;> simp [Str.length]; omega
  rw [this]; exact q
end tr
end
end Mine
namespace Mine
open PySem PySem.W PySem.Calls PySem.Spec PyProof.Rows
section
variable {X : Cx} {n : Nat} {σ : S} {E : Value → S → Prop}
section
open Builtin Builtin.Str
end
theorem VMs.consI {mu : Addr → Prop} {h : Heap} {vs : List Value} {d : V} {ds : List V} (x : VMs mu h vs (d :: ds)) : ∃ v ws, vs = v :: ws ∧ VM mu h v d ∧ VMs mu h ws ds := by cases x with | cons a b => exact ⟨_, _, rfl, a, b⟩
theorem VMs.one {mu : Addr → Prop} {h : Heap} {vs : List Value} {d : V} (x : VMs mu h vs [d]) : ∃ v, vs = [v] ∧ VM mu h v d := by
  obtain ⟨v, ws, rfl, a, r⟩ := x.consI; cases r; exact ⟨v, rfl, a⟩
theorem VMs.two {mu : Addr → Prop} {h : Heap} {vs : List Value} {d e : V} (x : VMs mu h vs [d, e]) : ∃ v w, vs = [v, w] ∧ VM mu h v d ∧ VM mu h w e := by
  obtain ⟨v, ws, rfl, a, r⟩ := x.consI; obtain ⟨w, rfl, b⟩ := r.one; exact ⟨v, w, rfl, a, b⟩
theorem VMs.three {mu : Addr → Prop} {h : Heap} {vs : List Value} {d e f : V} (x : VMs mu h vs [d, e, f]) : ∃ v w u, vs = [v, w, u] ∧ VM mu h v d ∧ VM mu h w e ∧ VM mu h u f := by
  obtain ⟨v, ws, rfl, a, r⟩ := x.consI; obtain ⟨w, u, rfl, b, c⟩ := r.two; exact ⟨v, w, u, rfl, a, b, c⟩
theorem gm_str {l : List Nat} {name : Str} {id : String} {Q : Value → List V → S → Prop} (slot : Slot "str" name id) (ty : typeOf (.builtin id) = pure (.type "method_descriptor")) (q : Q (.builtin id) [.str l] σ) : GetM X (.str l) name σ Q E := by
  intro v s pl st vm
  obtain ⟨t, rfl⟩ := vm.strI
  exact GM.of (.str _ t) (typeIs_str _ _ _) slot ty GM.noRef ⟨[.str l], σ, Post.refl st, .cons vm .nil, q⟩
section
variable {x y : List Nat} {Q : V → S → Prop}
theorem c_isstr (q : Q (.bool true) σ) : Call X (.builtin "isinstance") [.str x, .lit (.type "str")] σ Q E := fun vs s st vm => by
  obtain ⟨_, _, rfl, a, b⟩ := vm.two
  obtain ⟨t, rfl⟩ := a.strI
  cases b
  exact call_isinstance_yes (typeIs_str _ _ _) (by kernel_rfl) (by rw [isSubtype_type]; kernel_rfl) (qw_self st (.bool _) q)
theorem c_lens (h : x.length ≤ 10000) (q : Q (.int x.length) σ) : Call X (.builtin "len") [.str x] σ Q E := fun vs s st vm => by
  obtain ⟨_, rfl, a⟩ := vm.one
  obtain ⟨t, rfl⟩ := a.strI
  refine PyProof.Rows.len_str (by simp only [Str.length, List.size_toArray]; omega) (qw_same st _ ?_ q)
  have : ((⟨x.toArray⟩ : Str).length) = x.length := by simp [Str.length]
  rw [this]; exact .int _ _
end
end
end Mine
namespace Mine
open PySem PySem.W PySem.Calls PySem.Spec PyProof.Rows
section
variable {X : Cx} {n : Nat} {σ : S} {E : Value → S → Prop}
end
end Mine
namespace Mine
open PySem PySem.W PySem.Calls PySem.Spec PyProof.Rows
section
variable {X : Cx} {n : Nat} {σ : S} {E : Value → S → Prop}
structure KExcGet (K : Frag) (C : Addr) (name : Str) : Prop where
  ga : findIn K (.ref C) "__getattribute__" = some (some (.builtin "BaseException.__getattribute__"))
  hook : findIn K (.ref C) "__getattr__" = some none
  base : mroIn K C (.type "BaseException") = some true
  dict : hasDictIn K C = true
  cls : ∃ attr, findIn K (.ref C) name = some attr ∧ noGet K attr = true
noncomputable def SetA (X : Cx) (o : V) (attr : Str) (d : V) (σ : S) (Q : S → Prop) (E : Value → S → Prop) : Prop :=
  ∀ ov v s, St X σ s.heap → VM σ.mu s.heap ov o → VM σ.mu s.heap v d → wpAny (model X.prog X.w) X.A (setAttr ov attr v) (Qw X σ s RU (fun _ => Q)) (Ew X σ s E) s
theorem sa_inst {a C dx : Addr} {fs : List (Str × V)} {name : Str} {d : V} {Q : S → Prop} (ok : Ok X n) (h1 : σ.hp a = some (.inst C dx)) (h2 : σ.hp dx = some (.dict fs)) (ks : KSet X.K C name)
    (hlen : fs.length ≤ 90) (q : Q { σ with hp := upd σ.hp dx (.dict (updF fs name d)) }) : SetA X (.ref a) name d σ Q E := fun _ _ _ st om vm => by
  cases om
  exact set_field (Q := fun _ => Q) ok h1 h2 ks hlen q (Post.refl st) vm
theorem WX_SetAttr {e : Expr} {x attr : Str} {xp p' pos : Pos} {Q : FV → S → Prop}
    (h : WE X e σ (fun d σ₁ => WE X (.Name x xp) σ₁ (fun od σ₂ => SetA X od attr d σ₂ (Q .next) E) E) E)
    (hs : ∀ env, swapsWith e (some (.Attribute (.Name x xp) attr p')) pos.line env = pure false) : WX X (.Assign [.Attribute (.Name x xp) attr p'] e pos) σ Q E := fun _ st =>
  plainObj_wpAny_Assign_Attribute (h.run (Post.refl st) fun v s₁ d σ₁ _ P₁ vm h₁ => h₁.run P₁ fun ov s₂ od σ₂ p₂ P₂ om h₂ =>
    wpAny_mono (h₂ ov v s₂ P₂.st om (vm.mono p₂.ext)) (fun _ _ ⟨_, σ', P', _, q'⟩ => ⟨.next, σ', P₂.trans P', trivial, q'⟩) fun _ _ e => e.after P₂) (hs _)
end
end Mine
namespace Mine
open PySem PySem.W PySem.Calls PySem.Spec PyProof.Rows
section
variable {X : Cx} {n : Nat} {σ : S} {E : Value → S → Prop}
theorem under_tc (X : Cx) (C : Addr) (rest : List Value) : Under X (X.A.under (.builtin "type.__call__" ⟨.ref C :: rest, []⟩)) where
  frames := by
    show pushEnvs (Code.envs (.builtin "type.__call__" ⟨.ref C :: rest, []⟩)) X.A.frames = X.A.frames
    have e : Code.envs (.builtin "type.__call__" ⟨.ref C :: rest, []⟩) = [] := rfl
    rw [e]; rfl
  depth := by
    show X.A.depth + Code.weight (.builtin "type.__call__" ⟨.ref C :: rest, []⟩) ≤ _
    have e : Code.weight (.builtin "type.__call__" ⟨.ref C :: rest, []⟩) = 1 := rfl
    omega
  units := by
    show X.A.units + Code.cUnits (.builtin "type.__call__" ⟨.ref C :: rest, []⟩) ≤ _
    have e : Code.cUnits (.builtin "type.__call__" ⟨.ref C :: rest, []⟩) = 1 := rfl
    omega
  handled := rfl
structure KMakeExc (K : Frag) (C fI : Addr) : Prop where
  call : specialIn K (.ref C) "__call__" = some (some (.builtin "type.__call__"))
  type : instIn K (.ref C) (.type "type") = some true
  self : subIn K (.ref C) (.ref C) = some true
  init : findIn K (.ref C) "__init__" = some (some (.ref fI))
  fn : typeIn K (.ref fI) = some (.type "function")
structure KMake (K : Frag) (C fI : Addr) : Prop where
  makes : makesIn K C = true
  init : findIn K (.ref C) "__init__" = some (some (.ref fI))
  fn : typeIn K (.ref fI) = some (.type "function")
theorem Call.make {fI C : Addr} {fd : FuncData} {body : List Stmt} {ds : List V} {loc0 : Addr → List (Str × V)} {Q : V → S → Prop}
    (ok : Ok X (n + 1)) (km : KMake X.K C fI) (hf : FnIs X.K fI fd body)
    (hb : ∀ a vs s (mu : Addr → Prop), X.K.In s.heap → VMs mu s.heap vs (.ref a :: ds) → ∃ binds, BindsTo s fd ⟨vs, []⟩ binds ∧ (∀ y ∈ binds, fd.scope.names.lookup y.1 = some .local) ∧ (∀ x d, lk (loc0 a) x = some d → ∃ v, binds.reverse.lookup x = some v ∧ VM mu s.heap v d))
    (h : ∀ A' a dx L, Under X A' → σ.hp a = none → σ.hp dx = none → a ≠ dx → Ok (X.into A' fd fI L) n → WXs (X.into A' fd fI L) body ⟨loc0 a, upd (upd σ.hp dx (.dict [])) a (.inst C dx)⟩ (fun fl σ' => retV fl = .none ∧ Q (.ref a) ⟨σ.loc, σ'.hp⟩) (fun c σ' => E c ⟨σ.loc, σ'.hp⟩)) : Call X (.ref C) ds σ Q E := by
  intro vs s st vm
  obtain ⟨hh, gn, dr, tk, os⟩ := s
  have inK := st.inK ok
  have n0 := new_none st
  have P₁ := post_write (h' := hh.push emptyDict) (tk := tk) (a := hh.objs.size) (o := .dict []) ok st (fun b o _ _ e => Heap.get?_push_of_some _ e) (by obtain ⟨m, hn, hm⟩ := st.names; exact ⟨m, hn.push _, hm⟩) (.inr (Heap.get?_none_of_le (Nat.le_refl _)))
    fun _ _ _ => ⟨[], 0, Heap.get?_push_size _ rfl, .nil, by decide⟩
  have nn := new_none P₁.st
  have P₂ := post_write (h' := (hh.push emptyDict).push (instObj C hh.objs.size)) (tk := tk) (a := hh.objs.size + 1) (o := .inst C hh.objs.size) ok P₁.st
    (fun b o _ _ e => Heap.get?_push_of_some _ e) (by obtain ⟨m, hn, hm⟩ := P₁.st.names; exact ⟨m, hn.push _, hm⟩) (.inr (by have := Heap.get?_none_of_le (h := hh.push emptyDict) (Nat.le_refl _); rwa [Heap.size_push] at this))
    fun _ _ _ => (by show Heap.get? _ _ = _; heap_get)
  have PP := P₁.trans P₂
  refine wpAny_call (make_core (makes_of inK km.makes) (looks_findIn inK km.init) (fun self => bind_fn inK self km.fn) (.inl rfl) ?_)
  have vm' : VMs (S.mu { σ with hp := upd (upd σ.hp hh.objs.size (.dict [])) (hh.objs.size + 1) (.inst C hh.objs.size) }) ((hh.push emptyDict).push (instObj C hh.objs.size)) (.ref (hh.objs.size + 1) :: vs) (.ref (hh.objs.size + 1) :: ds) := .cons (.ref _) (vm.mono PP.ext)
  obtain ⟨binds, b1, b2, b3⟩ := hb (hh.objs.size + 1) _ ⟨(hh.push emptyDict).push (instObj C hh.objs.size), gn, dr, tk, os⟩ _ (P₂.st.inK ok) vm'
  have nn' : σ.hp (hh.objs.size + 1) = none := by
    rw [Heap.size_push] at nn
    have : upd σ.hp hh.objs.size (.dict []) (hh.objs.size + 1) = none := nn
    rwa [upd_ne (Nat.succ_ne_self _)] at this
  refine code_fn (σ := { σ with hp := upd (upd σ.hp hh.objs.size (.dict [])) (hh.objs.size + 1) (.inst C hh.objs.size) }) ok hf (under_tc X C vs) P₂.st b1 b2 b3 (fun L ok' => h _ _ _ L (under_tc X C vs) nn' n0 (Nat.succ_ne_self _) ok') (fun v s' fl σ' P r q => ?_) fun e s' cls σ' P x q => ?_
  · rw [q.1] at r
    cases r
    exact ⟨rfl, .ref _, _, PP.trans P, .ref _, q.2⟩
  · exact ⟨e, cls, _, PP.trans P, rfl, x, q⟩
end
end Mine
namespace Mine
open PySem PySem.W PySem.Calls PySem.Spec PyProof.Rows
section
variable {X : Cx} {n : Nat} {σ : S} {E : Value → S → Prop}
noncomputable def slc {α : Type} (l : List α) (lo hi : Option Int) : List α := (l.drop (kms_lo lo l.length)).take (kms_hi hi l.length - kms_lo lo l.length)
theorem clamp_neg {x : Int} {n : Nat} (h : x < 0) : max 0 (min (x + n) n) = ((n - (-x).toNat : Nat) : Int) := by omega
theorem clamp_pos {x : Int} {n : Nat} (h : ¬ x < 0) : max 0 (min x n) = ((min x.toNat n : Nat) : Int) := by omega
theorem idx_eq (lo hi : Option Int) (n : Nat) : Builtin.Str.strSliceIndices lo hi 1 n = (List.range (kms_hi hi n - kms_lo lo n)).map (kms_lo lo n + ·) := by
  unfold Builtin.Str.strSliceIndices
  have h1 : (1 : Int) > 0 := by decide
  simp only [h1, if_true]
  rw [← sliceRange_one]
  congr 1
  · cases lo with
    | none => rfl
    | some x =>
      by_cases h : x < 0
      · simp only [kms_lo, if_pos h]; exact clamp_neg h
      · simp only [kms_lo, if_neg h]; exact clamp_pos h
  · cases hi with
    | none => rfl
    | some x =>
      by_cases h : x < 0
      · simp only [kms_hi, if_pos h]; exact clamp_neg h
      · simp only [kms_hi, if_neg h]; exact clamp_pos h
theorem slice_eq (x : Str) (lo hi : Option Int) : (Txt.slice x lo hi).cps.toList = slc x.cps.toList lo hi := by
  unfold Txt.slice
  have hl : (Builtin.Str.strSliceIndices lo hi 1 x.length).length = kms_hi hi x.length - kms_lo lo x.length := by rw [idx_eq]; simp
  have hx : x.length = x.cps.toList.length := by rw [Array.length_toList]; rfl
  split
  · rename_i q
    simp only [beq_self_eq_true, Bool.true_and, beq_iff_eq] at q
    rw [hl] at q
    have hh : kms_hi hi x.length ≤ x.length := by unfold kms_hi; split <;> (try split) <;> omega
    unfold slc
    rw [← hx]
    have e0 : kms_lo lo x.length = 0 ∨ x.length = 0 := by omega
    rcases e0 with e0 | e0
    · rw [e0] at q ⊢
      rw [q, List.drop_zero, List.take_of_length_le (Nat.le_of_eq hx.symm)]
    · have : x.cps.toList = [] := List.length_eq_zero_iff.mp (hx ▸ e0)
      rw [this]; simp
  · show ((Builtin.Str.strSliceIndices lo hi 1 x.length).filterMap (x.cps[·]?)).toArray.toList = _
    rw [idx_eq, List.toList_toArray, pick_run]
    unfold slc
    rw [hx]
theorem slicePick_slc (items : Array Value) (lo hi : Option Int) : slicePick items lo hi none = (slc items.toList lo hi).toArray := kms_pick_eq items lo hi
inductive IsP : V → Option Int → Prop
  | none : IsP .none none
  | int (i : Int) : IsP (.int i) (some i)
noncomputable abbrev WP (X : Cx) (x : Option Expr) (σ : S) (Q : V → S → Prop) (E : Value → S → Prop) : Prop := W X (evalPart x X.env) VM σ Q E
theorem WP_none {Q : V → S → Prop} (q : Q .none σ) : WP X none σ Q E := fun _ st => evalPart_none_step (qw_self st .none q)
theorem WP_some {e : Expr} {Q : V → S → Prop} (h : WE X e σ Q E) : WP X (some e) σ Q E := fun s st => evalPart_some_step (h s st)
theorem keptAll {h₀ : Heap} : KeptH (fun h => ∀ b o, h₀.get? b = some o → h.get? b = some o) := fun _ ob F b o e => Heap.get?_push_of_some ob (F b o e)
theorem W_SliceStr {value : Expr} {lower upper : Option Expr} {p pos : Pos} {Q : V → S → Prop}
    (h : WE X value σ (fun a σ₁ => WP X lower σ₁ (fun lo σ₂ => WP X upper σ₂ (fun hi σ₃ => ∃ l i j, a = .str l ∧ l.length ≤ 10000 ∧ IsP lo i ∧ IsP hi j ∧ Q (.str (slc l i j)) σ₃) E) E) E)
    (ht : ∀ x t r, letTemporaryGo value (.str x t) r = pure ()) :
    WE X (.Subscript value (.Slice lower upper none p) pos) σ Q E := fun s st => by
  refine Subscript_ (h.run (Post.refl st) fun v s₁ a σ₁ _ P₁ va h₁ => wpAny_Slice (h₁.run P₁ fun vl s₂ lo σ₂ p₂ P₂ vlo h₂ => h₂.run P₂ fun vu s₃ hi σ₃ p₃ P₃ vhi h₃ => ?_))
  obtain ⟨l, i, j, rfl, hlen, pi, pj, q⟩ := h₃
  obtain ⟨t, rfl⟩ := va.strI
  rw [evalPart_none]
  refine wpAny_pure ?_
  have hsz : (⟨l.toArray⟩ : Str).length ≤ sizeLine := by simp only [Str.length, List.size_toArray]; rw [sizeLine_eq]; omega
  have fin : ∀ h' t' k, (∀ b o, s₃.heap.get? b = some o → h'.get? b = some o) → Qw X σ s VM Q (.str (Txt.slice ⟨l.toArray⟩ i j) t') { s₃ with heap := h', toks := k } := fun h' t' k kk =>
    ⟨_, σ₃, P₃.trans (Post.keeps P₃.st h' k rfl kk), .strE (by rw [slice_eq]), q⟩
  cases pi <;> cases pj <;> cases vlo <;> cases vhi
  · exact tail_of_ItemOn (SBH.sliceItem_nn keptAll (fun _ _ e => e) fin hsz) (by with_unfolding_all rfl) (ht _ _)
  · exact tail_of_ItemOn (SBH.sliceItem_ns keptAll (fun _ _ e => e) fin hsz) (by with_unfolding_all rfl) (ht _ _)
  · exact tail_of_ItemOn (SBH.sliceItem_sn keptAll (fun _ _ e => e) fin hsz) (by with_unfolding_all rfl) (ht _ _)
  · exact tail_of_ItemOn (SBH.sliceItem_ss keptAll (fun _ _ e => e) fin hsz) (by with_unfolding_all rfl) (ht _ _)
theorem VMs.drop {mu : Addr → Prop} {h : Heap} {vs : List Value} {ds : List V} (x : VMs mu h vs ds) (k : Nat) : VMs mu h (vs.drop k) (ds.drop k) := by
  induction k generalizing vs ds with
  | zero => exact x
  | succ k ih => cases x with
    | nil => simp; exact .nil
    | cons a r => simpa using ih r
theorem VMs.take {mu : Addr → Prop} {h : Heap} {vs : List Value} {ds : List V} (x : VMs mu h vs ds) (k : Nat) : VMs mu h (vs.take k) (ds.take k) := by
  induction k generalizing vs ds with
  | zero => simp; exact .nil
  | succ k ih => cases x with
    | nil => simp; exact .nil
    | cons a r => simpa using .cons a (ih r)
theorem VMs.slc {mu : Addr → Prop} {h : Heap} {vs : List Value} {ds : List V} (x : VMs mu h vs ds) (lo hi : Option Int) : VMs mu h (slc vs lo hi) (slc ds lo hi) := by
  unfold Mine.slc
  rw [x.length]
  exact (x.drop _).take _
inductive Lst (σ : S) : V → List V → Prop
  | val (ds : List V) : Lst σ (.lst ds) ds
  | own (a : Addr) (ds : List V) (e : σ.hp a = some (.lst ds)) : Lst σ (.ref a) ds
theorem Lst.get {h : Heap} {v : Value} {d : V} {ds : List V} (l : Lst σ d ds) (st : St X σ h) (x : VM σ.mu h v d) : ∃ a o vs n, v = .ref a ∧ h.get? a = some o ∧ o.cls = .type "list" ∧ o.data = .seq vs.toArray n ∧ VMs σ.mu h vs ds := by
  cases l with
  | val => obtain ⟨a, o, vs, n, e, g, c, d, _, r⟩ := x.lstI; exact ⟨a, o, vs, n, e, g, c, d, r⟩
  | own a ds e =>
    cases x
    obtain ⟨⟨vs, n, g, r⟩, _⟩ := st.own a _ e
    exact ⟨a, _, vs, n, rfl, g, rfl, rfl, r⟩
theorem W_SliceLst {value : Expr} {lower upper : Option Expr} {p pos : Pos} {Q : V → S → Prop}
    (h : WE X value σ (fun a σ₁ => WP X lower σ₁ (fun lo σ₂ => WP X upper σ₂ (fun hi σ₃ => ∃ l i j, Lst σ₃ a l ∧ l.length ≤ 10000 ∧ IsP lo i ∧ IsP hi j ∧ Q (.lst (slc l i j)) σ₃) E) E) E)
    (ht : ∀ o r, letTemporaryGo value o r = pure ()) :
    WE X (.Subscript value (.Slice lower upper none p) pos) σ Q E := fun s st => by
  refine wpAny_Subscript_list_slice (h.run (Post.refl st) fun v s₁ a σ₁ _ P₁ va h₁ => h₁.run P₁ fun vl s₂ lo σ₂ p₂ P₂ vlo h₂ => h₂.run P₂ fun vu s₃ hi σ₃ p₃ P₃ vhi h₃ => ?_) ht
  obtain ⟨l, i, j, hll, hlen, pi, pj, q⟩ := h₃
  obtain ⟨b, o, vs, k, rfl, g, c, d, vm⟩ := hll.get P₃.st ((va.mono p₂.ext).mono p₃.ext)
  have ip : IsPart vl i := by cases pi <;> cases vlo <;> constructor
  have jp : IsPart vu j := by cases pj <;> cases vhi <;> constructor
  refine ⟨b, vs.toArray, i, j, rfl, ⟨o, g, c, k, d⟩, by rw [List.size_toArray, vm.length, sizeLine_eq]; omega, ip, jp, ?_⟩
  have P₄ := (st_push P₃.st { cls := .type "slice", data := .fields #[vl, vu, .none] })
  have P₅ := st_push P₄.st { cls := .type "list", data := .seq (slicePick vs.toArray i j none) }
  have PP := P₃.trans (P₄.trans P₅)
  have g5 := Heap.get?_push_size (s₃.heap.push { cls := .type "slice", data := .fields #[vl, vu, .none] }) (o := { cls := .type "list", data := .seq (slicePick vs.toArray i j none) }) rfl
  rw [Heap.size_push] at g5
  refine ⟨_, σ₃, PP, .lst g5 rfl (by rw [slicePick_slc]) (fun m => ?_) ((vm.mono (P₄.trans P₅).ext).slc i j), q⟩
  have := new_off P₄.st
  rw [Heap.size_push] at this
  exact this m
theorem W_Sub {value slice : Expr} {pos : Pos} {Q : V → S → Prop} (h : WE X value σ (fun a σ₁ => WE X slice σ₁ (fun b σ₂ => Op2 X (subscriptTail value slice) a b σ₂ Q E) E) E) : WE X (.Subscript value slice pos) σ Q E := fun _ st =>
  Subscript_ (h.run (Post.refl st) fun _ _ _ _ _ P₁ va h₁ => h₁.run P₁ fun _ _ _ _ p₂ P₂ vb h₂ => h₂.go P₂ (va.mono p₂.ext) vb)
theorem fits_ssize {i : Int} (h0 : -100000 ≤ i) (h : i ≤ 100000) : fitsSsize i = true := by unfold fitsSsize; simp; omega
theorem item_cps {l : List Nat} {k : Nat} {c : Nat} (e : l[k]? = some c) : (Txt.item ⟨l.toArray⟩ (k : Int)).cps.toList = [c] := by
  unfold Txt.item Txt.charAt seqIndex?
  have hk := (List.getElem?_eq_some_iff.mp e).1
  have e1 : ¬ ((k : Int) < 0) := by omega
  have e2 : (⟨l.toArray⟩ : Str).length = l.length := by simp [Str.length]
  simp [e1, e2, hk, e]
  obtain ⟨_, h2⟩ := List.getElem?_eq_some_iff.mp e
  exact h2
theorem new_exc {s : Shared} {h' : Heap} {tk : Nat} {e : Addr} {T : String} (st : St X σ s.heap) (N : Heap.NewExc s.heap h' e T) : Post X σ s σ { s with heap := h', toks := tk } ∧ ExcAt X σ.mu h' e (.type T) := by
  have P : Post X σ s σ { s with heap := h', toks := tk } := Post.keeps st h' tk rfl N.keeps
  obtain ⟨ob, t, g, c, d⟩ := N.there
  refine ⟨P, ⟨?_, fun m => ?_⟩, fun hp => ?_, ob, _, t, g, c, d, ⟨rfl, fun _ => rfl⟩, .inl rfl⟩
  · cases q : X.base.get? e with
    | none => rfl
    | some o => have := st.base e o q; rw [N.new] at this; cases this
  · cases q : σ.hp e with
    | none => exact m q
    | some o => obtain ⟨ob, g⟩ := (st.own e o q).1.there; rw [N.new] at g; cases g
  · obtain ⟨_, o, ws, g, _⟩ := st.prot e hp
    rw [N.new] at g; cases g
theorem s_strItem {l : List Nat} {k : Nat} {value slice : Expr} {Q : V → S → Prop} (ok : Ok X n) (hc : X.ctx = none) (hl : l.length ≤ 10000) (hk : k ≤ 10000) (q : match l[k]? with | some c => Q (.str [c]) σ | none => E (.type "IndexError") σ)
    (hs : ∀ x t i u, subscripted slice false (.str x t) (.int i u) = operate [.str x t, .int i u] (getItem (.str x t) (.int i u)))
    (ht : ∀ x t r, letTemporaryGo value (.str x t) r = pure ()) : Op2 X (subscriptTail value slice) (.str l) (.int k) σ Q E := fun v w s st va wb => by
  obtain ⟨t, rfl⟩ := va.strI
  cases wb
  have hlen : (⟨l.toArray⟩ : Str).length = l.length := by simp [Str.length]
  refine item_str_or (by rw [ok.handled, hc]; rfl) (fits_ssize (by omega) (by omega)) (fun ho h' tk e N => ?_) (fun h1 h2 => ?_) (hs _ _ _ _) (ht _ _)
  · rw [hlen] at ho
    have : l[k]? = none := List.getElem?_eq_none (by omega)
    rw [this] at q
    obtain ⟨P, x⟩ := new_exc (tk := tk) st N
    exact ⟨e, _, σ, P, rfl, x, q⟩
  · rw [hlen] at h2
    have hk' : k < l.length := by omega
    have e : l[k]? = some l[k] := List.getElem?_eq_getElem hk'
    rw [e] at q
    exact qw_same st _ (.strE (item_cps e)) q
end
end Mine
namespace Mine
open PySem PySem.W PySem.Calls PySem.Spec PyProof.Rows
section
variable {X : Cx} {n : Nat} {σ : S} {E : Value → S → Prop}
structure Sub (σ' σ : S) : Prop where
  loc : ∀ x d, lk σ'.loc x = some d → lk σ.loc x = some d
  hp : ∀ a o, σ'.hp a = some o → σ.hp a = some o
theorem Sub.post {σ' : S} {s : Shared} (u : Sub σ' σ) (st : St X σ s.heap) : Post X σ s σ' s := post_drop (Post.refl st) u.hp u.loc
theorem W.drop {α β : Type} {t : Sem α} {R : (Addr → Prop) → Heap → α → β → Prop} {Q : β → S → Prop} {σ' : S} (u : Sub σ' σ) (h : W X t R σ' Q E) : W X t R σ Q E := fun s st => h.go (u.post st)
theorem noted_Ew {σ₀ : S} {s₀ s : Shared} {e : Value} (ok : Ok X n) (he : X.env = X.fenv) (h : Ew X σ₀ s₀ E e s) : notedBy (model X.prog X.w) X.A X.env (fun e s' => cameBackBy (model X.prog X.w) X.A X.env (Ew X σ₀ s₀ E) e s') e s := by
  obtain ⟨ea, cls, σ', P, rfl, x, q⟩ := h
  exact noted_back ok he P.st x P q ok.frames
theorem WX_While {test : Expr} {body orelse : List Stmt} {pos : Pos} {Q : FV → S → Prop} (ok : Ok X n) (he : X.env = X.fenv) (I : Nat → S → Prop)
    (turn : ∀ k σ, I k σ → WT X test σ (fun b σ₁ => if b then WXs X body σ₁ (fun f σ₂ => match f with | .next => ∃ m, m < k ∧ I m σ₂ | .cont => ∃ m, m < k ∧ I m σ₂ | .brk => Q .next σ₂ | .ret d => Q (.ret d) σ₂) E else WXs X orelse σ₁ Q E) E)
    (k : Nat) (h : I k σ) : WX X (.While test body orelse pos) σ Q E := fun s st => by
  refine wpAny_While (codeAny_whileLoop (fun k s' => ∃ σ', Post X σ s σ' s' ∧ I k σ') (fun k s₁ hI => ?_) k ⟨σ, Post.refl st, h⟩)
  obtain ⟨σ₁, P₁, i₁⟩ := hI
  refine wpAny_mono ((turn k σ₁ i₁).run P₁ (Q' := fun b s₂ => if b then wpAny (model X.prog X.w) X.A (execs body X.env) (fun f s₃ => match f with
            | .next | .cont => ∃ m, m < k ∧ ∃ σ', Post X σ s σ' s₃ ∧ I m σ'
            | .brk => Qw X σ s FM Q .next s₃
            | .ret v => Qw X σ s FM Q (.ret v) s₃) (Ew X σ s E) s₂
        else wpAny (model X.prog X.w) X.A (execs orelse X.env) (fun f s₃ => Qw X σ s FM Q f s₃) (Ew X σ s E) s₂) fun b s₂ b' σ₂ _ P₂ e q => ?_) (fun b s₂ q => ?_) fun e s₂ q => noted_Ew ok he q
  · subst e
    cases b
    · simp only [Bool.false_eq_true, if_false] at q ⊢
      exact q.go P₂
    · simp only [if_true] at q ⊢
      refine q.run P₂ fun f s₃ g σ₃ _ P₃ r q => ?_
      cases f <;> cases g <;> first | exact r.elim | skip
      · obtain ⟨m, hm, im⟩ := q
        exact ⟨m, hm, σ₃, P₃, im⟩
      · exact ⟨FV.next, σ₃, P₃, trivial, q⟩
      · obtain ⟨m, hm, im⟩ := q
        exact ⟨m, hm, σ₃, P₃, im⟩
      · exact ⟨_, σ₃, P₃, r, q⟩
  · cases b
    · simp only [Bool.false_eq_true, if_false] at q ⊢
      exact wpAny_mono q (fun _ _ z => z) fun _ _ z => noted_Ew ok he z
    · simp only [if_true] at q ⊢
      exact wpAny_mono q (fun f _ z => by cases f <;> exact z) fun _ _ z => noted_Ew ok he z
inductive Iter (X : Cx) (σ : S) (h : Heap) (I : Addr) (n : Nat) (ds : Nat → V) : Prop
  | mk (fp wr : List Addr) (P : Nat → Value → Prop) (St : Nat → Heap → Prop) (hW : ∀ A' : Around, A'.handled = none → Walks X.prog X.w A' I fp wr n P St) (st0 : St 0 h) (hrec : ∀ i h', St i h' → ∀ b ∈ wr, ∃ o vs, h'.get? b = some o ∧ o.data = .fields vs)
    (hwr : ∀ b ∈ wr, X.base.get? b = none ∧ ¬ σ.mu b ∧ b ∉ X.prot) (hfp : ∀ b ∈ fp, b ∉ wr → ¬ σ.mu b ∧ ∃ o, h.get? b = some o ∧ isSeq o.data)
    (hvm : ∀ i v mu' h', i < n → P i v → SeqX σ.mu h mu' h' → VM mu' h' v (ds i))
noncomputable def Itb (X : Cx) (a : V) (σ : S) (n : Nat) (ds : Nat → V) : Prop := ∀ v s (Q : Value → Shared → Prop) (E' : Value → Shared → Prop), St X σ s.heap → VM σ.mu s.heap v a →
  (∀ I s', Post X σ s σ s' → Iter X σ s'.heap I n ds → Q (.ref I) s') → wpAny (model X.prog X.w) X.A (pyIter v) Q E' s
noncomputable def Cx.watch (X : Cx) (wr : List Addr) : Cx := { X with prot := wr ++ X.prot }
theorem ok_watch {wr : List Addr} (ok : Ok X n) (h : X.env.locals ∉ wr) : Ok (X.watch wr) n :=
  ⟨ok.inK, ok.top, ok.frames, ok.frame, ok.eframe, ok.kind, ok.genv, ok.benv, ok.above, (fun q => (List.mem_append.mp q).elim h ok.locProt), ok.handled, (fun p q => List.mem_append_right _ (ok.ctxIn p q)), ok.depth, ok.units⟩
theorem st_watch {h : Heap} {wr : List Addr} (hc : X.ctx = none) (st : St X σ h) (hw : ∀ b ∈ wr, ¬ σ.mu b ∧ ∃ o vs, h.get? b = some o ∧ o.data = .fields vs) : St (X.watch wr) σ h :=
  ⟨st.base, st.names, st.own, st.locOff, (fun a ha => (List.mem_append.mp ha).elim (fun q => let ⟨z, o, vs, g, d⟩ := hw a q; ⟨z, o, vs, g, d, fun e => by have e' : X.ctx = some (a, true) := e; rw [hc] at e'; cases e'⟩) fun q => st.prot a q), st.frs⟩
theorem st_unwatch {h : Heap} {wr : List Addr} (st : St (X.watch wr) σ h) : St X σ h := ⟨st.base, st.names, st.own, st.locOff, fun a ha => st.prot a (List.mem_append_right _ ha), st.frs⟩
theorem post_unwatch {s s' : Shared} {σ' : S} {wr : List Addr} (P : Post (X.watch wr) σ s σ' s') : Post X σ s σ' s' :=
  ⟨P.upd, ⟨P.ext.seq, P.ext.obj, fun a ha => P.ext.watch a (List.mem_append_right _ ha)⟩, st_unwatch P.st⟩
theorem exc_unwatch {mu : Addr → Prop} {h : Heap} {e : Addr} {wr : List Addr} {cls : Value} (x : ExcAt (X.watch wr) mu h e cls) : ExcAt X mu h e cls := by
  obtain ⟨a, pe, oe, vs, a0, g, c, d, v0, hx⟩ := x
  refine ⟨a, fun q => pe (List.mem_append_right _ q), oe, vs, a0, g, c, d, v0, ?_⟩
  rcases hx with v1 | ⟨T, oT, ts, v1, bT, pT, r⟩
  · exact .inl v1
  · exact .inr ⟨T, oT, ts, v1, bT, (fun q => pT (List.mem_append_right _ q)), r⟩
inductive ItAt (X : Cx) (σ : S) (s : Shared) (Q : Nat → (Nat → V) → S → Prop) (it : Value) (s₂ : Shared) : Prop
  | mk (I : Addr) (N : Nat) (ds : Nat → V) (σ₂ : S) (e : it = .ref I) (P : Post X σ s σ₂ s₂) (IT : Iter X σ₂ s₂.heap I N ds) (q : Q N ds σ₂)
noncomputable def WIt (X : Cx) (iter : Expr) (σ : S) (Q : Nat → (Nat → V) → S → Prop) (E : Value → S → Prop) : Prop :=
  ∀ s, St X σ s.heap → wpAny (model X.prog X.w) X.A (eval iter X.env) (fun x s₁ => wpAny (model X.prog X.w) X.A (pyIter x) (ItAt X σ s Q) (Ew X σ s E) s₁) (Ew X σ s E) s
theorem wit_val {iter : Expr} {Q : Nat → (Nat → V) → S → Prop} (h : WE X iter σ (fun a σ₁ => ∃ N ds, Itb X a σ₁ N ds ∧ Q N ds σ₁) E) : WIt X iter σ Q E := fun s st =>
  h.run (Post.refl st) fun v s₁ a σ₁ _ P₁ va ⟨N, ds, itb, q⟩ => itb v s₁ _ _ P₁.st va fun J s₂ P₂ IT => ⟨J, N, ds, σ₁, rfl, P₁.trans P₂, IT, q⟩
theorem new_facts {s : Shared} (st : St X σ s.heap) : X.base.get? s.heap.objs.size = none ∧ ¬ σ.mu s.heap.objs.size ∧ s.heap.objs.size ∉ X.prot := by
  refine ⟨?_, new_off st, fun hp => ?_⟩
  · cases q : X.base.get? s.heap.objs.size with
    | none => rfl
    | some o => exact absurd (Heap.lt_size (st.base _ o q)) (Nat.lt_irrefl _)
  · obtain ⟨_, o, vs, g, _⟩ := st.prot _ hp
    exact absurd (Heap.lt_size g) (Nat.lt_irrefl _)
theorem itb_lst {ds : List V} : Itb X (.lst ds) σ ds.length (fun i => ds.getD i .none) := fun v s Q E' st vm q => by
  obtain ⟨a, o, vs, n, rfl, g, c, d, nm, vms⟩ := vm.lstI
  refine wpAny_pyIter_list (items := vs.toArray) ⟨o, g, c, n, d⟩ (q _ _ (st_push st _) ?_)
  have P := st_push st { cls := .type "list_iterator", data := .fields #[.ref a, .int 0 0] }
  have ga := Heap.get?_push_of_some { cls := .type "list_iterator", data := .fields #[.ref a, .int 0 0] } g
  have ne : a ≠ s.heap.objs.size := Nat.ne_of_lt (Heap.lt_size g)
  have hsz : vs.toArray.size = ds.length := by rw [List.size_toArray, vms.length]
  refine ⟨[s.heap.objs.size, a], [s.heap.objs.size], fun i v => vs.toArray[i]? = some v, fun i h => h.IsListIter s.heap.objs.size a i ∧ h.IsList a vs.toArray, fun A' hA => by rw [← hsz]; exact Walks.list hA _ _ ne _, ⟨⟨_, Heap.get?_push_size _ rfl, rfl, rfl⟩, ⟨o, ga, c, n, d⟩⟩, fun i h' ⟨⟨o, g, c, d⟩, _⟩ b hb => ?_, fun b hb => ?_, fun b hb nb => ?_, fun i v mu' h' hi e x => ?_⟩
  · rw [List.mem_singleton.mp hb]; exact ⟨o, _, g, d⟩
  · rw [List.mem_singleton.mp hb]; exact new_facts st
  · rcases List.mem_cons.mp hb with rfl | hb
    · exact absurd (.head _) nb
    · rw [List.mem_singleton.mp hb]; exact ⟨nm, o, ga, by rw [d]; trivial⟩
  · have e' : vs[i]? = some v := by simpa using e
    obtain ⟨dv, e2, vm'⟩ := vms.get' e'
    have vm'' := (vm'.mono P.ext).monoS x
    show VM mu' h' v (ds.getD i .none)
    rw [List.getD_eq_getElem?_getD, e2]; exact vm''
end
end Mine
namespace Mine
open PySem PySem.W PySem.Calls PySem.Spec PyProof.Rows
section
variable {X : Cx} {n : Nat} {σ : S} {E : Value → S → Prop}
inductive IterT (X : Cx) (σ : S) (h : Heap) (I : Addr) (n : Nat) (d1 d2 : Nat → V) : Prop
  | mk (fp wr : List Addr) (Pt : Nat → Array Value → Prop) (SS : Nat → Heap → Prop) (Mid : Nat → Addr → Heap → Prop) (hW : ∀ A' : Around, A'.handled = none → WalksU X.prog X.w A' I fp wr n Pt SS Mid) (st0 : SS 0 h) (hrec : ∀ i h', SS i h' → ∀ b ∈ wr, ∃ o vs, h'.get? b = some o ∧ o.data = .fields vs)
    (hrec2 : ∀ i T h', Mid i T h' → ∀ b ∈ wr, ∃ o vs, h'.get? b = some o ∧ o.data = .fields vs)
    (hwr : ∀ b ∈ wr, X.base.get? b = none ∧ ¬ σ.mu b ∧ b ∉ X.prot) (hfp : ∀ b ∈ fp, b ∉ wr → ¬ σ.mu b ∧ ∃ o, h.get? b = some o ∧ isSeq o.data)
    (hvm : ∀ i vals mu' h', i < n → Pt i vals → SeqX σ.mu h mu' h' → ∃ v w, vals = #[v, w] ∧ VM mu' h' v (d1 i) ∧ VM mu' h' w (d2 i))
inductive ItAtT (X : Cx) (σ : S) (s : Shared) (Q : Nat → (Nat → V) → (Nat → V) → S → Prop) (it : Value) (s₂ : Shared) : Prop
  | mk (I : Addr) (N : Nat) (d1 d2 : Nat → V) (σ₂ : S) (e : it = .ref I) (P : Post X σ s σ₂ s₂) (IT : IterT X σ₂ s₂.heap I N d1 d2) (q : Q N d1 d2 σ₂)
noncomputable def WItT (X : Cx) (iter : Expr) (σ : S) (Q : Nat → (Nat → V) → (Nat → V) → S → Prop) (E : Value → S → Prop) : Prop :=
  ∀ s, St X σ s.heap → wpAny (model X.prog X.w) X.A (eval iter X.env) (fun x s₁ => wpAny (model X.prog X.w) X.A (pyIter x) (ItAtT X σ s Q) (Ew X σ s E) s₁) (Ew X σ s E) s
end
end Mine
namespace Mine
open PySem PySem.W PySem.Calls PySem.Spec PyProof.Rows
section
variable {X : Cx} {n : Nat} {σ : S} {E : Value → S → Prop}
theorem call_raw {pos : Pos} {f : Value} {trees : List (Bool × Sem Value)} {Q : Value → Shared → Prop} {E' : Value → Shared → Prop} {s : Shared} {A : Around} (hk : Keeps X f) (hplain : trees.any (·.1) = false)
    (main : wpAny (model X.prog X.w) A (spliced trees) (fun vs s₁ => X.K.In s₁.heap ∧ wpAny (model X.prog X.w) A (call f vs) Q E' s₁) E' s) : wpAny (model X.prog X.w) A (callWith pos f [] trees []) Q E' s := by
  refine callWith_of (P := X.K.In) (by rw [hplain]; rfl) hk ?_
  cases trees with
  | nil =>
    unfold evalArgs
    show wpAny _ _ (spliced [] >>= _) _ _ s
    refine wpAny_bind (wpAny_mono main (fun vs s' h' => ?_) fun _ _ x => x)
    refine wpAny_holding ?_
    exact wpAny_bind (wpAny_pure (wpAny_bind (wpAny_pure (wpAny_pure h'))))
  | cons t r =>
    obtain ⟨b, t⟩ := t
    cases b
    · exact evalArgs_plain main
    · simp at hplain
structure KB (X : Cx) (x : Str) (v : Value) : Prop where
  kind : X.env.kindOf x = some .globalImplicit
  glob : nsIn X.K mainGlobals x = some none
  boot : bootBuiltins x = some v
theorem W_kb {x : Str} {pos : Pos} {v : Value} {Q : V → S → Prop} (ok : Ok X n) (k : KB X x v) (hn : x ≠ "__name__") (q : Q (.lit v) σ) (hd : (x == ("__debug__" : Str)) = false) : WE X (.Name x pos) σ Q E :=
  W_builtin ok k.kind k.glob k.boot hn q hd
theorem wit_range1 {e : Expr} {np pos : Pos} {Q : Nat → (Nat → V) → S → Prop} (ok : Ok X n) (k : KB X "range" (.type "range")) (hplain : ∀ env, (backTo pos (starEach [e] env)).any (·.1) = false)
    (h : W X (spliced (backTo pos (starEach [e] X.env))) VMs σ (fun ds σ₁ => ∃ b : Nat, ds = [.int b] ∧ b ≤ 100000 ∧ Q b (fun i => .int i) σ₁) E) : WIt X (.Call (.Name "range" np) [e] [] pos) σ Q E := fun s st => by
  refine wpAny_Call_NameR ((W_kb (Q := fun f σ' => f = .lit (.type "range") ∧ σ' = σ) ok k (by decide) ⟨rfl, rfl⟩ (by decide)).run (Post.refl st) fun v s₁ f σ₁ _ P₁ vm h₁ => ?_)
  obtain ⟨rfl, rfl⟩ := h₁
  cases vm.litI
  refine call_raw keeps_type (hplain _) (h.run P₁ fun vs s₂ ds σ₂ p₂ P₂ vms h₂ => ⟨P₂.st.inK ok, ?_⟩)
  obtain ⟨b, rfl, hb, q⟩ := h₂
  obtain ⟨v, rfl, vv⟩ := vms.one
  cases vv
  rename_i tk
  refine call_range_1 ?_
  have P₃ : Post X σ₂ s₂ σ₂ { s₂ with heap := s₂.heap.push { cls := .type "range", data := .fields #[.int 0 s₂.toks, .int b tk, .int 1 (s₂.toks + 1)] }, toks := s₂.toks + 1 + 1 } :=
    Post.keeps P₂.st _ _ rfl fun _ _ e => Heap.get?_push_of_some _ e
  refine wpAny_pyIter_range (s := { s₂ with heap := s₂.heap.push { cls := .type "range", data := .fields #[.int 0 s₂.toks, .int b tk, .int 1 (s₂.toks + 1)] }, toks := s₂.toks + 1 + 1 }) (IsRange.new ..) (small_one (by omega) (by omega) (by omega) (by omega)) ?_
  have P₄ := st_push P₃.st { cls := .type "range_iterator", data := .fields #[rawInt 0, rawInt (Builtin.Range.rangeSize 0 b 1), rawInt 1] }
  have er : Builtin.Range.rangeSize 0 (b : Int) 1 = (b : Int) := by rw [rangeSize_one]; split <;> omega
  refine ⟨_, b, _, σ₂, rfl, P₂.trans (P₃.trans P₄), ?_, q⟩
  refine ⟨[_], [_], fun i v => ∃ t, v = .int (0 + i * 1) t, fun i h => IsRangeIter h (s₂.heap.push { cls := .type "range", data := .fields #[.int 0 s₂.toks, .int b tk, .int 1 (s₂.toks + 1)] }).objs.size (0 + (i : Nat) * 1) ((b : Int) - (i : Nat)) 1, fun A' hA => Walks.range hA _ 0 1 b, ?_, fun i h' g c hc => ?_, fun c hc => ?_, fun c hc nb => absurd hc nb, fun i v mu' h' _ hv _ => ?_⟩
  · have g := Heap.get?_push_size (s₂.heap.push { cls := .type "range", data := .fields #[.int 0 s₂.toks, .int b tk, .int 1 (s₂.toks + 1)] }) (o := { cls := .type "range_iterator", data := .fields #[rawInt 0, rawInt (Builtin.Range.rangeSize 0 b 1), rawInt 1] }) rfl
    rw [er] at g
    show Heap.get? _ _ = _
    simpa [er] using g
  · rw [List.mem_singleton.mp hc]; exact ⟨_, _, g, rfl⟩
  · rw [List.mem_singleton.mp hc]; exact new_facts P₃.st
  · obtain ⟨t, rfl⟩ := hv
    have e : ((0 : Int) + (i : Int) * 1) = (i : Int) := by omega
    rw [e]; exact .int _ _
end
end Mine
namespace Mine
open PySem PySem.W PySem.Calls PySem.Spec PyProof.Rows
section
variable {X : Cx} {n : Nat} {σ : S} {E : Value → S → Prop}
theorem W_ListO {elts : List Expr} {pos : Pos} {Q : V → S → Prop} (ok : Ok X n) (h : W X (spliced (backTo pos (starEach elts X.env))) VMs σ (fun as σ₁ => as.length ≤ 1000 ∧ ∀ a, σ₁.hp a = none → Q (.ref a) { σ₁ with hp := upd σ₁.hp a (.lst as) }) E) : WE X (.List elts pos) σ Q E := fun _ st =>
  List_ (h.run (Post.refl st) fun vs s₁ as σ₁ _ P₁ va q => wpAny_newList (by
    have P := post_write (h' := s₁.heap.push { cls := .type "list", data := .seq vs.toArray }) (tk := s₁.toks) (a := s₁.heap.objs.size) (o := .lst as) ok P₁.st (fun b o _ _ e => Heap.get?_push_of_some _ e) (by obtain ⟨m, hn, hm⟩ := P₁.st.names; exact ⟨m, hn.push _, hm⟩) (.inr (Heap.get?_none_of_le (Nat.le_refl _)))
      fun _ _ mv => ⟨vs, 0, Heap.get?_push_size _ rfl, mv _ _ va⟩
    exact ⟨.ref s₁.heap.objs.size, _, P₁.trans P, .ref _, q.2 _ (new_none P₁.st)⟩) (by rw [va.length, sizeLine_eq]; omega))
theorem gm_append {a : Addr} {ds : List V} {Q : Value → List V → S → Prop} (h1 : σ.hp a = some (.lst ds)) (q : Q (.builtin "list.append") [.ref a] σ) : GetM X (.ref a) "append" σ Q E := by
  intro v s pl st vm
  cases vm
  obtain ⟨⟨vs, k, g, _⟩, _⟩ := st.own a _ h1
  exact Calls.getMethod_list_append g rfl rfl ⟨[.ref a], σ, Post.refl st, .cons (.ref a) .nil, q⟩
theorem c_append {a : Addr} {ds : List V} {d : V} {Q : V → S → Prop} (ok : Ok X n) (h1 : σ.hp a = some (.lst ds)) (hl : ds.length ≤ 10000000) (q : Q .none { σ with hp := upd σ.hp a (.lst (ds ++ [d])) }) : Call X (.builtin "list.append") [.ref a, d] σ Q E := fun vs s st vm => by
  obtain ⟨v, w, rfl, va, vb⟩ := vm.two
  cases va
  obtain ⟨⟨vs, k, g, vms⟩, _⟩ := st.own a _ h1
  refine append_at g (fun h' hs g' => ?_) (by rw [List.size_toArray, vms.length, sizeLine_eq]; omega)
  obtain ⟨m, hn, hm⟩ := st.names
  have aL : X.env.locals ≠ a := fun e => st.locOff (by rw [e]; show σ.hp a ≠ none; rw [h1]; exact Option.some_ne_none _)
  have P := post_write (h' := h') (tk := s.toks) (a := a) (o := .lst (ds ++ [d])) ok st (fun b o n1 _ e => (hs.2 b n1).trans e) ⟨m, hn.at' (fun o e => (hs.2 _ aL).trans e), hm⟩ (.inl (by rw [h1]; exact Option.some_ne_none _))
    fun mv _ mvs => ⟨vs ++ [w], k + 1, by rw [g']; simp, (mvs _ _ vms).append (.cons (mv _ _ vb) .nil)⟩
  exact ⟨.none, _, P, .none, q⟩
inductive Fz (hp hp' : Addr → Option HO) : V → V → Prop
  | refl (d : V) : Fz hp hp' d d
  | pair {a b a' b' : V} : Fz hp hp' a a' → Fz hp hp' b b' → Fz hp hp' (.tup [a, b]) (.tup [a', b'])
  | own {a : Addr} {ds : List V} : hp a = some (.lst ds) → hp' a = none → Fz hp hp' (.ref a) (.lst ds)
theorem Fz.vm {h : Heap} {hp' : Addr → Option HO} (st : St X σ h) (hs : ∀ a o, hp' a = some o → σ.hp a = some o) {d d' : V} (z : Fz σ.hp hp' d d') : ∀ {v : Value}, VM σ.mu h v d → VM (S.mu ⟨σ.loc, hp'⟩) h v d' := by
  have nm : ∀ a, ¬ σ.mu a → ¬ S.mu ⟨σ.loc, hp'⟩ a := fun a n m => by
    cases q : hp' a with
    | none => exact m q
    | some o => exact n (by show σ.hp a ≠ none; rw [hs a o q]; exact Option.some_ne_none _)
  induction z with
  | refl d => exact fun x => vm_drop x hs
  | pair _ _ iha ihb =>
    intro v x
    obtain ⟨a, o, vs, n, rfl, g, c, e, nmu, vm⟩ := x.tupI
    obtain ⟨v, w, rfl, v1, v2⟩ := vm.two
    exact .tup g c e (nm _ nmu) (.cons (iha v1) (.cons (ihb v2) .nil))
  | own h1 h2 =>
    intro v x
    cases x
    obtain ⟨⟨vs, k, g, vms⟩, _⟩ := st.own _ _ h1
    refine .lst g rfl rfl (fun m => m h2) ?_
    refine vms.mono (L := 0) (prot := []) ⟨fun a o e n _ => ⟨e, nm a n⟩, fun a o e n _ _ => ⟨nm a n, o.slots, e⟩, fun a ha => nomatch ha⟩
structure SubF (σ' σ : S) : Prop where
  hp : ∀ a o, σ'.hp a = some o → σ.hp a = some o
  loc : ∀ x d', lk σ'.loc x = some d' → ∃ d, lk σ.loc x = some d ∧ Fz σ.hp σ'.hp d d'
theorem Call.fz {f : Value} {ds : List V} {Q : V → S → Prop} (h : Call X f ds σ (fun d σ' => ∃ hp' d', (∀ a o, hp' a = some o → σ'.hp a = some o) ∧ Fz σ'.hp hp' d d' ∧ Q d' ⟨σ'.loc, hp'⟩) E) : Call X f ds σ Q E := fun vs s st vm =>
  wpAny_mono (h vs s st vm) (fun v s' q => by
    obtain ⟨d, σ', P, r, hp', d', hs, z, q⟩ := q
    exact ⟨d', _, post_drop P hs (fun _ _ e => e), z.vm P.st hs r, q⟩) fun _ _ q => q
mutual
noncomputable def V.dat : V → PyData
  | .none => .none
  | .bool b => .bool b
  | .int i => .int i
  | .str l => .str ⟨l.toArray⟩
  | .tup ds => .tuple (V.dats ds)
  | .lst ds => .list (V.dats ds)
  | .ref _ => .none
  | .lit _ => .none
noncomputable def V.dats : List V → List PyData
  | [] => []
  | d :: ds => V.dat d :: V.dats ds
end
mutual
noncomputable def V.plain : V → Bool
  | .tup ds => V.plains ds
  | .lst ds => V.plains ds
  | .ref _ => false
  | .lit _ => false
  | _ => true
noncomputable def V.plains : List V → Bool
  | [] => true
  | d :: ds => V.plain d && V.plains ds
end
mutual
theorem VM.reads {mu : Addr → Prop} {h : Heap} : ∀ (d : V) (v : Value), V.plain d = true → VM mu h v d → ∃ as, Reads h v (V.dat d) as
  | .none, v, _, x => by cases x; exact ⟨_, .none⟩
  | .bool b, v, _, x => by cases x; exact ⟨_, .bool b⟩
  | .int i, v, _, x => by cases x; exact ⟨_, .int i _⟩
  | .str l, v, _, x => by obtain ⟨t, rfl⟩ := x.strI; exact ⟨_, .str _ t⟩
  | .tup ds, v, p, x => by
    obtain ⟨a, o, vs, n, rfl, g, c, e, _, vm⟩ := x.tupI
    obtain ⟨as, r⟩ := VMs.reads ds vs (by simpa [V.plain] using p) vm
    exact ⟨_, .tuple g c e (by rw [List.toList_toArray]; exact r)⟩
  | .lst ds, v, p, x => by
    obtain ⟨a, o, vs, n, rfl, g, c, e, _, vm⟩ := x.lstI
    obtain ⟨as, r⟩ := VMs.reads ds vs (by simpa [V.plain] using p) vm
    exact ⟨_, .list g c e (by rw [List.toList_toArray]; exact r)⟩
  | .ref _, v, p, x => by simp [V.plain] at p
  | .lit _, v, p, x => by simp [V.plain] at p
theorem VMs.reads {mu : Addr → Prop} {h : Heap} : ∀ (ds : List V) (vs : List Value), V.plains ds = true → VMs mu h vs ds → ∃ as, ReadsAll h vs (V.dats ds) as
  | [], vs, _, x => by cases x; exact ⟨_, .nil⟩
  | d :: ds, vs, p, x => by
    obtain ⟨v, ws, rfl, a, r⟩ := x.consI
    simp only [V.plains, Bool.and_eq_true] at p
    obtain ⟨as, ra⟩ := VM.reads d v p.1 a
    obtain ⟨bs, rb⟩ := VMs.reads ds ws p.2 r
    exact ⟨_, .cons ra rb⟩
end
structure Shp (d : V) : Prop where
  plain : V.plain d = true
  shaped : (PyData.canLay0 (V.dat d) && decide ((V.dat d).depth ≤ 64)) = true
theorem o_eqd {a b : V} {Q : V → S → Prop} (ok : Ok X n) (ha : Shp a) (hb : Shp b) (q : Q (.bool (PyData.eqv a.dat b.dat)) σ) : Op2 X (compareOp .Eq) a b σ Q E := fun v w s st va wb => by
  obtain ⟨as, ra⟩ := VM.reads a v ha.plain va
  obtain ⟨bs, rb⟩ := VM.reads b w hb.plain wb
  exact eq_dataH ra rb ha.shaped hb.shaped (by have := ok.units; omega) (qw_self st (.bool _) q)
theorem eqv_self {a : V} (ha : Shp a) : PyData.eqv a.dat a.dat = true := SeqAt.eqv_refl _ (SeqAt.canLay_of_shaped ha.shaped)
end
end Mine
namespace Mine
open PySem PySem.W PySem.Calls PySem.Spec PyProof.Rows
section
variable {X : Cx} {n : Nat} {σ : S} {E : Value → S → Prop}
noncomputable abbrev mk (l : List Nat) : Str := ⟨l.toArray⟩
theorem VMs.strs {mu : Addr → Prop} {h : Heap} : ∀ {ls : List (List Nat)} {vs : List Value}, VMs mu h vs (ls.map V.str) → ∃ l : List (Str × Tok), vs = strValues l ∧ l.map (·.1) = ls.map mk
  | [], vs, x => by cases x; exact ⟨[], rfl, rfl⟩
  | a :: ls, vs, x => by
    obtain ⟨v, ws, rfl, y, r⟩ := x.consI
    obtain ⟨t, rfl⟩ := y.strI
    obtain ⟨l, rfl, e⟩ := VMs.strs r
    exact ⟨(mk a, t) :: l, rfl, by simp [e]⟩
theorem VMs.intsI {mu : Addr → Prop} {h : Heap} : ∀ {ns : List Int} {vs : List Value}, VMs mu h vs (ns.map V.int) → IntsAre vs ns
  | [], vs, x => by cases x; exact .nil
  | a :: ns, vs, x => by
    obtain ⟨v, ws, rfl, y, r⟩ := x.consI
    cases y
    exact .cons _ _ (VMs.intsI r)
noncomputable def joinL (sep : List Nat) (ls : List (List Nat)) : List Nat := (Txt.join (mk sep) (ls.map mk)).cps.toList
theorem mk_len (l : List Nat) : (mk l).length = l.length := by simp [Str.length]
section
variable {Q : V → S → Prop}
theorem c_join {sep : List Nat} {ls : List (List Nat)} (hb : ∀ l ∈ ls, l.length ≤ 1000) (hs : sep.length ≤ 1000) (hn : ls.length ≤ 1000) {dl : V} (hll : Lst σ dl (ls.map .str)) (q : Q (.str (joinL sep ls)) σ) : Call X (.builtin "str.join") [.str sep, dl] σ Q E := fun vs s st vm => by
  obtain ⟨v, w, rfl, va, vb⟩ := vm.two
  obtain ⟨t, rfl⟩ := va.strI
  obtain ⟨a, o, vs, k, rfl, g, c, d, vms⟩ := hll.get st vb
  obtain ⟨l, rfl, el⟩ := vms.strs
  refine SC.join ⟨o, g, c, k, d⟩ el ?_ fun t' k' => qw_same st _ (.strE rfl) q
  unfold JoinOk
  rw [Bool.not_eq_true']
  refine StrLaws.joinFits (B := 1000) (fun y hy => ?_) ?_
  · obtain ⟨z, hz, rfl⟩ := List.mem_map.mp hy
    have := mk_len z
    have := hb z hz
    omega
  · rw [mk_len, List.length_map]
    have h1 : ls.length * 1000 ≤ 1000 * 1000 := Nat.mul_le_mul_right _ hn
    have h2 : ls.length * sep.length ≤ 1000 * 1000 := Nat.mul_le_mul hn hs
    omega
theorem c_sum {ns : List Int} (ok : Ok X n) (hc : X.ctx = none) (q : Q (.int ns.sum) σ) : Call X (.builtin "sum") [.lst (ns.map .int)] σ Q E := fun vs s st vm => by
  obtain ⟨v, rfl, va⟩ := vm.one
  obtain ⟨a, o, vs, k, rfl, g, c, d, nm, vms⟩ := va.lstI
  have hA : X.A.handled = none := by rw [ok.handled, hc]; rfl
  have ia := vms.intsI
  refine call_sum_walkG (wpAny_pyIter_list (items := vs.toArray) ⟨o, g, c, k, d⟩ ?_)
  have ga := Heap.get?_push_of_some { cls := .type "list_iterator", data := .fields #[.ref a, .int 0 0] } g
  have ne : a ≠ s.heap.objs.size := Nat.ne_of_lt (Heap.lt_size g)
  have P := st_push st { cls := .type "list_iterator", data := .fields #[.ref a, .int 0 0] }
  refine ⟨_, [s.heap.objs.size, a], [s.heap.objs.size], vs.toArray.size, fun i v => vs.toArray[i]? = some v, fun i h => h.IsListIter s.heap.objs.size a i ∧ h.IsList a vs.toArray, fun i => ns.getD i 0, rfl, Walks.list (A := X.A.in1) hA _ _ ne _,
    ⟨⟨_, Heap.get?_push_size _ rfl, rfl, rfl⟩, ⟨o, ga, c, k, d⟩⟩, fun b hb => ?_, fun i v e => ?_, fun h' tk t' hk => ?_⟩
  · rw [Heap.size_push]
    rcases List.mem_cons.mp hb with rfl | hb
    · exact Nat.lt_succ_self _
    · rw [List.mem_singleton.mp hb]; exact Nat.lt_succ_of_lt (Heap.lt_size g)
  · have e' : vs[i]? = some v := by simpa using e
    obtain ⟨dv, e2, vm'⟩ := vms.get' e'
    rw [List.getElem?_map] at e2
    cases hn : ns[i]? with
    | none => rw [hn] at e2; cases e2
    | some z =>
      rw [hn] at e2
      cases e2
      cases vm'
      exact ⟨_, by show _ = Value.int (ns.getD i 0) _; rw [List.getD_eq_getElem?_getD, hn]; rfl⟩
  · have e1 : preSum (fun i => ns.getD i 0) vs.toArray.size = ns.sum := by
      rw [PyProof.Rows.preSum_getD]
      rw [List.size_toArray, vms.length, List.length_map, List.take_of_length_le (Nat.le_refl _)]
    rw [e1]
    have nf := new_facts st
    refine ⟨_, σ, P.trans (post_slots (bad := [s.heap.objs.size]) P.st (fun b o g' _ nb => hk b o nb g') (fun b o g' nfd => ⟨o.slots, hk b o (fun hb => ?_) g'⟩) fun b hb => ?_), .int _ _, q⟩
    · rw [List.mem_singleton.mp hb] at g'
      have := Heap.get?_push_size s.heap (o := { cls := .type "list_iterator", data := .fields #[.ref a, .int 0 0] }) rfl
      have g2 : (s.heap.push { cls := .type "list_iterator", data := .fields #[.ref a, .int 0 0] }).get? s.heap.objs.size = some o := g'
      rw [this] at g2; cases g2; exact nfd _ rfl
    · rw [List.mem_singleton.mp hb]; exact ⟨⟨nf.1, nf.2.1⟩, nf.2.2, _, _, Heap.get?_push_size _ rfl, rfl⟩
theorem s_lstItem {dl : V} {ds : List V} {k : Nat} {d : V} {value slice : Expr} (hll : Lst σ dl ds) (hk : k ≤ 100000) (e : ds[k]? = some d) (q : Q d σ)
    (hs : ∀ l i u, subscripted slice false (.ref l) (.int i u) = operate [.ref l, .int i u] (getItem (.ref l) (.int i u))) : Op2 X (subscriptTail value slice) dl (.int k) σ Q E := fun v w s st va wb => by
  obtain ⟨a, o, vs, m, rfl, g, c, d', vms⟩ := hll.get st va
  cases wb
  obtain ⟨v, e2, vm⟩ := vms.get e
  have hl : s.heap.IsList a vs.toArray := ⟨o, g, c, m, d'⟩
  exact tail_any hl.typeIs slot_list_getitem.lookup (wpAny_getItem_list (x := v) hl (by omega) (by omega) (by simpa using e2) (qw_self st vm q)) (hs _ _ _)
theorem c_lenL {dl : V} {ds : List V} (hll : Lst σ dl ds) (h : ds.length ≤ 100000) (q : Q (.int ds.length) σ) : Call X (.builtin "len") [dl] σ Q E := fun vs s st vm => by
  obtain ⟨v, rfl, va⟩ := vm.one
  obtain ⟨a, o, vs, k, rfl, g, c, d, vms⟩ := hll.get st va
  refine PyProof.Rows.len_list (items := vs.toArray) ⟨o, g, c, k, d⟩ (by rw [List.size_toArray, vms.length]; omega) (qw_same st _ ?_ q)
  rw [List.size_toArray, vms.length]; exact .int _ _
end
end
end Mine
namespace Mine
open PySem PySem.W PySem.Calls PySem.Spec PyProof.Rows
section
variable {X : Cx} {n : Nat} {σ : S} {E : Value → S → Prop}
theorem W_cell {x : Str} {pos : Pos} {c : Addr} {d : V} {Q : V → S → Prop} (ok : Ok X n) (hx : X.env.kindOf x = some .cell) (hc : X.env.cells.lookup x = some c) (e : σ.hp c = some (.cell (some d))) (q : Q d σ) (hd : (x == ("__debug__" : Str)) = false) :
    WE X (.Name x pos) σ Q E := fun _ st => by
  obtain ⟨⟨o, v, g, dd, w, rfl, vm⟩, _⟩ := st.own c _ e
  exact wpAny_Name (wpAny_loadName_cell ok.kind hx hc ⟨o, g, dd⟩ (qw_self st vm q)) hd
noncomputable def StoN (X : Cx) (x : Str) (d : V) (σ σ' : S) : Prop := ∀ v s, St X σ s.heap → VM σ.mu s.heap v d → wpAny (model X.prog X.w) X.A (storeName X.env x v) (Qw X σ s RU (fun _ σ'' => σ'' = σ')) (fun _ _ => False) s
theorem sto_local {x : Str} {d : V} (ok : Ok X n) (hx : X.env.kindOf x = some .local) : StoN X x d σ { σ with loc := put σ.loc x d } := fun v s st vm =>
  wpAny_mono (store_local (E := fun _ _ => False) (Q := fun _ σ'' => σ'' = { σ with loc := put σ.loc x d }) ok hx rfl (Post.refl st) vm) (fun _ _ z => z) fun _ _ z => by obtain ⟨_, _, _, _, _, _, z⟩ := z; exact z
theorem sto_cell {x : Str} {c : Addr} {d : V} {v₀ : Option V} (ok : Ok X n) (hx : X.env.kindOf x = some .cell) (hc : X.env.cells.lookup x = some c) (e : σ.hp c = some (.cell v₀)) : StoN X x d σ { σ with hp := upd σ.hp c (.cell (some d)) } := fun v s st vm => by
  obtain ⟨⟨o, w, g, dd, _⟩, _⟩ := st.own c _ e
  obtain ⟨m, hn, hm⟩ := st.names
  have cL : X.env.locals ≠ c := fun z => st.locOff (by rw [z]; show σ.hp c ≠ none; rw [e]; exact Option.some_ne_none _)
  refine wpAny_storeName_cell ok.kind hx hc ⟨o, g, dd⟩ fun h' hv hs => ?_
  refine ⟨(), _, post_write (tk := s.toks) (a := c) (o := .cell (some d)) ok st (fun b o n1 _ z => (hs.2 b n1).trans z) ⟨m, hn.at' (fun o z => (hs.2 _ cL).trans z), hm⟩ (.inl (by rw [e]; exact Option.some_ne_none _)) (fun mv _ _ => ?_), trivial, rfl⟩
  obtain ⟨o', g', d'⟩ := hv
  exact ⟨o', some v, g', d', v, rfl, mv _ _ vm⟩
theorem WX_AssignC {x : Str} {px pos : Pos} {c : Addr} {e : Expr} {Q : FV → S → Prop} (ok : Ok X n) (hx : X.env.kindOf x = some .cell) (hc : X.env.cells.lookup x = some c)
    (h : WE X e σ (fun d σ₁ => ∃ v₀, σ₁.hp c = some (.cell v₀) ∧ Q .next { σ₁ with hp := upd σ₁.hp c (.cell (some d)) }) E)
    (hs : ∀ env, swapsWith e (some (.Name x px)) pos.line env = pure false) : WX X (.Assign [.Name x px] e pos) σ Q E := fun _ st =>
  wpAny_Assign_Name (h.run (Post.refl st) fun v s₁ d σ₁ _ P₁ vm ⟨v₀, e₀, q⟩ => wpAny_mono (sto_cell ok hx hc e₀ v s₁ P₁.st vm) (fun _ _ ⟨_, σ', P', _, q'⟩ => ⟨.next, σ', P₁.trans P', trivial, q' ▸ q⟩) fun _ _ z => z.elim) (hs _)
end
end Mine
namespace Mine
open PySem PySem.W PySem.Calls PySem.Spec PyProof.Rows
section
variable {X : Cx} {n : Nat} {σ : S} {E : Value → S → Prop}
noncomputable def Cx.comp (X : Cx) (cenv : Env) : Cx := { X with env := cenv }
structure CEnv (X : Cx) (cenv : Env) : Prop where
  kind : cenv.scope.kind = .function
  glob : cenv.globals = X.env.globals
  bult : cenv.builtins = X.env.builtins
  frame : cenv.frame = X.env.frame
theorem ok_comp {cenv : Env} (ok : Ok X n) (c : CEnv X cenv) (ha : X.base.objs.size ≤ cenv.locals) (hp : cenv.locals ∉ X.prot) : Ok (X.comp cenv) n :=
  ⟨ok.inK, ok.top, ok.frames, ok.frame, c.frame.trans ok.eframe, c.kind, c.glob.trans ok.genv, c.bult.trans ok.benv, ha, hp, ok.handled, ok.ctxIn, ok.depth, ok.units⟩
theorem st_comp {cenv : Env} {h h₀ : Heap} {m : Str → Option Value} {loc0 : List (Str × V)} (st : St X σ h) (hC : h.get? cenv.locals = none) (hn : h₀.Ns cenv.locals m) (k : ∀ b o, h.get? b = some o → h₀.get? b = some o)
    (hm : ∀ x d, lk loc0 x = some d → ∃ v, m x = some v ∧ VM σ.mu h v d) : St (X.comp cenv) ⟨loc0, σ.hp⟩ h₀ := by
  have x : Ext X.env.locals X.prot σ.mu h σ.mu h₀ := Ext.keeps st.protOff k
  refine ⟨fun b o e => k b o (st.base b o e), ⟨m, hn, fun y d e => let ⟨v, q, r⟩ := hm y d e; ⟨v, q, r.mono x⟩⟩, fun a o e => ?_, fun q => ?_, fun a ha => ?_, fun e he => ?_⟩
  · obtain ⟨y, z⟩ := st.own a o e
    obtain ⟨ob, g⟩ := y.there
    exact ⟨y.mono x ((k a ob g).trans g.symm), z⟩
  · cases e : σ.hp cenv.locals with
    | none => exact q e
    | some o => obtain ⟨ob, g⟩ := (st.own _ o e).1.there; rw [hC] at g; cases g
  · obtain ⟨z, o, vs, g, d⟩ := st.prot a ha
    exact ⟨z, o, vs, k a o g, d⟩
  · obtain ⟨z, L, o, es, ep, hfr, hb, hmu, g, d⟩ := st.frs e he
    exact ⟨z, L, o, es, ep, hfr, hb, hmu, k L o g, d⟩
theorem comp_back {cenv : Env} {s s₀ s' : Shared} {h' : Heap} {loc0 : List (Str × V)} {σ' : S} (st : St X σ s.heap) (hC : s.heap.get? cenv.locals = none) (k : ∀ b o, s.heap.get? b = some o → s₀.heap.get? b = some o) (he : ∃ h t, s₀ = { s with heap := h, toks := t })
    (P : Post (X.comp cenv) ⟨loc0, σ.hp⟩ s₀ σ' s') (hs : Heap.SameBut cenv.locals s'.heap h') : Post X σ s ⟨σ.loc, σ'.hp⟩ { s' with heap := h' } := by
  obtain ⟨h₁, t₁, rfl⟩ := he
  obtain ⟨h₂, tk', e⟩ := P.upd
  have ne : ∀ a o, s.heap.get? a = some o → a ≠ cenv.locals := fun a o g q => by rw [q, hC] at g; cases g
  have sb : ∀ b o, b ≠ cenv.locals → s'.heap.get? b = some o → h'.get? b = some o := fun b o n g => (hs.2 b n).trans g
  have cb : X.base.get? cenv.locals = none := by
    cases q : X.base.get? cenv.locals with
    | none => rfl
    | some o => have := st.base _ o q; rw [hC] at this; cases this
  have x : Ext X.env.locals X.prot σ.mu s.heap σ'.mu h' := ⟨fun a o g nm q => let ⟨g', n'⟩ := P.ext.seq a o (k a o g) nm q; ⟨sb a o (ne a o g) g', n'⟩, fun a o g nm l q => let ⟨n', sl, g'⟩ := P.ext.obj a o (k a o g) nm (ne a o g) q; ⟨n', sl, sb a _ (ne a o g) g'⟩,
    fun a ha o g => let ⟨g', n'⟩ := P.ext.watch a ha o (k a o g); ⟨sb a o (ne a o g) g', n'⟩⟩
  refine ⟨⟨h', tk', by rw [e]⟩, x, ⟨fun b o g => sb b o (fun q => by rw [q, cb] at g; cases g) (P.st.base b o g), ?_, fun a o g => ?_, ?_, fun a ha => ?_, fun e he => ?_⟩⟩
  · obtain ⟨m, hn, hm⟩ := st.names
    obtain ⟨o, es, ep, g, d, r⟩ := hn
    obtain ⟨_, sl, g'⟩ := P.ext.obj _ o (k _ o g) st.locOff (ne _ o g) fun vs q => by rw [d] at q; cases q
    exact ⟨m, ⟨_, es, ep, sb _ _ (ne _ o g) g', d, r⟩, fun y d e => let ⟨v, q, r⟩ := hm y d e; ⟨v, q, r.mono x⟩⟩
  · obtain ⟨y, z⟩ := P.st.own a o g
    have an : a ≠ cenv.locals := fun q => P.st.locOff (by show σ'.hp cenv.locals ≠ none; rw [← q, g]; exact Option.some_ne_none _)
    refine ⟨y.mono (L := cenv.locals) (prot := []) ⟨fun b ob gb nb qb => ⟨sb b ob (fun q => ?_) gb, nb⟩, fun b ob gb nb lb qb => ⟨nb, ob.slots, sb b ob lb gb⟩, fun b hb => nomatch hb⟩ (hs.2 a an), z⟩
    obtain ⟨m, ⟨o', es, ep, g', d', _⟩, _⟩ := P.st.names
    have g'' : s'.heap.get? cenv.locals = some o' := g'
    rw [← q, gb] at g''; cases g''; rw [d'] at qb; exact qb
  · obtain ⟨m, ⟨o, es, ep, g, d, r⟩, hm⟩ := st.names
    exact (P.ext.obj _ o (k _ o g) st.locOff (ne _ o g) fun vs q => by rw [d] at q; cases q).1
  · obtain ⟨z, o, vs, g, d⟩ := P.st.prot a ha
    refine ⟨z, o, vs, sb a o (fun q => ?_) g, d⟩
    obtain ⟨m, ⟨o', es, ep, g', d', _⟩, _⟩ := P.st.names
    have g'' : s'.heap.get? cenv.locals = some o' := g'
    rw [← q, g] at g''; cases g''; rw [d'] at d; cases d.1
  · obtain ⟨z, L, o, es, ep, hfr, hb, hmu, g, d⟩ := P.st.frs e he
    obtain ⟨_, L', o', es', ep', hf', hb', hm', g', d'⟩ := st.frs e he
    rw [hfr] at hf'; cases hf'
    exact ⟨z, L, o, es, ep, hfr, hb, hmu, sb L o (ne L o' g') g, d⟩
noncomputable abbrev F0 : Value → S → Prop := fun _ _ => False
theorem Ew.elim0 {X : Cx} {σ : S} {s s' : Shared} {e : Value} {P : Prop} (h : Ew X σ s F0 e s') : P := by obtain ⟨_, _, _, _, _, _, z⟩ := h; exact z.elim
noncomputable def tests (ifs : List Expr) (env : Env) : Sem Bool := forIn ifs true fun c r => if r = true then do let ok ← isTrue c env (eval c env); pure (ForInStep.yield ok) else pure (ForInStep.yield r)
theorem CT_nil {Q : Bool → S → Prop} (q : Q true σ) : W X (tests [] X.env) RB σ Q E := fun _ st => wpAny_pure (qw_self st rfl q)
theorem CT_one {c : Expr} {Q : Bool → S → Prop} (h : WT X c σ Q E) : W X (tests [c] X.env) RB σ Q E := fun s st => by
  unfold tests
  rw [List.forIn_cons]
  refine wpAny_bind ?_
  rw [if_pos rfl]
  refine wpAny_bind (h.run (Post.refl st) fun b s₁ b' σ₁ _ P₁ e q => ?_)
  refine wpAny_pure ?_
  exact wpAny_pure ⟨b', σ₁, P₁, e, q⟩
noncomputable def accOf (keep : Nat → Bool) (es : Nat → V) (i : Nat) : List V := ((List.range i).filter keep).map es
theorem accOf_succ (keep : Nat → Bool) (es : Nat → V) (i : Nat) : accOf keep es (i + 1) = if keep i then accOf keep es i ++ [es i] else accOf keep es i := by
  unfold accOf
  rw [List.range_succ, List.filter_append]
  cases h : keep i <;> simp [h]
theorem accOf_len (keep : Nat → Bool) (es : Nat → V) (i : Nat) : (accOf keep es i).length ≤ i := by
  unfold accOf
  rw [List.length_map]
  exact Nat.le_trans (List.length_filter_le _ _) (by simp)
end
end Mine
namespace Mine
open PySem PySem.W PySem.Calls PySem.Spec PyProof.Rows
section
variable {X : Cx} {n : Nat} {σ : S} {E : Value → S → Prop}
inductive ItG (X : Cx) (σ : S) (h : Heap) (J : Addr) (tg : Expr) (N : Nat) (P : Nat → (Addr → Prop) → Heap → Value → Prop) : Prop
  | mk (wr : List Addr) (SS : Nat → Heap → Prop) (Mid : Nat → Value → Heap → Prop)
    (next : ∀ A' : Around, A'.handled = none → ∀ i (s : Shared) (Q : Option Value → Shared → Prop) (E' : Value → Shared → Prop), i < N → SS i s.heap → (∀ v h' tk, Mid i v h' → (∀ b o, b ∉ wr → s.heap.get? b = some o → h'.get? b = some o) → Q (some v) { s with heap := h', toks := tk }) → wpAny (model X.prog X.w) A' (pyNext (.ref J)) Q E' s)
    (go : ∀ A' : Around, A'.handled = none → ∀ i v (s : Shared) (Q : Unit → Shared → Prop) (E' : Value → Shared → Prop), Mid i v s.heap → (∀ h', SS (i + 1) h' → (∀ b o, b ∉ wr → s.heap.get? b = some o → h'.get? b = some o) → Q () { s with heap := h' }) → wpAny (model X.prog X.w) A' (letOwnedTupleGo tg (.ref J) v) Q E' s)
    (done : ∀ A' : Around, A'.handled = none → ∀ (s : Shared) (Q : Option Value → Shared → Prop) (E' : Value → Shared → Prop), SS N s.heap → (∀ h' tk, (∀ b o, b ∉ wr → s.heap.get? b = some o → h'.get? b = some o) → Q none { s with heap := h', toks := tk }) → wpAny (model X.prog X.w) A' (pyNext (.ref J)) Q E' s)
    (self : ∀ A' : Around, A'.handled = none → ∀ i (s : Shared) (Q : Value → Shared → Prop) (E' : Value → Shared → Prop), SS i s.heap → Q (.ref J) s → wpAny (model X.prog X.w) A' (pyIter (.ref J)) Q E' s)
    (st0 : SS 0 h) (hrec : ∀ i h', SS i h' → ∀ b ∈ wr, ∃ o vs, h'.get? b = some o ∧ o.data = .fields vs) (hrec2 : ∀ i v h', Mid i v h' → ∀ b ∈ wr, ∃ o vs, h'.get? b = some o ∧ o.data = .fields vs)
    (hwr : ∀ b ∈ wr, X.base.get? b = none ∧ ¬ σ.mu b ∧ b ∉ X.prot)
    (keep : ∀ i h₁ mu₁ h₂, SS i h₁ → SeqX σ.mu h mu₁ h₁ → (∀ a o, h₁.get? a = some o → ¬ mu₁ a → isSeq o.data → h₂.get? a = some o) → (∀ b ∈ wr, ∀ o, h₁.get? b = some o → h₂.get? b = some o) → SS i h₂)
    (val : ∀ i v mu' h₁ h₂, i < N → Mid i v h₁ → SeqX σ.mu h mu' h₂ → (∀ b o, b ∉ wr → h₁.get? b = some o → h₂.get? b = some o) → P i mu' h₂ v)
theorem keep_of {fp wr : List Addr} {SS : Nat → Heap → Prop} {h : Heap} (frame : ∀ i h h', SS i h → (∀ b ∈ fp, ∀ o, h.get? b = some o → h'.get? b = some o) → SS i h') (hfp : ∀ b ∈ fp, b ∉ wr → ¬ σ.mu b ∧ ∃ o, h.get? b = some o ∧ isSeq o.data) :
    ∀ i h₁ mu₁ h₂, SS i h₁ → SeqX σ.mu h mu₁ h₁ → (∀ a o, h₁.get? a = some o → ¬ mu₁ a → isSeq o.data → h₂.get? a = some o) → (∀ b ∈ wr, ∀ o, h₁.get? b = some o → h₂.get? b = some o) → SS i h₂ := fun i h₁ mu₁ h₂ st x k1 k2 => by
  refine frame _ _ _ st fun b hb o g => ?_
  by_cases hw : b ∈ wr
  · exact k2 b hw o g
  · obtain ⟨nm, o₀, g₀, q₀⟩ := hfp b hb hw
    obtain ⟨g₁, nm₁⟩ := x b o₀ g₀ nm q₀
    rw [g] at g₁; cases g₁
    exact k1 b _ g nm₁ q₀
noncomputable abbrev PN (ds : Nat → V) (i : Nat) (mu : Addr → Prop) (h : Heap) (v : Value) : Prop := VM mu h v (ds i)
inductive PT (d1 d2 : Nat → V) (i : Nat) (mu : Addr → Prop) (h : Heap) (v : Value) : Prop
  | mk (T : Addr) (v1 v2 : Value) (e : v = .ref T) (ht : h.IsTuple T #[v1, v2]) (m1 : VM mu h v1 (d1 i)) (m2 : VM mu h v2 (d2 i))
theorem Iter.toG {h : Heap} {J N : Nat} {ds : Nat → V} {x : Str} {tp : Pos} (IT : Iter X σ h J N ds) : ItG X σ h J (.Name x tp) N (PN ds) := by
  obtain ⟨fp, wr, PP, SS, hW, st0, hrec, hwr, hfp, hvm⟩ := IT
  refine ⟨wr, SS, fun i v h' => SS (i + 1) h' ∧ PP i v, fun A' hA i s Q E' hi st q => (hW A' hA).item i s _ _ hi st fun w h' tk pv st' kk => q w h' tk ⟨st', pv⟩ kk, fun A' hA i v s Q E' m q => wpAny_pure (q s.heap m.1 fun _ _ _ e => e), fun A' hA s Q E' st q => (hW A' hA).done s _ _ st q,
    fun A' hA i s Q E' st q => (hW A' hA).self i s _ _ st q, st0, hrec, fun i v h' m => hrec _ _ m.1, hwr, keep_of (hW ⟨none, 0, none, none, 0⟩ rfl).frame hfp, fun i v mu' h₁ h₂ hi m x _ => hvm i v mu' h₂ hi m.2 x⟩
theorem IterT.toG {h : Heap} {J N : Nat} {d1 d2 : Nat → V} {es : List Expr} {k : Nat} {tp : Pos} (IT : IterT X σ h J N d1 d2) : ItG X σ h J (.Tuple es k tp) N (PT d1 d2) := by
  obtain ⟨fp, wr, PP, SS, MM, hW, st0, hrec, hrec2, hwr, hfp, hvm⟩ := IT
  refine ⟨wr, SS, fun i v h' => ∃ T vals, v = .ref T ∧ h'.IsTuple T vals ∧ MM i T h' ∧ PP i vals ∧ T ∉ wr, fun A' hA i s Q E' hi st q => (hW A' hA).item i s _ _ hi st fun T vals h' tk pv hT hM kk => q _ h' tk ⟨T, vals, rfl, hT, hM, pv, (hW A' hA).apart _ _ _ hM⟩ kk, fun A' hA i v s Q E' m q => ?_, fun A' hA s Q E' st q => (hW A' hA).done s _ _ st q,
    fun A' hA i s Q E' st q => (hW A' hA).self i s _ _ st q, st0, hrec, fun i v h' m => by obtain ⟨T, vals, _, _, hM, _⟩ := m; exact hrec2 _ _ _ hM, hwr, keep_of (hW ⟨none, 0, none, none, 0⟩ rfl).frame hfp, fun i v mu' h₁ h₂ hi m x k => ?_⟩
  · obtain ⟨T, vals, rfl, _, hM, _⟩ := m
    exact (hW A' hA).go _ _ _ i T s _ _ hM q
  · obtain ⟨T, vals, rfl, ⟨o, g, c, n, d⟩, hM, pv, hw⟩ := m
    obtain ⟨v1, v2, rfl, m1, m2⟩ := hvm i vals mu' h₂ hi pv x
    exact ⟨T, v1, v2, rfl, ⟨o, k T o hw g, c, n, d⟩, m1, m2⟩
theorem ItG.grow {σ' : S} {cenv : Env} {h h' : Heap} {J N : Nat} {tg : Expr} {P : Nat → (Addr → Prop) → Heap → Value → Prop} (IT : ItG X σ h J tg N P) (k : ∀ b o, h.get? b = some o → h'.get? b = some o) (hm : ∀ b o, h.get? b = some o → ¬ σ.mu b → ¬ σ'.mu b)
    (hw0 : ∀ SS : Nat → Heap → Prop, SS 0 h → (∀ wr : List Addr, (∀ i h₁ mu₁ h₂, SS i h₁ → SeqX σ.mu h mu₁ h₁ → (∀ a o, h₁.get? a = some o → ¬ mu₁ a → isSeq o.data → h₂.get? a = some o) → (∀ b ∈ wr, ∀ o, h₁.get? b = some o → h₂.get? b = some o) → SS i h₂) → SS 0 h') := fun SS st wr keep => keep 0 h σ.mu h' st (fun a o g nm _ => ⟨g, nm⟩) (fun a o g _ _ => k a o g) (fun b _ o g => k b o g)) :
    ItG (X.comp cenv) σ' h' J tg N P := by
  obtain ⟨wr, SS, Mid, next, go, done, self, st0, hrec, hrec2, hwr, keep, val⟩ := IT
  have up : ∀ mu₁ h₁, SeqX σ'.mu h' mu₁ h₁ → SeqX σ.mu h mu₁ h₁ := fun mu₁ h₁ x a o g nm q => x a o (k a o g) (hm a o g nm) q
  refine ⟨wr, SS, Mid, next, go, done, self, hw0 SS st0 wr keep, hrec, hrec2, fun b hb => ?_, fun i h₁ mu₁ h₂ st x => keep i h₁ mu₁ h₂ st (up _ _ x), fun i v mu' h₁ h₂ hi m x => val i v mu' h₁ h₂ hi m (up _ _ x)⟩
  obtain ⟨o, vs, g, d⟩ := hrec _ _ st0 b hb
  exact ⟨(hwr b hb).1, hm b o g (hwr b hb).2.1, (hwr b hb).2.2⟩
noncomputable def Asg (X : Cx) (tg : Expr) (P : (Addr → Prop) → Heap → Value → Prop) (σ σ' : S) : Prop := ∀ v s, St X σ s.heap → P σ.mu s.heap v → wpAny (model X.prog X.w) X.A (assign tg X.env v) (Qw X σ s RU (fun _ σ'' => σ'' = σ')) (fun _ _ => False) s
theorem asg_name {x : Str} {tp : Pos} {ds : Nat → V} {i : Nat} {σ' : S} (h : StoN X x (ds i) σ σ') : Asg X (.Name x tp) (PN ds i) σ σ' := fun v s st p => wpAny_assign_Name (h v s st p)
theorem asg_pair {x1 x2 : Str} {k : Nat} {tp p1 p2 : Pos} {d1 d2 : Nat → V} {i : Nat} {σ₁ σ₂ : S} (ok : Ok X n) (hc : X.ctx = none) (h1 : StoN X x1 (d1 i) σ σ₁) (h2 : StoN X x2 (d2 i) σ₁ σ₂) : Asg X (.Tuple [.Name x1 p1, .Name x2 p2] k tp) (PT d1 d2 i) σ σ₂ := fun v s st p => by
  obtain ⟨T, v1, v2, rfl, ht, m1, m2⟩ := p
  have hA : X.A.handled = none := by rw [ok.handled, hc]; rfl
  refine wpAny_assign_Tuple hA ht rfl rfl fun h₃ hx₃ => ?_
  have P₁ : Post X σ s σ { s with heap := h₃ } := Post.keeps st h₃ s.toks rfl fun b o g => hx₃ b o (Nat.ne_of_lt (Heap.lt_size g)) g
  show wpAny _ _ (do holding [v2] (assign (.Name x1 p1) X.env v1); do holding [] (assign (.Name x2 p2) X.env v2); pure ()) _ _ _
  refine wpAny_bind (wpAny_holding (wpAny_assign_Name (wpAny_mono (h1 v1 _ P₁.st (m1.mono P₁.ext)) (fun _ s₃ z => ?_) fun _ _ z => z)))
  obtain ⟨_, _, P₂, _, rfl⟩ := z
  refine wpAny_bind (wpAny_holding (wpAny_assign_Name (wpAny_mono (h2 v2 _ P₂.st ((m2.mono P₁.ext).mono P₂.ext)) (fun _ s₄ z => ?_) fun _ _ z => z)))
  obtain ⟨_, _, P₃, _, rfl⟩ := z
  exact wpAny_pure ⟨(), _, (P₁.trans P₂).trans P₃, trivial, rfl⟩
inductive LoopG (X : Cx) (n : Nat) (σ₁ : S) (s₂ : Shared) (J : Addr) (tg : Expr) (N : Nat) (P : Nat → (Addr → Prop) → Heap → Value → Prop) : Prop
  | mk (wr : List Addr) (G : Nat → S → Shared → Prop) (g0 : G 0 σ₁ s₂) (gp : ∀ i σ' s', G i σ' s' → Post X σ₁ s₂ σ' s')
    (self : ∀ i σ' s' (Q : Value → Shared → Prop) (E' : Value → Shared → Prop), G i σ' s' → Q (.ref J) s' → wpAny (model X.prog X.w) X.A (pyIter (.ref J)) Q E' s')
    (next : ∀ i σ' s' σb (QB : Shared → Prop) (Z : Option Value → Shared → Prop) (E' : Value → Shared → Prop), i < N → G i σ' s' → (Ok (X.watch wr) n → Asg (X.watch wr) tg (P i) σ' σb) →
      (Ok (X.watch wr) n → ∀ s₃, Post X σ' s' σb s₃ → St (X.watch wr) σb s₃.heap → (∀ σ₄ s₄, Post (X.watch wr) σb s₃ σ₄ s₄ → G (i + 1) σ₄ s₄) → QB s₃) →
      (∀ v s₁, wpAny (model X.prog X.w) X.A (letOwnedTupleGo tg (.ref J) v) (fun _ s₁' => wpAny (model X.prog X.w) X.A (assign tg X.env v) (fun _ s₂ => QB s₂) E' s₁') E' s₁ → Z (some v) s₁) → wpAny (model X.prog X.w) X.A (pyNext (.ref J)) Z E' s')
    (done : ∀ σ' s' (Z : Option Value → Shared → Prop) (E' : Value → Shared → Prop), G N σ' s' → (∀ s₃, Post X σ' s' σ' s₃ → Z none s₃) → wpAny (model X.prog X.w) X.A (pyNext (.ref J)) Z E' s')
theorem loopG {σ₁ : S} {s₂ : Shared} {J : Addr} {tg : Expr} {N : Nat} {P : Nat → (Addr → Prop) → Heap → Value → Prop} (ok : Ok X n) (hc : X.ctx = none) (IT : ItG X σ₁ s₂.heap J tg N P) (st : St X σ₁ s₂.heap) : LoopG X n σ₁ s₂ J tg N P := by
  have hA : X.A.handled = none := by rw [ok.handled, hc]; rfl
  obtain ⟨wr, SS, Mid, next, go, done, self, st0, hrec, hrec2, hwr, keep, val⟩ := IT
  have step : ∀ {σ' : S} {s' : Shared}, St X σ' s'.heap → (∀ b ∈ wr, ¬ σ'.mu b) → (∀ b ∈ wr, ∃ o vs, s'.heap.get? b = some o ∧ o.data = .fields vs) → ∀ h' tk, (∀ b o, b ∉ wr → s'.heap.get? b = some o → h'.get? b = some o) → Post X σ' s' σ' { s' with heap := h', toks := tk } := fun {σ' s'} st' hmu hr h' tk kk =>
    post_slots st' (fun b o g _ nb => kk b o nb g) (fun b o g nf => ⟨o.slots, kk b o (fun hb => by obtain ⟨o', vs, g', d⟩ := hr b hb; rw [g] at g'; cases g'; exact nf _ d) g⟩) fun b hb => ⟨⟨(hwr b hb).1, hmu b hb⟩, (hwr b hb).2.2, hr b hb⟩
  refine ⟨wr, fun i σ' s' => Post X σ₁ s₂ σ' s' ∧ SS i s'.heap ∧ ∀ b ∈ wr, ¬ σ'.mu b, ⟨Post.refl st, st0, fun b hb => (hwr b hb).2.1⟩, fun i σ' s' g => g.1, fun i σ' s' Q E' g q => self _ hA i s' _ _ g.2.1 q, fun i σ' s' σb QB Z E' hi g asg qb z => ?_, fun σ' s' Z E' g z => ?_⟩
  · obtain ⟨Pb, sti, hmu⟩ := g
    refine next _ hA i s' _ _ hi sti fun v h' tk mid kk => z _ _ ?_
    have Pc := step Pb.st hmu (hrec i _ sti) h' tk kk
    refine go _ hA i v _ _ _ mid fun h₂ st₂ kk₂ => ?_
    have Pd := step (s' := { s' with heap := h', toks := tk }) Pc.st hmu (hrec2 _ _ _ mid) h₂ tk kk₂
    have Pcd := Pc.trans Pd
    have Pbd := Pb.trans Pcd
    have lw : X.env.locals ∉ wr := fun hb => by
      obtain ⟨o, vs, g, d⟩ := hrec _ _ st₂ _ hb
      obtain ⟨m, ⟨oL, es, ep, gL, dL, _⟩, _⟩ := Pd.st.names
      have gL' : h₂.get? X.env.locals = some oL := gL
      rw [g] at gL'; cases gL'; rw [d] at dL; cases dL
    have okw := ok_watch ok lw
    have stw : St (X.watch wr) σ' h₂ := st_watch hc Pd.st fun b hb => ⟨hmu b hb, hrec _ _ st₂ b hb⟩
    refine wpAny_mono (asg okw v { s' with heap := h₂, toks := tk } stw (val i v σ'.mu _ _ hi mid Pbd.ext.seq kk₂)) (fun _ s₃ q => ?_) fun _ _ q => q.elim
    obtain ⟨_, _, Pe, _, rfl⟩ := q
    refine qb okw s₃ (Pcd.trans (post_unwatch Pe)) Pe.st fun σ₄ s₄ Pf => ?_
    have Pef := Pe.trans Pf
    exact ⟨Pbd.trans (post_unwatch Pef), keep _ _ _ _ st₂ Pbd.ext.seq (fun a o g nm q => (Pef.ext.seq a o g nm q).1) (fun b hb o g => (Pef.ext.watch b (List.mem_append_left _ hb) o g).1), fun b hb => (Pf.st.prot b (List.mem_append_left _ hb)).1⟩
  · obtain ⟨Pb, sti, hmu⟩ := g
    exact done _ hA s' _ _ sti fun h' tk kk => z _ (step Pb.st hmu (hrec _ _ sti) h' tk kk)
inductive ItAtG (X : Cx) (σ : S) (s : Shared) (tg : Expr) (Q : Nat → (Nat → (Addr → Prop) → Heap → Value → Prop) → S → Prop) (it : Value) (s₂ : Shared) : Prop
  | mk (J : Addr) (N : Nat) (P : Nat → (Addr → Prop) → Heap → Value → Prop) (σ₂ : S) (e : it = .ref J) (PP : Post X σ s σ₂ s₂) (IT : ItG X σ₂ s₂.heap J tg N P) (q : Q N P σ₂)
noncomputable def WItG (X : Cx) (iter tg : Expr) (σ : S) (Q : Nat → (Nat → (Addr → Prop) → Heap → Value → Prop) → S → Prop) (E : Value → S → Prop) : Prop :=
  ∀ s, St X σ s.heap → wpAny (model X.prog X.w) X.A (eval iter X.env) (fun x s₁ => wpAny (model X.prog X.w) X.A (pyIter x) (ItAtG X σ s tg Q) (Ew X σ s E) s₁) (Ew X σ s E) s
theorem WIt.toG {iter : Expr} {x : Str} {tp : Pos} {Q : Nat → (Nat → (Addr → Prop) → Heap → Value → Prop) → S → Prop} (h : WIt X iter σ (fun N ds σ₁ => Q N (PN ds) σ₁) E) : WItG X iter (.Name x tp) σ Q E := fun s st =>
  wpAny_mono (h s st) (fun _ _ z => wpAny_mono z (fun _ _ z => by cases z with | mk J N ds σ₂ e PP IT q => exact ⟨J, N, _, σ₂, e, PP, IT.toG, q⟩) fun _ _ z => z) fun _ _ z => z
theorem WItT.toG {iter : Expr} {es : List Expr} {k : Nat} {tp : Pos} {Q : Nat → (Nat → (Addr → Prop) → Heap → Value → Prop) → S → Prop} (h : WItT X iter σ (fun N d1 d2 σ₁ => Q N (PT d1 d2) σ₁) E) : WItG X iter (.Tuple es k tp) σ Q E := fun s st =>
  wpAny_mono (h s st) (fun _ _ z => wpAny_mono z (fun _ _ z => by cases z with | mk J N d1 d2 σ₂ e PP IT q => exact ⟨J, N, _, σ₂, e, PP, IT.toG, q⟩) fun _ _ z => z) fun _ _ z => z
theorem WX_ForG {tg iter : Expr} {body orelse : List Stmt} {pos : Pos} {Q : FV → S → Prop} (ok : Ok X n) (hc : X.ctx = none) (he : X.env = X.fenv) (I : Nat → S → Prop)
    (h : WItG X iter tg σ (fun N P σ₁ => I 0 σ₁ ∧ (∀ i σ', i < N → I i σ' → ∃ σb, (∀ wr, Ok (X.watch wr) n → Asg (X.watch wr) tg (P i) σ' σb) ∧ ∀ wr, Ok (X.watch wr) n → WXs (X.watch wr) body σb (fun f σ₂ => match f with | .next => I (i + 1) σ₂ | .cont => I (i + 1) σ₂ | .brk => Q .next σ₂ | .ret d => Q (.ret d) σ₂) E) ∧
      (∀ σ', I N σ' → WXs X orelse σ' Q E)) E)
    (hs : ∀ env x, foldedSetIterable iter env x = pure x) : WX X (.For tg iter body orelse pos) σ Q E := fun s st => by
  refine wpAny_For (wpAny_mono (h s st) (fun _ _ z => wpAny_mono z (fun it s₂ hh => ?_) fun _ _ z => z) fun _ _ z => z) (hs _)
  obtain ⟨J, N, P, σ₁, rfl, P12, IT, i0, hbody, hfin⟩ := hh
  obtain ⟨wr, G, g0, gp, self, next, done⟩ := loopG ok hc IT P12.st
  refine codeAny_forLoop_any (fun k s' => ∃ i σ', i + k = N ∧ G i σ' s' ∧ I i σ') (fun k s' hI => ?_) N ⟨0, σ₁, Nat.zero_add _, g0, i0⟩
  obtain ⟨i, σ', hik, g, inv⟩ := hI
  have Pa := P12.trans (gp _ _ _ g)
  by_cases hi : i < N
  · obtain ⟨σb, asg, hb⟩ := hbody i σ' hi inv
    refine next i σ' s' σb _ _ _ hi g (asg wr) (fun okw s₃ P₃ st₃ gn => ?_) fun v s₁ z => z
    refine wpAny_mono (hb wr okw s₃ st₃) (fun f s₄ z => ?_) fun e s₄ z => ?_
    · obtain ⟨gv, σ₄, Pe, r, q⟩ := z
      cases f <;> cases gv <;> first | exact r.elim | skip
      · exact ⟨k - 1, by omega, i + 1, σ₄, by omega, gn _ _ Pe, q⟩
      · exact ⟨FV.next, σ₄, Pa.trans (P₃.trans (post_unwatch Pe)), trivial, q⟩
      · exact ⟨k - 1, by omega, i + 1, σ₄, by omega, gn _ _ Pe, q⟩
      · exact ⟨_, σ₄, Pa.trans (P₃.trans (post_unwatch Pe)), r, q⟩
    · obtain ⟨ea, cls, σ₄, Pe, rfl, x, q⟩ := z
      exact noted_Ew ok he ⟨ea, cls, σ₄, Pa.trans (P₃.trans (post_unwatch Pe)), rfl, exc_unwatch x, q⟩
  · obtain rfl : i = N := by omega
    exact done σ' s' _ _ g fun s₃ P₃ => wpAny_mono ((hfin σ' inv).go (Pa.trans P₃)) (fun _ _ z => z) fun _ _ z => noted_Ew ok he z
theorem WX_For {x : Str} {tp : Pos} {iter : Expr} {body orelse : List Stmt} {pos : Pos} {Q : FV → S → Prop} (ok : Ok X n) (hc : X.ctx = none) (he : X.env = X.fenv) (hx : X.env.kindOf x = some .local) (I : Nat → S → Prop)
    (h : WIt X iter σ (fun N ds σ₁ => I 0 σ₁ ∧ (∀ i σ' wr, i < N → I i σ' → Ok (X.watch wr) n → WXs (X.watch wr) body { σ' with loc := put σ'.loc x (ds i) } (fun f σ₂ => match f with | .next => I (i + 1) σ₂ | .cont => I (i + 1) σ₂ | .brk => Q .next σ₂ | .ret d => Q (.ret d) σ₂) E) ∧
      (∀ σ', I N σ' → WXs X orelse σ' Q E)) E)
    (hs : ∀ env x, foldedSetIterable iter env x = pure x) : WX X (.For (.Name x tp) iter body orelse pos) σ Q E :=
  WX_ForG ok hc he I (WIt.toG fun s st => wpAny_mono (h s st) (fun _ _ z => wpAny_mono z (fun _ _ z => by cases z with | mk J N ds σ₂ e PP IT q => exact ⟨J, N, ds, σ₂, e, PP, IT, q.1, fun i σ' hi inv => ⟨_, fun wr okw => asg_name (sto_local okw hx), fun wr okw => q.2.1 i σ' wr hi inv okw⟩, q.2.2⟩) fun _ _ z => z) fun _ _ z => z) hs
theorem WX_ForC {x : Str} {c : Addr} {tp : Pos} {iter : Expr} {body orelse : List Stmt} {pos : Pos} {Q : FV → S → Prop} (ok : Ok X n) (hc : X.ctx = none) (he : X.env = X.fenv) (hx : X.env.kindOf x = some .cell) (hcl : X.env.cells.lookup x = some c) (I : Nat → S → Prop)
    (h : WIt X iter σ (fun N ds σ₁ => I 0 σ₁ ∧ (∀ i σ', i < N → I i σ' → (∃ v₀, σ'.hp c = some (.cell v₀)) ∧ ∀ wr, Ok (X.watch wr) n → WXs (X.watch wr) body { σ' with hp := upd σ'.hp c (.cell (some (ds i))) } (fun f σ₂ => match f with | .next => I (i + 1) σ₂ | .cont => I (i + 1) σ₂ | .brk => Q .next σ₂ | .ret d => Q (.ret d) σ₂) E) ∧
      (∀ σ', I N σ' → WXs X orelse σ' Q E)) E)
    (hs : ∀ env x, foldedSetIterable iter env x = pure x) : WX X (.For (.Name x tp) iter body orelse pos) σ Q E :=
  WX_ForG ok hc he I (WIt.toG fun s st => wpAny_mono (h s st) (fun _ _ z => wpAny_mono z (fun _ _ z => by cases z with | mk J N ds σ₂ e PP IT q => exact ⟨J, N, ds, σ₂, e, PP, IT, q.1, fun i σ' hi inv => ⟨_, fun wr okw => asg_name (sto_cell okw hx hcl (q.2.1 i σ' hi inv).1.choose_spec), (q.2.1 i σ' hi inv).2⟩, q.2.2⟩) fun _ _ z => z) fun _ _ z => z) hs
end
end Mine
namespace Mine
open PySem PySem.W PySem.Calls PySem.Spec PyProof.Rows
section
variable {X : Cx} {n : Nat} {σ : S} {E : Value → S → Prop}
theorem compLoopG {prog : Program} {w : World} {A : Around} {s : Shared} {elt target iter : Expr} {ifs : List Expr} {scope : Scope} {pos : Pos} {it acc : Value} {env : Env} {R : Result → Shared → Prop} (I : Nat → Shared → Prop)
    (turn : ∀ n s, I n s → wpAny (model prog w) A (pyNext it) (fun r s₁ => match r with
      | none => R (.ok .next) s₁
      | some v => wpAny (model prog w) A (letOwnedTupleGo target it v) (fun _ s₀ => wpAny (model prog w) A (assign target env v) (fun _ s₂ =>
          wpAny (model prog w) A (tests ifs env) (fun ok s₃ =>
            if ok = true then wpAny (model prog w) A (eval elt env) (fun x s₄ =>
              wpAny (model prog w) A (call (.builtin "list.append") [acc, x]) (fun _ s₅ => ∃ m, m < n ∧ I m s₅) (notedBy (model prog w) A env fun e s' => R (.error e) s') s₄) (notedBy (model prog w) A env fun e s' => R (.error e) s') s₃
            else ∃ m, m < n ∧ I m s₃) (notedBy (model prog w) A env fun e s' => R (.error e) s') s₂) (notedBy (model prog w) A env fun e s' => R (.error e) s') s₀) (notedBy (model prog w) A env fun e s' => R (.error e) s') s₁) (notedBy (model prog w) A env fun e s' => R (.error e) s') s)
    (n : Nat) (h : I n s) : codeAny (model prog w) A (.compLoop (.ListComp elt [⟨target, iter, ifs, 0⟩] scope pos) 0 it acc env) R s := by
  refine codeAny_loop rfl I (fun n s hI => ?_) n h
  show wpAny _ A ((compTurn (.ListComp elt [⟨target, iter, ifs, 0⟩] scope pos) 0 it acc env).onRaise (fun x => do noteFrame x env; theTreesLotGoes x)) _ _ s
  refine wpAny_noted ?_
  rw [compTurn_list]
  refine wpAny_bind (wpAny_standAt (wpAny_bind (wpAny_mono (turn n s hI) (fun r s₁ h₁ => ?_) fun _ _ h' => h')))
  cases r with
  | none => exact wpAny_pure h₁
  | some v =>
    refine wpAny_bind (wpAny_mono h₁ (fun _ s₀ h₀ => ?_) fun _ _ h' => h')
    refine wpAny_bind (wpAny_mono h₀ (fun _ s₂ h₂ => wpAny_bind (wpAny_mono h₂ (fun ok s₃ h₃ => ?_) fun _ _ h' => h')) fun _ _ h' => h')
    cases ok with
    | false => exact wpAny_pure ⟨rfl, h₃⟩
    | true =>
      exact wpAny_bind (wpAny_bind (wpAny_mono h₃ (fun x s₄ h₄ => wpAny_bind (wpAny_mono h₄ (fun _ s₅ h₅ => wpAny_pure (wpAny_pure ⟨rfl, h₅⟩)) fun _ _ h' => h')) fun _ _ h' => h'))
structure InC (X Z : Cx) (scope : Scope) (cl : List (Str × Addr)) : Prop where
  K : Z.K = X.K
  w : Z.w = X.w
  prog : Z.prog = X.prog
  ctx : Z.ctx = X.ctx
  scope : Z.env.scope = relabel scope X.env
  cells : Z.env.cells = cl
noncomputable def relS (scope es : Scope) : List (Str × NameKind) := scope.names.map fun (n, k) => if (k == .free && es.kind == .function && es.names.lookup n == some .cell) then (n, .cell) else (n, k)
theorem InC.kind {Z : Cx} {scope es : Scope} {cl : List (Str × Addr)} {x : Str} {k : Option NameKind} (h : InC X Z scope cl) (he : X.env.scope = es) (e : (relS scope es).lookup x = k) : Z.env.kindOf x = k := by
  subst he
  unfold Env.kindOf
  rw [h.scope]; exact e
noncomputable def closL (cells : List (Str × Addr)) : List (Str × NameKind) → List (Str × Addr) → Option (List (Str × Addr))
  | [], acc => some acc
  | (x, k) :: r, acc => if k == .free then (match cells.lookup x with | some c => closL cells r ((x, c) :: acc) | none => none) else closL cells r acc
theorem closL_ok {env : Env} {scope : Scope} {cells cl : List (Str × Addr)} (hc : env.cells = cells) (h : closL cells scope.names [] = some cl) : closureFor scope env = pure cl := by
  subst hc
  have : ∀ (names : List (Str × NameKind)) (acc : List (Str × Addr)), closL env.cells names acc = some cl → (forIn names acc fun (p : Str × NameKind) cs => do
      if p.2 == .free then do let c ← cellOf env p.1; pure (ForInStep.yield ((p.1, c) :: cs)) else pure (ForInStep.yield cs) : Sem (List (Str × Addr))) = pure cl := by
    intro names
    induction names with
    | nil => intro acc e; cases e; rfl
    | cons p r ih =>
      intro acc e
      obtain ⟨x, k⟩ := p
      rw [List.forIn_cons]
      unfold closL at e
      dsimp only
      by_cases hk : (k == NameKind.free) = true
      · rw [if_pos hk] at e ⊢
        cases hl : env.cells.lookup x with
        | none => rw [hl] at e; cases e
        | some c =>
          rw [hl] at e
          have e1 : cellOf env x = pure c := by unfold cellOf; rw [hl]
          rw [e1]
          exact ih _ e
      · rw [if_neg hk] at e ⊢
        exact ih _ e
  have h2 := this scope.names [] h
  exact (congrArg (fun z : Sem (List (Str × Addr)) => z >>= fun s => pure s) h2).trans rfl
theorem post_off {s s' : Shared} {σ' : S} {C : Addr} {h' : Heap} (st : St X σ s.heap) (P : Post X σ s σ' s') (hC : s.heap.get? C = none) (hn : ∃ m, s'.heap.Ns C m) (hmu : ¬ σ'.mu C) (hs : Heap.SameBut C s'.heap h') : Post X σ s σ' { s' with heap := h' } := by
  have ne : ∀ a o, s.heap.get? a = some o → a ≠ C := fun a o g q => by rw [q, hC] at g; cases g
  have sb : ∀ b o, b ≠ C → s'.heap.get? b = some o → h'.get? b = some o := fun b o n g => (hs.2 b n).trans g
  have cb : X.base.get? C = none := by
    cases q : X.base.get? C with
    | none => rfl
    | some o => have := st.base _ o q; rw [hC] at this; cases this
  obtain ⟨h₂, tk', e⟩ := P.upd
  obtain ⟨mC, oC, esC, epC, gC, dC, _⟩ := hn
  refine ⟨⟨h', tk', by rw [e]⟩, ⟨fun a o g nm q => let ⟨g', n'⟩ := P.ext.seq a o g nm q; ⟨sb a o (ne a o g) g', n'⟩, fun a o g nm l q => let ⟨n', sl, g'⟩ := P.ext.obj a o g nm l q; ⟨n', sl, sb a _ (ne a o g) g'⟩, fun a ha o g => let ⟨g', n'⟩ := P.ext.watch a ha o g; ⟨sb a o (ne a o g) g', n'⟩⟩,
    ⟨fun b o g => sb b o (fun q => by rw [q, cb] at g; cases g) (P.st.base b o g), ?_, fun a o g => ?_, P.st.locOff, fun a ha => ?_, fun e he => ?_⟩⟩
  · obtain ⟨m, hn, hm⟩ := P.st.names
    obtain ⟨m0, ⟨o0, _, _, g0, _⟩, _⟩ := st.names
    exact ⟨m, hn.at' fun o g => sb _ o (ne _ _ g0) g, fun y d e => let ⟨v, q, r⟩ := hm y d e; ⟨v, q, r.monoS fun b ob gb nb qb => ⟨sb b ob (fun z => by rw [z, gC] at gb; cases gb; rw [dC] at qb; exact qb) gb, nb⟩⟩⟩
  · obtain ⟨y, z⟩ := P.st.own a o g
    have an : a ≠ C := fun q => hmu (by show σ'.hp C ≠ none; rw [← q, g]; exact Option.some_ne_none _)
    exact ⟨y.mono (L := C) (prot := []) ⟨fun b ob gb nb qb => ⟨sb b ob (fun z => by rw [z, gC] at gb; cases gb; rw [dC] at qb; exact qb) gb, nb⟩, fun b ob gb nb lb qb => ⟨nb, ob.slots, sb b ob lb gb⟩, fun b hb => nomatch hb⟩ (hs.2 a an), z⟩
  · obtain ⟨z, o, vs, g, d⟩ := P.st.prot a ha
    obtain ⟨_, o1, vs1, g1, _⟩ := st.prot a ha
    exact ⟨z, o, vs, sb a o (ne a _ g1) g, d⟩
  · obtain ⟨z, L, o, es, ep, hfr, hb, hmu, g, d⟩ := P.st.frs e he
    obtain ⟨_, L', o', es', ep', hf', hb', hm', g', d'⟩ := st.frs e he
    rw [hfr] at hf'; cases hf'
    exact ⟨z, L, o, es, ep, hfr, hb, hmu, sb L o (ne L o' g') g, d⟩
theorem comp_block {tg elt iter : Expr} {pos : Pos} {ifs : List Expr} {scope : Scope} {cl : List (Str × Addr)} {s₂ : Shared} {J : Addr} {N : Nat} {P : Nat → (Addr → Prop) → Heap → Value → Prop} {keep : Nat → Bool} {es : Nat → V} {RR : Value → Addr → Result → Shared → Prop} {E' : Value → Shared → Prop} (ok : Ok X n) (hc : X.ctx = none)
    (hcell : ∀ y ∈ scope.names, y.2 ≠ .cell) (hkind : scope.kind = .function) (st : St X σ s₂.heap) (IT : ItG X σ s₂.heap J tg N P) (hN : N ≤ 10000)
    (item : ∀ Z D i σ', i < N → σ.hp D = none → σ'.hp = upd σ.hp D (.lst (accOf keep es i)) → InC X Z scope cl → Ok Z n → ∃ σb, Asg Z tg (P i) σ' σb ∧ W Z (tests ifs Z.env) RB σb
      (fun b σ₂ => b = keep i ∧ σ₂.hp = upd σ.hp D (.lst (accOf keep es i)) ∧ (b = true → W Z (eval elt Z.env) VM σ₂ (fun v σ₃ => v = es i ∧ σ₃.hp = upd σ.hp D (.lst (accOf keep es i))) F0)) F0)
    (hRR : ∀ D C s', s₂.heap.get? C = none → σ.hp D = none → σ.hp C = none → D ≠ C → Post X σ s₂ ⟨σ.loc, upd σ.hp D (.lst (accOf keep es N))⟩ s' → (∃ m, s'.heap.Ns C m) → RR (.ref D) C (.ok .next) s') :
    wpAny (model X.prog X.w) X.A (newList []) (fun acc s₃ => wpAny (model X.prog X.w) X.A (newFunctionEnv scope X.env.globals cl [] X.env.qual none .none (some X.env)) (fun cenv s₄ =>
      codeAny (model X.prog X.w) X.A (.compStart (.ListComp elt [⟨tg, iter, ifs, 0⟩] scope pos) 0 (.ref J) acc { cenv with scope := relabel scope X.env }) (RR acc cenv.locals) s₄) E' s₃) E' s₂ := by
  obtain ⟨m₀, hn₀, hm₀⟩ := st.names
  have nD := new_none st
  refine wpAny_newList ?_
  have P3 := post_write (h' := s₂.heap.push { cls := .type "list", data := .seq ([] : List Value).toArray }) (tk := s₂.toks) (a := s₂.heap.objs.size) (o := .lst []) ok st (fun b o _ _ e => Heap.get?_push_of_some _ e) ⟨m₀, hn₀.push _, hm₀⟩ (.inr (Heap.get?_none_of_le (Nat.le_refl _)))
      fun _ _ mv => ⟨[], 0, Heap.get?_push_size _ rfl, .nil⟩
  refine wpAny_newFunctionEnv hcell (by intro y hy; simp at hy) (fun h₁ hns₁ hsb₁ => ?_) hkind
  dsimp only at hns₁ hsb₁ ⊢
  have hCs : (s₂.heap.push { cls := .type "list", data := .seq ([] : List Value).toArray }).objs.size = s₂.heap.objs.size + 1 := Heap.size_push ..
  have hC0 : s₂.heap.get? (s₂.heap.push { cls := .type "list", data := .seq ([] : List Value).toArray }).objs.size = none := by rw [hCs]; exact Heap.get?_none_of_le (Nat.le_succ _)
  have hDC : s₂.heap.objs.size ≠ (s₂.heap.push { cls := .type "list", data := .seq ([] : List Value).toArray }).objs.size := by rw [hCs]; exact (Nat.succ_ne_self _).symm
  have hCn : σ.hp (s₂.heap.push { cls := .type "list", data := .seq ([] : List Value).toArray }).objs.size = none := by
    cases q : σ.hp (s₂.heap.push { cls := .type "list", data := .seq ([] : List Value).toArray }).objs.size with
    | none => rfl
    | some o => obtain ⟨ob, g⟩ := (st.own _ o q).1.there; rw [hC0] at g; cases g
  generalize hH : s₂.heap.push { cls := .type "list", data := .seq ([] : List Value).toArray } = H at P3 hns₁ hsb₁ hC0 hDC hCn ⊢
  have hC : H.get? H.objs.size = none := Heap.get?_none_of_le (Nat.le_refl _)
  have k₁ : ∀ b o, H.get? b = some o → h₁.get? b = some o := fun b o e => hsb₁.extBut b o (Nat.ne_of_lt (Heap.lt_size e)) (Heap.get?_push_of_some _ e)
  have kk : ∀ b o, s₂.heap.get? b = some o → h₁.get? b = some o := fun b o e => k₁ b o (hH ▸ Heap.get?_push_of_some _ e)
  have nf := new_facts P3.st
  have ce : CEnv X (compEnvC scope cl H.objs.size X.env) := ⟨hkind, rfl, rfl, rfl⟩
  have ab : X.base.objs.size ≤ H.objs.size := by
    obtain ⟨m, hn, _⟩ := P3.st.names
    exact Nat.le_trans ok.above (Nat.le_of_lt hn.lt)
  have okc := ok_comp (cenv := compEnvC scope cl H.objs.size X.env) ok ce ab nf.2.2
  have st₀ := st_comp (cenv := compEnvC scope cl H.objs.size X.env) (loc0 := []) P3.st hC hns₁ k₁ (fun y d e => by simp [lk] at e)
  have IT' : ItG (X.comp (compEnvC scope cl H.objs.size X.env)) ⟨[], upd σ.hp s₂.heap.objs.size (.lst [])⟩ h₁ J tg N P := IT.grow kk fun b o g nm mm => nm (by
    have : upd σ.hp s₂.heap.objs.size (.lst []) b ≠ none := mm
    rwa [upd_ne (Nat.ne_of_lt (Heap.lt_size g))] at this)
  obtain ⟨wr, G, g0, gp, self, next, done⟩ := loopG (s₂ := { s₂ with heap := h₁, toks := s₂.toks + ([] : List (Str × Value)).length }) okc hc IT' st₀
  have lp : codeAny (model X.prog X.w) X.A (.compLoop (.ListComp elt [⟨tg, iter, ifs, 0⟩] scope pos) 0 (.ref J) (.ref s₂.heap.objs.size) (compEnvC scope cl H.objs.size X.env)) (RR (.ref s₂.heap.objs.size) H.objs.size) { s₂ with heap := h₁, toks := s₂.toks + ([] : List (Str × Value)).length } := by
    refine compLoopG (fun k s' => ∃ i σ', i + k = N ∧ G i σ' s' ∧ σ'.hp = upd σ.hp s₂.heap.objs.size (.lst (accOf keep es i))) (fun k s' hI => ?_) N ⟨0, _, Nat.zero_add _, g0, rfl⟩
    obtain ⟨i, σ', hik, g, hhp⟩ := hI
    by_cases hi : i < N
    · have it' := fun okw => item ((X.comp (compEnvC scope cl H.objs.size X.env)).watch wr) s₂.heap.objs.size i σ' hi nD hhp ⟨rfl, rfl, rfl, rfl, rfl, rfl⟩ okw
      by_cases okw : Ok ((X.comp (compEnvC scope cl H.objs.size X.env)).watch wr) n
      · obtain ⟨σb, asg, hb⟩ := it' okw
        refine next i σ' s' σb _ _ _ hi g (fun _ => asg) (fun _ s₃ P₃ st₃ gn => ?_) fun v s₁ z => z
        refine wpAny_mono (hb s₃ st₃) (fun ok s₄ z => ?_) fun _ _ z => z.elim0
        obtain ⟨b, σ₂, Pe, e, hbk, hp₂, helt⟩ := z
        cases e
        cases hok : ok
        · simp only [Bool.false_eq_true, if_false]
          exact ⟨k - 1, by omega, i + 1, σ₂, by omega, gn _ _ Pe, by rw [hp₂, accOf_succ, ← hbk, hok]; rfl⟩
        · simp only [if_true]
          refine wpAny_mono ((helt hok).go Pe) (fun v s₅ z => ?_) fun _ _ z => z.elim0
          obtain ⟨vv, σ₃, Pf, vm, rfl, hp₃⟩ := z
          have hDl : σ₃.hp s₂.heap.objs.size = some (.lst (accOf keep es i)) := by rw [hp₃, upd_self]
          refine wpAny_mono (c_append (E := F0) (Q := fun d σ₄ => d = .none ∧ σ₄ = { σ₃ with hp := upd σ₃.hp s₂.heap.objs.size (.lst (accOf keep es i ++ [es i])) }) okw hDl (Nat.le_trans (accOf_len _ _ _) (by omega)) ⟨rfl, rfl⟩ [.ref s₂.heap.objs.size, v] s₅ Pf.st (.cons (.ref _) (.cons vm .nil))) (fun _ s₆ z => ?_) fun _ _ z => z.elim0
          obtain ⟨_, _, Pg, _, _, rfl⟩ := z
          refine ⟨k - 1, by omega, i + 1, _, by omega, gn _ _ (Pf.trans Pg), ?_⟩
          show upd σ₃.hp _ _ = _
          rw [hp₃, upd_upd, accOf_succ, ← hbk, hok]; rfl
      · refine next i σ' s' σ' (fun _ => False) _ _ hi g (fun okw' => absurd okw' okw) (fun okw' => absurd okw' okw) fun v s₁ z => wpAny_mono z (fun _ _ z => wpAny_mono z (fun _ _ z => z.elim) fun _ _ z => z) fun _ _ z => z
    · obtain rfl : i = N := by omega
      refine done σ' s' _ _ g fun s₃ P₃ => ?_
      have PP := (gp _ _ _ g).trans P₃
      have Pf := comp_back (s := { s₂ with heap := H }) (σ := { σ with hp := upd σ.hp s₂.heap.objs.size (.lst []) }) P3.st hC k₁ ⟨_, _, rfl⟩ PP (h' := s₃.heap) ⟨rfl, fun _ _ => rfl⟩
      obtain ⟨m, hn, _⟩ := PP.st.names
      rw [hhp] at Pf
      exact hRR _ _ _ hC0 nD hCn hDC (P3.trans Pf) ⟨m, hn⟩
  exact codeAny_compStart_list lp (self 0 _ _ _ _ g0 lp)
theorem W_CompG {tg elt iter : Expr} {pos : Pos} {ifs : List Expr} {scope : Scope} {cl : List (Str × Addr)} {Q : V → S → Prop} (ok : Ok X n) (hc : X.ctx = none)
    (hclos : closureFor scope X.env = pure cl) (hcell : ∀ y ∈ scope.names, y.2 ≠ .cell) (hkind : scope.kind = .function) (hnames : ∀ y ∈ scope.names, y.2 = .local → scope.names.lookup y.1 = some .local)
    (h : WItG X iter tg σ (fun N P σ₁ => N ≤ 10000 ∧ ∃ keep es, (∀ Z D i σ', i < N → σ₁.hp D = none → σ'.hp = upd σ₁.hp D (.lst (accOf keep es i)) → InC X Z scope cl → Ok Z n → ∃ σb, Asg Z tg (P i) σ' σb ∧ W Z (tests ifs Z.env) RB σb
      (fun b σ₂ => b = keep i ∧ σ₂.hp = upd σ₁.hp D (.lst (accOf keep es i)) ∧ (b = true → W Z (eval elt Z.env) VM σ₂ (fun v σ₃ => v = es i ∧ σ₃.hp = upd σ₁.hp D (.lst (accOf keep es i))) F0)) F0) ∧ Q (.lst (accOf keep es N)) σ₁) E)
    (hs : ∀ env x, foldedSetIterable iter env x = pure x) : WE X (.ListComp elt [⟨tg, iter, ifs, 0⟩] scope pos) σ Q E := fun s st => by
  rw [eval_ListComp]
  refine wpAny_comprehension_free (use := none) rfl (hs _) hclos hkind hnames (wpAny_mono (h s st) (fun _ _ z => wpAny_mono z (fun it s₂ hh => ?_) fun _ _ z => z) fun _ _ z => z)
  obtain ⟨J, N, P, σ₁, rfl, P12, IT, hN, keep, es, item, q⟩ := hh
  refine comp_block (RR := fun acc C => compPost (model X.prog X.w) X.A (Ew X σ s E) none (Qw X σ s VM Q) acc C) ok hc hcell hkind P12.st IT hN item fun D C s' hC hD hCn hDC PP hn => ?_
  obtain ⟨m, hn'⟩ := hn
  refine ⟨m, hn', fun h' hsb => ?_⟩
  have P4 := P12.trans (post_off P12.st PP hC ⟨m, hn'⟩ (fun z => z (by show upd σ₁.hp D _ C = none; rw [upd_ne hDC.symm]; exact hCn)) hsb)
  have hs : ∀ a o, σ₁.hp a = some o → upd σ₁.hp D (.lst (accOf keep es N)) a = some o := fun a o e => by
    rw [upd_ne (fun q => by rw [q, hD] at e; cases e)]; exact e
  exact ⟨.lst (accOf keep es N), σ₁, post_drop P4 hs (fun _ _ e => e), Fz.vm (σ := ⟨σ₁.loc, upd σ₁.hp D (.lst (accOf keep es N))⟩) P4.st hs (.own upd_self hD) (.ref _), q⟩
theorem WX_AssignCompG {tg elt iter : Expr} {pos : Pos} {ifs : List Expr} {scope : Scope} {cl : List (Str × Addr)} {y : Str} {py spos : Pos} {Q : FV → S → Prop} (ok : Ok X n) (hc : X.ctx = none)
    (hclos : closureFor scope X.env = pure cl) (hcell : ∀ y ∈ scope.names, y.2 ≠ .cell) (hkind : scope.kind = .function) (hnames : ∀ y ∈ scope.names, y.2 = .local → scope.names.lookup y.1 = some .local)
    (hsw : swapsWith (.ListComp elt [⟨tg, iter, ifs, 0⟩] scope pos) (some (.Name y py)) spos.line X.env = pure true) (hy : X.env.kindOf y = some .local)
    (h : WItG X iter tg σ (fun N P σ₁ => N ≤ 10000 ∧ ∃ keep es, (∀ Z D i σ', i < N → σ₁.hp D = none → σ'.hp = upd σ₁.hp D (.lst (accOf keep es i)) → InC X Z scope cl → Ok Z n → ∃ σb, Asg Z tg (P i) σ' σb ∧ W Z (tests ifs Z.env) RB σb
      (fun b σ₂ => b = keep i ∧ σ₂.hp = upd σ₁.hp D (.lst (accOf keep es i)) ∧ (b = true → W Z (eval elt Z.env) VM σ₂ (fun v σ₃ => v = es i ∧ σ₃.hp = upd σ₁.hp D (.lst (accOf keep es i))) F0)) F0) ∧ Q .next { σ₁ with loc := put σ₁.loc y (.lst (accOf keep es N)) }) E)
    (hs : ∀ env x, foldedSetIterable iter env x = pure x) : WX X (.Assign [.Name y py] (.ListComp elt [⟨tg, iter, ifs, 0⟩] scope pos) spos) σ Q E := fun s st => by
  rw [exec_Assign_Name_used _ _ _ _ hsw]
  refine wpAny_bind (wpAny_standAt (wpAny_bind ?_))
  show wpAny _ _ (do let _ ← comprehension (.ListComp elt [⟨tg, iter, ifs, 0⟩] scope pos) scope X.env _ (newList []) false (eval iter X.env) (some (assign (.Name y py) X.env))) _ _ s
  refine wpAny_bind (wpAny_mono (wpAny_comprehension_free (use := some (assign (.Name y py) X.env)) (Q := fun _ s' => Qw X σ s FM Q .next s') rfl (hs _) hclos hkind hnames (wpAny_mono (h s st) (fun _ _ z => wpAny_mono z (fun it s₂ hh => ?_) fun _ _ z => z) fun _ _ z => z)) (fun _ s' hq => wpAny_pure (wpAny_pure hq)) fun _ _ e => e)
  obtain ⟨J, N, P, σ₁, rfl, P12, IT, hN, keep, es, item, q⟩ := hh
  refine comp_block (RR := fun acc C => compPost (model X.prog X.w) X.A (Ew X σ s E) (some (assign (.Name y py) X.env)) (fun _ s' => Qw X σ s FM Q .next s') acc C) ok hc hcell hkind P12.st IT hN item fun D C s' hC hD hCn hDC PP hn => ?_
  obtain ⟨m, oC, esC, epC, gC, dC, rC⟩ := hn
  have hs : ∀ a o, σ₁.hp a = some o → upd σ₁.hp D (.lst (accOf keep es N)) a = some o := fun a o e => by
    rw [upd_ne (fun q => by rw [q, hD] at e; cases e)]; exact e
  have P5 := post_drop (hp := σ₁.hp) PP hs (fun _ _ e => e)
  have vm : VM σ₁.mu s'.heap (.ref D) (.lst (accOf keep es N)) := Fz.vm (σ := ⟨σ₁.loc, upd σ₁.hp D (.lst (accOf keep es N))⟩) PP.st hs (.own upd_self hD) (.ref _)
  show wpAny _ _ (assign (.Name y py) X.env (.ref D)) _ _ _
  refine wpAny_assign_Name (wpAny_mono (sto_local ok hy _ s' P5.st vm) (fun _ s₃ z => ?_) fun _ _ z => z.elim)
  obtain ⟨_, _, P6, _, rfl⟩ := z
  have CL : C ≠ X.env.locals := fun z => by
    obtain ⟨m0, ⟨o0, _, _, g0, _⟩, _⟩ := P12.st.names
    rw [← z, hC] at g0; cases g0
  obtain ⟨_, sl, gC'⟩ := P6.ext.obj C oC gC (fun z => z hCn) CL fun vs q => by rw [dC] at q; cases q
  refine ⟨m, ⟨_, esC, epC, gC', dC, rC⟩, fun h' hsb => ?_⟩
  exact ⟨.next, _, P12.trans (post_off P12.st (P5.trans P6) hC ⟨m, _, esC, epC, gC', dC, rC⟩ (fun z => z hCn) hsb), trivial, q⟩
theorem sub_one {x : Str} {d : V} {loc : List (Str × V)} : ∀ y e, lk [(x, d)] y = some e → lk (put loc x d) y = some e := fun y e h => by
  by_cases hy : y = x
  · subst hy; rw [lk_put_self]; simpa [lk] using h
  · have : (y == x) = false := by simpa using hy
    simp [lk, List.lookup_cons, this] at h
theorem sub_two {x1 x2 : Str} {d1 d2 : V} {loc : List (Str × V)} : ∀ y e, lk [(x2, d2), (x1, d1)] y = some e → lk (put (put loc x1 d1) x2 d2) y = some e := fun y e h => by
  by_cases hy : y = x2
  · subst hy; rw [lk_put_self]; simpa [lk] using h
  · have : (y == x2) = false := by simpa using hy
    rw [lk_put_ne hy]
    simp only [lk, List.lookup_cons, this] at h
    exact sub_one y e (by simpa [lk, List.lookup_cons] using h)
theorem W_Comp {x : Str} {px pos : Pos} {elt iter : Expr} {ifs : List Expr} {scope : Scope} {cl : List (Str × Addr)} {Q : V → S → Prop} (ok : Ok X n) (hc : X.ctx = none)
    (hclos : closureFor scope X.env = pure cl) (hcell : ∀ y ∈ scope.names, y.2 ≠ .cell) (hkind : scope.kind = .function) (hnames : ∀ y ∈ scope.names, y.2 = .local → scope.names.lookup y.1 = some .local) (hx : scope.names.lookup x = some .local)
    (h : WIt X iter σ (fun N ds σ₁ => N ≤ 10000 ∧ ∃ keep es, (∀ Z D i, i < N → σ₁.hp D = none → InC X Z scope cl → Ok Z n → W Z (tests ifs Z.env) RB ⟨[(x, ds i)], upd σ₁.hp D (.lst (accOf keep es i))⟩
      (fun b σ₂ => b = keep i ∧ σ₂.hp = upd σ₁.hp D (.lst (accOf keep es i)) ∧ (b = true → W Z (eval elt Z.env) VM σ₂ (fun v σ₃ => v = es i ∧ σ₃.hp = upd σ₁.hp D (.lst (accOf keep es i))) F0)) F0) ∧ Q (.lst (accOf keep es N)) σ₁) E)
    (hs : ∀ env x, foldedSetIterable iter env x = pure x) : WE X (.ListComp elt [⟨.Name x px, iter, ifs, 0⟩] scope pos) σ Q E :=
  W_CompG ok hc hclos hcell hkind hnames (WIt.toG fun s st => wpAny_mono (h s st) (fun _ _ z => wpAny_mono z (fun _ _ z => by cases z with | mk J N ds σ₂ e PP IT z => obtain ⟨hN, keep, es, item, q⟩ := z; exact ⟨J, N, ds, σ₂, e, PP, IT, hN, keep, es, fun Z D i σ' hi hD hh inc okZ =>
    ⟨{ σ' with loc := put σ'.loc x (ds i) }, asg_name (sto_local okZ (by unfold Env.kindOf; rw [inc.scope]; exact lookup_relabel_local hx)), W.drop ⟨sub_one, fun a o e => by show σ'.hp a = some o; rw [hh]; exact e⟩ (item Z D i hi hD inc okZ)⟩, q⟩) fun _ _ z => z) fun _ _ z => z) hs
theorem W_CompT {x1 x2 : Str} {k : Nat} {tp p1 p2 pos : Pos} {elt iter : Expr} {ifs : List Expr} {scope : Scope} {cl : List (Str × Addr)} {Q : V → S → Prop} (ok : Ok X n) (hc : X.ctx = none)
    (hclos : closureFor scope X.env = pure cl) (hcell : ∀ y ∈ scope.names, y.2 ≠ .cell) (hkind : scope.kind = .function) (hnames : ∀ y ∈ scope.names, y.2 = .local → scope.names.lookup y.1 = some .local) (hx1 : scope.names.lookup x1 = some .local) (hx2 : scope.names.lookup x2 = some .local) (hne : x1 ≠ x2)
    (h : WItT X iter σ (fun N d1 d2 σ₁ => N ≤ 10000 ∧ ∃ keep es, (∀ Z D i, i < N → σ₁.hp D = none → InC X Z scope cl → Ok Z n → W Z (tests ifs Z.env) RB ⟨[(x2, d2 i), (x1, d1 i)], upd σ₁.hp D (.lst (accOf keep es i))⟩
      (fun b σ₂ => b = keep i ∧ σ₂.hp = upd σ₁.hp D (.lst (accOf keep es i)) ∧ (b = true → W Z (eval elt Z.env) VM σ₂ (fun v σ₃ => v = es i ∧ σ₃.hp = upd σ₁.hp D (.lst (accOf keep es i))) F0)) F0) ∧ Q (.lst (accOf keep es N)) σ₁) E)
    (hs : ∀ env x, foldedSetIterable iter env x = pure x) : WE X (.ListComp elt [⟨.Tuple [.Name x1 p1, .Name x2 p2] k tp, iter, ifs, 0⟩] scope pos) σ Q E :=
  W_CompG ok hc hclos hcell hkind hnames (WItT.toG fun s st => wpAny_mono (h s st) (fun _ _ z => wpAny_mono z (fun _ _ z => by cases z with | mk J N d1 d2 σ₂ e PP IT z => obtain ⟨hN, keep, es, item, q⟩ := z; exact ⟨J, N, d1, d2, σ₂, e, PP, IT, hN, keep, es, fun Z D i σ' hi hD hh inc okZ =>
    ⟨{ σ' with loc := put (put σ'.loc x1 (d1 i)) x2 (d2 i) }, asg_pair okZ (inc.ctx.trans hc) (sto_local okZ (by unfold Env.kindOf; rw [inc.scope]; exact lookup_relabel_local hx1)) (sto_local okZ (by unfold Env.kindOf; rw [inc.scope]; exact lookup_relabel_local hx2)), W.drop ⟨sub_two, fun a o e => by show σ'.hp a = some o; rw [hh]; exact e⟩ (item Z D i hi hD inc okZ)⟩, q⟩) fun _ _ z => z) fun _ _ z => z) hs
theorem swaps_comp {env : Env} {sc : Scope} {elt : Expr} {gs : List Comprehension} {scope : Scope} {pos py : Pos} {y : Str} {line : Nat} (he : env.scope = sc) (hk : sc.kind = .function) (h : (sc.kind == .function && sc.names.lookup y == some .local && py.line == pos.line && !(scope.names.any fun (n, k) => n == y && (k == .local || k == .cell))) = true) :
    swapsWith (.ListComp elt gs scope pos) (some (.Name y py)) line env = pure true := by
  subst he
  have e : env.blockKind = env.scope.kind := by unfold Env.blockKind; rw [hk]; rfl
  rw [← e] at h
  exact congrArg pure h
theorem WX_AssignComp {x : Str} {px pos : Pos} {elt iter : Expr} {ifs : List Expr} {scope : Scope} {cl : List (Str × Addr)} {y : Str} {py spos : Pos} {Q : FV → S → Prop} (ok : Ok X n) (hc : X.ctx = none)
    (hclos : closureFor scope X.env = pure cl) (hcell : ∀ y ∈ scope.names, y.2 ≠ .cell) (hkind : scope.kind = .function) (hnames : ∀ y ∈ scope.names, y.2 = .local → scope.names.lookup y.1 = some .local) (hx : scope.names.lookup x = some .local)
    (hsw : swapsWith (.ListComp elt [⟨.Name x px, iter, ifs, 0⟩] scope pos) (some (.Name y py)) spos.line X.env = pure true) (hy : X.env.kindOf y = some .local)
    (h : WIt X iter σ (fun N ds σ₁ => N ≤ 10000 ∧ ∃ keep es, (∀ Z D i, i < N → σ₁.hp D = none → InC X Z scope cl → Ok Z n → W Z (tests ifs Z.env) RB ⟨[(x, ds i)], upd σ₁.hp D (.lst (accOf keep es i))⟩
      (fun b σ₂ => b = keep i ∧ σ₂.hp = upd σ₁.hp D (.lst (accOf keep es i)) ∧ (b = true → W Z (eval elt Z.env) VM σ₂ (fun v σ₃ => v = es i ∧ σ₃.hp = upd σ₁.hp D (.lst (accOf keep es i))) F0)) F0) ∧ Q .next { σ₁ with loc := put σ₁.loc y (.lst (accOf keep es N)) }) E)
    (hs : ∀ env x, foldedSetIterable iter env x = pure x) : WX X (.Assign [.Name y py] (.ListComp elt [⟨.Name x px, iter, ifs, 0⟩] scope pos) spos) σ Q E :=
  WX_AssignCompG ok hc hclos hcell hkind hnames hsw hy (WIt.toG fun s st => wpAny_mono (h s st) (fun _ _ z => wpAny_mono z (fun _ _ z => by cases z with | mk J N ds σ₂ e PP IT z => obtain ⟨hN, keep, es, item, q⟩ := z; exact ⟨J, N, ds, σ₂, e, PP, IT, hN, keep, es, fun Z D i σ' hi hD hh inc okZ =>
    ⟨{ σ' with loc := put σ'.loc x (ds i) }, asg_name (sto_local okZ (by unfold Env.kindOf; rw [inc.scope]; exact lookup_relabel_local hx)), W.drop ⟨sub_one, fun a o e => by show σ'.hp a = some o; rw [hh]; exact e⟩ (item Z D i hi hD inc okZ)⟩, q⟩) fun _ _ z => z) fun _ _ z => z) hs
end
end Mine
namespace Mine
open PySem PySem.W PySem.Calls PySem.Spec PyProof.Rows
section
variable {X : Cx} {n : Nat} {σ : S} {E : Value → S → Prop}
end
end Mine
namespace Mine
open PySem PySem.W PySem.Calls PySem.Spec PyProof.Rows
noncomputable def fdAt (K : Frag) (a : Addr) : FuncData := match K.lookup a with
  | some ⟨_, _, .func fd, _⟩ => fd
  | _ => default
noncomputable def bodyAt (K : Frag) (a : Addr) : List Stmt := match (fdAt K a).body with
  | .stmts b => b
  | _ => []
noncomputable def isFd (K : Frag) (a : Addr) : Bool := match K.lookup a with
  | some ⟨_, _, .func _, _⟩ => true
  | _ => false
noncomputable def fnOk (K : Frag) (a : Addr) : Bool :=
  isFd K a && codeIn K (fdAt K a).code (fdAt K a).qualname && (match (fdAt K a).body with | .stmts _ => true | _ => false) && (fdAt K a).globals == mainGlobals && (fdAt K a).builtins == builtinsNs &&
  (match (fdAt K a).scope.kind with | .function => true | _ => false) && !(fdAt K a).scope.isCoroutine && !(fdAt K a).scope.isGenerator && (fdAt K a).scope.names.all fun x => match x.2 with | .cell => false | _ => true
theorem FnIs.of {K : Frag} {a : Addr} (h : fnOk K a = true) : FnIs K a (fdAt K a) (bodyAt K a) := by
  unfold fnOk at h
  simp only [Bool.and_eq_true] at h
  obtain ⟨⟨⟨⟨⟨⟨⟨⟨h1, h2⟩, h3⟩, h4⟩, h5⟩, h6⟩, h7⟩, h8⟩, h9⟩ := h
  refine ⟨?_, h2, ?_, ?_, ?_, ?_, ?_, ?_, ?_⟩
  · unfold isFd at h1
    split at h1
    · rename_i q
      rename_i c d fd sl
      have e : fdAt K a = fd := by unfold fdAt; rw [q]
      exact ⟨c, d, sl, by rw [e]; exact q⟩
    · cases h1
  · unfold bodyAt
    split at h3
    · rename_i q; rw [q]
    · cases h3
  · exact eq_of_beq h4
  · exact eq_of_beq h5
  · split at h6
    · assumption
    · cases h6
  · simpa using h7
  · simpa using h8
  · intro x hx e
    have := List.all_eq_true.mp h9 x hx
    rw [e] at this
    cases this
end Mine
namespace Mine
open PySem PySem.W PySem.Calls PySem.Spec PyProof.Rows
section
variable {X : Cx} {n : Nat} {σ : S} {E : Value → S → Prop}
theorem lk_hit {x : Str} {d : V} {r : List (Str × V)} : lk ((x, d) :: r) x = some d := by simp [lk, List.lookup]
theorem lk_skip {x y : Str} {d e : V} {r : List (Str × V)} (h : x ≠ y) (k : lk r x = some d) : lk ((y, e) :: r) x = some d := by
  unfold lk at *
  rw [List.lookup_cons, show (x == y) = false from by simpa using h]
  exact k
theorem lk_cut {x y : Str} {e : V} {r : List (Str × V)} (h : x ≠ y) (k : lk r x = none) : lk ((y, e) :: r) x = none := by
  unfold lk at *
  rw [List.lookup_cons, show (x == y) = false from by simpa using h]
  exact k
theorem lkp_skip {x y : Str} {d e : V} {r : List (Str × V)} (h : x ≠ y) (k : lk r x = some d) : lk (put r y e) x = some d := (lk_put_ne h).trans k
noncomputable def clsOk (K : Frag) (C : Addr) (name : Str) : Bool := match findIn K (.ref C) name with
  | some attr => noGet K attr
  | none => false
theorem KGet.of {K K' : Frag} {C : Addr} {name : Str} (hK : K = K') (h1 : plainGet K' C name = true) (h2 : hasDictIn K' C = true) (h3 : clsOk K' C name = true) : KGet K C name := by
  subst hK
  refine ⟨h1, h2, ?_⟩
  unfold clsOk at h3
  split at h3
  · rename_i attr q; exact ⟨attr, q, h3⟩
  · cases h3
theorem KSet.of {K K' : Frag} {C : Addr} {name : Str} (hK : K = K') (h1 : findIn K' (.ref C) "__setattr__" = some (some (.builtin "object.__setattr__"))) (h2 : plainOver K' C = true) (h3 : takerIn K' C name = some none) (h4 : hasDictIn K' C = true) : KSet K C name := by subst hK; exact ⟨h1, h2, h3, h4⟩
theorem KMeth.of {K K' : Frag} {C f : Addr} {name : Str} (hK : K = K') (h1 : plainGet K' C name = true) (h2 : findIn K' (.ref C) name = some (some (.ref f))) (h3 : isFn K' (.ref f) = true) (h4 : keepIn K' (.ref f) = true) : KMeth K C name f := by subst hK; exact ⟨h1, h2, h3, h4⟩
theorem KB.of {K' : Frag} {x : Str} {v : Value} (hK : X.K = K') (h1 : X.env.kindOf x = some .globalImplicit) (h2 : nsIn K' mainGlobals x = some none) (h3 : bootBuiltins x = some v) : KB X x v := by subst hK; exact ⟨h1, h2, h3⟩
theorem W_gl {K' : Frag} {x : Str} {pos : Pos} {v : Value} {Q : V → S → Prop} (ok : Ok X n) (hK : X.K = K') (hx : X.env.kindOf x = some .globalImplicit) (e : nsIn K' mainGlobals x = some (some v)) (hd : (x == ("__debug__" : Str)) = false) (q : Q (.lit v) σ) : WE X (.Name x pos) σ Q E :=
  W_global ok hx (by rw [hK]; exact e) q hd
theorem W_bi {K' : Frag} {x : Str} {pos : Pos} {v : Value} {Q : V → S → Prop} (ok : Ok X n) (hK : X.K = K') (hx : X.env.kindOf x = some .globalImplicit) (e : nsIn K' mainGlobals x = some none) (hv : bootBuiltins x = some v) (hn : x ≠ "__name__") (hd : (x == ("__debug__" : Str)) = false) (q : Q (.lit v) σ) : WE X (.Name x pos) σ Q E :=
  W_builtin ok hx (by rw [hK]; exact e) hv hn q hd
theorem keeps_fn {K' : Frag} {f : Value} (hK : X.K = K') (h : keepIn K' f = true) : Keeps X f := keeps_of (by rw [hK]; exact h)
theorem ht_bi {K' : Frag} {x : Str} {pos : Pos} {v : Value} (ok : Ok X n) (hK : X.K = K') (hx : X.env.kindOf x = some .globalImplicit) (e : nsIn K' mainGlobals x = some none) (hv : bootBuiltins x = some v) (hn : x ≠ "__name__") (hd : (x == ("__debug__" : Str)) = false) :
    ∀ (A : Around) (σ' : S) (s : Shared) (Q' : Value → Shared → Prop) (E' : Value → Shared → Prop), St X σ' s.heap → Q' v s → wpAny (model X.prog X.w) A (eval (.Name x pos) X.env) Q' E' s := fun A σ' s Q' E' st q =>
  Name_function_global ok.kind hx (loadGlobal_builtin (ok.genv ▸ ok.top.g.keeps st.base) (mg_none_of ok.inK ok.top.g (by rw [hK]; exact e)) (ok.benv ▸ ok.top.b.keeps st.base) ((ok.top.builtins x hn).trans hv) q) hd
theorem W_field {x attr : Str} {xp pos : Pos} {a C dx : Addr} {fs : List (Str × V)} {d : V} {Q : V → S → Prop} (ok : Ok X n) (hx : X.env.kindOf x = some .local) (hd : (x == ("__debug__" : Str)) = false) (ex : lk σ.loc x = some (.ref a)) (h1 : σ.hp a = some (.inst C dx)) (h2 : σ.hp dx = some (.dict fs)) (kg : KGet X.K C attr)
    (e : lk fs attr = some d) (hl : ∀ w, d ≠ .lit w) (q : Q d σ) : WE X (.Attribute (.Name x xp) attr pos) σ Q E :=
  W_Attr (W_local ok hx ex (get_field ok h1 h2 kg e hl q) hd)
structure In (X Y : Cx) (fd : FuncData) : Prop where
  K : Y.K = X.K
  w : Y.w = X.w
  prog : Y.prog = X.prog
  ctx : Y.ctx = X.ctx
  env : Y.env = Y.fenv
  scope : Y.env.scope = fd.scope
theorem Call.fn' {K' : Frag} {f : Addr} {ds : List V} {names : List Str} {loc0 : List (Str × V)} {Q : V → S → Prop} (ok : Ok X (n + 1)) (hK : X.K = K') (hf : fnOk K' f = true)
    (hb : ∀ vs : List Value, vs.length = names.length → ∀ S, peek K' S (bindArgs (fdAt K' f) ⟨vs, []⟩) = some (names.zip vs)) (hl : (names.all fun x => (fdAt K' f).scope.names.lookup x == some .local) = true) (hn : names.Nodup) (hlen : ds.length = names.length) (h0 : loc0 = names.zip ds)
    (h : ∀ Y, Ok Y n → In X Y (fdAt K' f) → WXs Y (bodyAt K' f) ⟨loc0, σ.hp⟩ (fun fl σ' => Q (retV fl) ⟨σ.loc, σ'.hp⟩) (fun c σ' => E c ⟨σ.loc, σ'.hp⟩)) : Call X (.ref f) ds σ Q E := by
  subst h0
  subst hK
  exact Call.fn ok (FnIs.of hf) (fun vs s st vm => binds_place (fun vs e => kp_binds (st.inK ok) (hb vs e)) hl hn hlen vm) fun L okL => h _ okL ⟨rfl, rfl, rfl, rfl, rfl, rfl⟩
theorem len_one {vs : List Value} {n : Nat} (e : vs.length = n + 1) : ∃ v ws, vs = v :: ws ∧ ws.length = n := by
  cases vs with
  | nil => cases e
  | cons v ws => exact ⟨v, ws, rfl, Nat.succ.inj e⟩
theorem bind1 {P : List Value → Prop} (h : ∀ v, P [v]) : ∀ vs : List Value, vs.length = 1 → P vs := fun vs e => by
  obtain ⟨v, ws, rfl, e'⟩ := len_one e
  cases List.eq_nil_of_length_eq_zero e'; exact h v
theorem bind2 {P : List Value → Prop} (h : ∀ v w, P [v, w]) : ∀ vs : List Value, vs.length = 2 → P vs := fun vs e => by
  obtain ⟨v, ws, rfl, e'⟩ := len_one e
  exact bind1 (P := fun ws => P (v :: ws)) (fun w => h v w) ws e'
theorem kindE {env : Env} {fd : FuncData} {x : Str} {k : Option NameKind} (h : env.scope = fd.scope) (e : fd.scope.names.lookup x = k) : env.kindOf x = k := by unfold Env.kindOf; rw [h]; exact e
end
end Mine
namespace Mine
open PySem PySem.W PySem.Calls PySem.Spec PyProof.Rows
section
variable {X : Cx} {n : Nat} {σ : S} {E : Value → S → Prop}
theorem Call.make' {K' : Frag} {fI C : Addr} {names : List Str} {ds : List V} {loc0 : Addr → List (Str × V)} {Q : V → S → Prop} (ok : Ok X (n + 1)) (hK : X.K = K') (km : KMake K' C fI) (hf : fnOk K' fI = true)
    (hb : ∀ vs : List Value, vs.length = names.length → ∀ S, peek K' S (bindArgs (fdAt K' fI) ⟨vs, []⟩) = some (names.zip vs)) (hl : (names.all fun x => (fdAt K' fI).scope.names.lookup x == some .local) = true) (hn : names.Nodup) (hlen : ds.length + 1 = names.length) (h0 : ∀ a, loc0 a = names.zip (.ref a :: ds))
    (h : ∀ Y a dx, Ok Y n → In X Y (fdAt K' fI) → σ.hp a = none → σ.hp dx = none → a ≠ dx → WXs Y (bodyAt K' fI) ⟨loc0 a, upd (upd σ.hp dx (.dict [])) a (.inst C dx)⟩ (fun fl σ' => retV fl = .none ∧ Q (.ref a) ⟨σ.loc, σ'.hp⟩) (fun c σ' => E c ⟨σ.loc, σ'.hp⟩)) : Call X (.ref C) ds σ Q E := by
  subst hK
  refine Call.make ok km (FnIs.of hf) (loc0 := loc0) (fun a vs s mu inK vm => ?_) fun A' a dx L hA ha hd hne okL => h _ a dx okL ⟨rfl, rfl, rfl, rfl, rfl, rfl⟩ ha hd hne
  rw [h0]
  exact binds_place (fun vs e => kp_binds inK (hb vs e)) hl hn (by simpa using hlen) vm
end
end Mine
namespace Mine
open PySem PySem.W PySem.Calls PySem.Spec PyProof.Rows
theorem vms_ints {mu : Addr → Prop} {h : Heap} {vs : List Value} {ns : List Int} (x : IntsAre vs ns) : VMs mu h vs (ns.map .int) := by
  induction x with
  | nil => exact .nil
  | cons n t _ ih => exact .cons (.int n t) ih
end Mine
namespace Mine
open PySem PySem.Builtin.Str
theorem join_cons (sep x : Str) (r : List Str) (h : r ≠ []) : (Str.join sep (x :: r)).cps.toList = x.cps.toList ++ sep.cps.toList ++ (Str.join sep r).cps.toList := by
  cases r with
  | nil => exact absurd rfl h
  | cons y r =>
    show (x ++ sep ++ Str.join sep (y :: r)).cps.toList = _
    rw [Str.cps_append, Str.cps_append]; simp
noncomputable def jn (sep : List Nat) : List (List Nat) → List Nat
  | [] => []
  | [x] => x
  | x :: y :: r => x ++ sep ++ jn sep (y :: r)
theorem joinL_eq (sep : List Nat) (ls : List (List Nat)) : joinL sep ls = jn sep ls := by
  unfold joinL Txt.join
  rw [StrLaws.glued_eq_join]
  induction ls with
  | nil => rfl
  | cons x r ih =>
    cases r with
    | nil => rfl
    | cons y r =>
      rw [List.map_cons, join_cons _ _ _ (by simp), ih]; rfl
theorem jn_nil (ls : List (List Nat)) : jn [] ls = ls.flatten := by
  induction ls with
  | nil => rfl
  | cons x r ih =>
    cases r with
    | nil => simp [jn]
    | cons y r => rw [jn, ih]; simp
end Mine
namespace Mine
open PySem PySem.W PySem.Calls PySem.Spec PyProof.Rows
section
variable {X : Cx} {n : Nat} {σ : S} {E : Value → S → Prop} {Q : V → S → Prop}
theorem o_divi {a b : Int} (hb : b ≠ 0) (hs : b.natAbs < 1073741824) (q : Q (.int (a.fdiv b)) σ) : Op2 X (binaryOp .FloorDiv) (.int a) (.int b) σ Q E := fun _ _ _ st va wb => by
  cases va; cases wb; exact PyProof.Rows.floordiv_int hb (qw_same st _ (.int _ _) q) (.inl (PyProof.noPylong_small hs))
theorem o_addl {a b : V} {as bs : List V} (ha : Lst σ a as) (hb : Lst σ b bs) (hl : as.length + bs.length ≤ 100000) (q : Q (.lst (as ++ bs)) σ) : Op2 X (binaryOp .Add) a b σ Q E := fun v w s st va wb => by
  obtain ⟨l, ⟨_, dd, _, sl⟩, vs, k, rfl, g, rfl, rfl, vm⟩ := ha.get st va
  obtain ⟨l2, ⟨_, dd2, _, sl2⟩, ws, k2, rfl, g2, rfl, rfl, wm⟩ := hb.get st wb
  have e : vs.toArray ++ ws.toArray = (vs ++ ws).toArray := by simp
  refine concat_meets ⟨_, g, rfl⟩ ⟨_, g2, rfl⟩ noFill_list_add seq_list_add PySem.F.slot_list_add PySem.F.entry_list_add (PySem.F.args_list_add_2 _ _) (list_addW l l2 vs.toArray ws.toArray k k2 dd dd2 sl sl2 (by rw [List.size_toArray, List.size_toArray, vm.length, wm.length, sizeLine_eq]; omega)) ⟨g, g2, ?_⟩
  rw [e]
  have P := st_push st { cls := .type "list", data := .seq (vs ++ ws).toArray }
  exact ⟨_, σ, P, .lst (Heap.get?_push_size _ rfl) rfl rfl (new_off st) ((vm.mono P.ext).append (wm.mono P.ext)), q⟩
end
end Mine
namespace Mine
open PySem PySem.W PySem.Calls PySem.Spec PyProof.Rows
noncomputable def cells0 (L k : Nat) : Addr → Option HO := fun a => if L < a ∧ a ≤ L + k then some (.cell none) else none
theorem cells0_at {L k : Nat} {a : Addr} (h1 : L < a) (h2 : a ≤ L + k) : cells0 L k a = some (.cell none) := if_pos ⟨h1, h2⟩
theorem launchC {prog : Program} {w : World} {K : Frag} {p : Program} {loose : List Str} {mg mb : Str → Option Value} {s₁ : Shared} {h₁ : Heap} {name : Str} {fd : FuncData} {fa : Addr} {cd : Value} {al : Addr} {vs : List Value} {ns : List Int} {m : Str → Option Value} {tk : Nat} {body : List Stmt} {news : List (Addr × Obj)} {k : Nat}
    (hK : K.In s₁.heap) (T : TopRead p loose mg mb s₁.heap) (hL : s₁.heap.IsList al vs.toArray) (hI : IntsAre vs ns) (F : Fr s₁.heap s₁.heap.objs.size h₁ m) (hm : m "script" = some (.ref al)) (hk : fd.scope.kind = .function)
    (N : News s₁.heap s₁.heap.objs.size h₁ news) (hc : ∀ c, s₁.heap.objs.size < c → c ≤ s₁.heap.objs.size + k → ∃ o, (c, o) ∈ news ∧ o.data = .cell none)
    (h : ∀ X : Cx, Ok X 40 → X.K = K → X.prog = prog → X.w = w → X.ctx = none → In X X fd → X.env.cells = cellsFrom (s₁.heap.objs.size + 1) fd.scope.names [] → WXs X body ⟨[("script", .lst (ns.map .int))], cells0 s₁.heap.objs.size k⟩ (fun fl _ => fl = .ret (.bool true)) F0) :
    wpAny (model prog w) (callerA.deeper (envOfC name fd.scope s₁.heap.objs.size fa cd)) (execs body (envOfC name fd.scope s₁.heap.objs.size fa cd))
      (fun f s' => f = .ret (.bool true) ∧ ∃ h' tk', s' = { s₁ with heap := h', toks := tk' } ∧ s₁.heap.StaysIn h') (fun _ _ => False) { s₁ with heap := h₁, toks := tk } := by
  let env := envOfC name fd.scope s₁.heap.objs.size fa cd
  let X : Cx := { prog := prog, w := w, K := K, p := p, loose := loose, mg := mg, mb := mb, base := s₁.heap, A := callerA.deeper env, env := env, fenv := env, L := s₁.heap.objs.size, outer := [], prot := [] }
  have hn : s₁.heap.get? s₁.heap.objs.size = none := by
    cases hq : s₁.heap.get? s₁.heap.objs.size with
    | none => rfl
    | some o => exact absurd (Heap.lt_size hq) (Nat.lt_irrefl _)
  have ok : Ok X 40 := ⟨hK, T, rfl, rfl, rfl, hk, rfl, rfl, Nat.le_refl _, by simp [X], rfl, (by intro p e; cases e), (by show 1 + claimMargin + 1 + 2 * 40 + 8 < recursionLimit; decide), (by show 4 + 3 + 20 * 40 + 300 < cLine; decide)⟩
  have off : ∀ a, a ≤ s₁.heap.objs.size → ¬ S.mu ⟨[("script", .lst (ns.map .int))], cells0 s₁.heap.objs.size k⟩ a := fun a h z => z (by
    show cells0 _ _ a = none
    unfold cells0
    rw [if_neg (by omega)])
  have hl : VM (S.mu ⟨[("script", .lst (ns.map .int))], cells0 s₁.heap.objs.size k⟩) h₁ (.ref al) (.lst (ns.map .int)) := by
    obtain ⟨o, ho, hc, n, hd⟩ := hL
    exact .lst (F.keep _ _ ho) hc hd (off _ (Nat.le_of_lt (Heap.lt_size ho))) (vms_ints hI)
  have st : St X ⟨[("script", .lst (ns.map .int))], cells0 s₁.heap.objs.size k⟩ h₁ := by
    refine ⟨F.keep, ⟨m, F.ns, fun x d e => ?_⟩, fun a o e => ?_, off _ (Nat.le_refl _), (by intro a ha; cases ha), ?_⟩
    · by_cases q : x = "script"
      · subst q
        rw [show lk [(("script" : Str), V.lst (ns.map .int))] "script" = some (V.lst (ns.map .int)) from by simp [lk, List.lookup]] at e
        cases e
        exact ⟨_, hm, hl⟩
      · rw [lk_cut q rfl] at e
        cases e
    · have e' : cells0 s₁.heap.objs.size k a = some o := e
      unfold cells0 at e'
      split at e'
      · rename_i hr
        cases e'
        obtain ⟨ob, hm, hd⟩ := hc a hr.1 hr.2
        obtain ⟨g, _, nb⟩ := N _ hm
        exact ⟨⟨ob, none, g, hd, rfl⟩, nb⟩
      · cases e'
    · intro e he
      simp only [X, List.mem_singleton] at he
      subst he
      obtain ⟨o, es, ep, ho, hd, _⟩ := F.ns
      exact ⟨by show fd.scope.kind ≠ .module; rw [hk]; decide, _, o, es, ep, rfl, hn, off _ (Nat.le_refl _), ho, hd⟩
  have run := h X ok rfl rfl rfl rfl ⟨rfl, rfl, rfl, rfl, rfl, rfl⟩ rfl { s₁ with heap := h₁, toks := tk } st
  refine wpAny_mono run (fun f s' q => ?_) (fun e s' q => q.elim0)
  obtain ⟨fl, σ', P, r, q⟩ := q
  subst q
  obtain ⟨h', tk', e⟩ := P.upd
  have hf : f = .ret (.bool true) := by
    cases f with
    | ret v =>
      have r' : VM σ'.mu s'.heap v (.bool true) := r
      cases r'; rfl
    | next => exact r.elim
    | brk => exact r.elim
    | cont => exact r.elim
  exact ⟨hf, h', tk', e, fun b o z => by have := P.st.base b o z; rw [e] at this; exact this⟩
end Mine
namespace Mine
open PySem PySem.W PySem.Calls PySem.Spec PyProof.Rows
section
variable {X : Cx} {n : Nat} {σ : S} {E : Value → S → Prop}
noncomputable def pick3 {α : Type} (l : List α) (lo hi st : Option Int) : List α := (sliceRange (sliceBounds lo hi st l.length).1 (sliceBounds lo hi st l.length).2.1 (sliceBounds lo hi st l.length).2.2).filterMap (l[·]?)
theorem pick3_arr (items : Array Value) (lo hi st : Option Int) : slicePick items lo hi st = (pick3 items.toList lo hi st).toArray := by
  unfold slicePick pick3
  rw [Array.length_toList]
  congr 2
  funext i
  exact (Array.getElem?_toList ..).symm
theorem VMs.pick {mu : Addr → Prop} {h : Heap} {vs : List Value} {ds : List V} (x : VMs mu h vs ds) (lo hi st : Option Int) : VMs mu h (pick3 vs lo hi st) (pick3 ds lo hi st) := by
  unfold pick3
  rw [x.length]
  generalize sliceRange _ _ _ = r
  induction r with
  | nil => exact .nil
  | cons k r ih =>
    rw [List.filterMap_cons, List.filterMap_cons]
    cases e : ds[k]? with
    | none =>
      have : vs[k]? = none := by
        rw [List.getElem?_eq_none_iff] at e ⊢
        rw [x.length]; exact e
      rw [this]; exact ih
    | some d =>
      obtain ⟨v, e2, vm⟩ := x.get e
      rw [e2]; exact .cons vm ih
theorem W_SliceLst3 {value st : Expr} {lower upper : Option Expr} {p pos : Pos} {Q : V → S → Prop}
    (h : WE X value σ (fun a σ₁ => WP X lower σ₁ (fun lo σ₂ => WP X upper σ₂ (fun hi σ₃ => WE X st σ₃ (fun sd σ₄ => ∃ l i j k, Lst σ₄ a l ∧ l.length ≤ 10000 ∧ IsP lo i ∧ IsP hi j ∧ IsP sd k ∧ k ≠ some 0 ∧ Q (.lst (pick3 l i j k)) σ₄) E) E) E) E)
    (ht : ∀ o r, letTemporaryGo value o r = pure ()) :
    WE X (.Subscript value (.Slice lower upper (some st) p) pos) σ Q E := fun s sst => by
  refine wpAny_Subscript_Slice_step (T := "list") list_getitem_lookup (h.run (Post.refl sst) fun v s₁ a σ₁ _ P₁ va h₁ => wpAny_Slice (h₁.run P₁ fun vl s₂ lo σ₂ p₂ P₂ vlo h₂ => h₂.run P₂ fun vu s₃ hi σ₃ p₃ P₃ vhi h₃ => ?_)) ht
  rw [evalPart_some]
  refine h₃.run P₃ fun vs' s₄ sd σ₄ p₄ P₄ vsd h₄ => ?_
  obtain ⟨l, i, j, k, hll, hlen, pi, pj, pk, hk0, q⟩ := h₄
  obtain ⟨b, o, vs, kk, rfl, g, c, d, vm⟩ := hll.get P₄.st (((va.mono p₂.ext).mono p₃.ext).mono p₄.ext)
  have ip : IsPart vl i := by cases pi <;> cases vlo <;> constructor
  have jp : IsPart vu j := by cases pj <;> cases vhi <;> constructor
  have kp : IsPart vs' k := by cases pk <;> cases vsd <;> constructor
  have hL : s₄.heap.IsList b vs.toArray := ⟨o, g, c, kk, d⟩
  refine ⟨(hL.push _).typeIs, wpAny_getItem_list_slice (hL.push _) (Heap.IsSliceOf.new ..) ip jp kp hk0 ?_ (by rw [List.size_toArray, vm.length, sizeLine_eq]; omega)⟩
  have P₅ := st_push P₄.st { cls := .type "slice", data := .fields #[vl, vu, vs'] }
  have P₆ := st_push P₅.st { cls := .type "list", data := .seq (slicePick vs.toArray i j k) }
  have g5 := Heap.get?_push_size (s₄.heap.push { cls := .type "slice", data := .fields #[vl, vu, vs'] }) (o := { cls := .type "list", data := .seq (slicePick vs.toArray i j k) }) rfl
  refine ⟨_, σ₄, P₄.trans (P₅.trans P₆), .lst g5 rfl (by rw [pick3_arr]) (new_off P₅.st) ?_, q⟩
  rw [List.toList_toArray]
  exact (vm.mono (P₅.trans P₆).ext).pick i j k
theorem witT_lst {iter : Expr} {Q : Nat → (Nat → V) → (Nat → V) → S → Prop} (h : WE X iter σ (fun a σ₁ => ∃ ps : List (V × V), a = .lst (ps.map fun p => .tup [p.1, p.2]) ∧ ps.length ≤ 100000 ∧ Q ps.length (fun i => (ps.map (·.1)).getD i .none) (fun i => (ps.map (·.2)).getD i .none) σ₁) E) : WItT X iter σ Q E := fun s st =>
  h.run (Post.refl st) fun v s₁ a σ₁ _ P₁ va ⟨ps, e, hlen, q⟩ => by
    subst e
    obtain ⟨a, o, vs, k, rfl, g, c, d, nm, vms⟩ := va.lstI
    refine wpAny_pyIter_list (items := vs.toArray) ⟨o, g, c, k, d⟩ ?_
    have P := st_push P₁.st { cls := .type "list_iterator", data := .fields #[.ref a, .int 0 0] }
    have ga := Heap.get?_push_of_some { cls := .type "list_iterator", data := .fields #[.ref a, .int 0 0] } g
    have ne : a ≠ s₁.heap.objs.size := Nat.ne_of_lt (Heap.lt_size g)
    have hl : vs.length = ps.length := by rw [vms.length, List.length_map]
    have ex : ∀ j, ∃ T : Addr, ∃ v1 v2 : Value, j < ps.length → vs[j]? = some (.ref T) ∧ (∃ o n, s₁.heap.get? T = some o ∧ o.cls = .type "tuple" ∧ o.data = .seq #[v1, v2] n) ∧ ¬ σ₁.mu T ∧ VM σ₁.mu s₁.heap v1 ((ps.map (·.1)).getD j .none) ∧ VM σ₁.mu s₁.heap v2 ((ps.map (·.2)).getD j .none) := fun j => by
      by_cases hj : j < ps.length
      · obtain ⟨v, e2, vm⟩ := vms.get (k := j) (d := .tup [ps[j].1, ps[j].2]) (by rw [List.getElem?_map, List.getElem?_eq_getElem hj]; rfl)
        obtain ⟨T, oT, ws, nT, rfl, gT, cT, dT, nmT, wms⟩ := vm.tupI
        obtain ⟨v1, v2, rfl, m1, m2⟩ := wms.two
        refine ⟨T, v1, v2, fun _ => ⟨e2, ⟨oT, nT, gT, cT, dT⟩, nmT, ?_, ?_⟩⟩
        · rw [List.getD_eq_getElem?_getD, List.getElem?_map, List.getElem?_eq_getElem hj]; exact m1
        · rw [List.getD_eq_getElem?_getD, List.getElem?_map, List.getElem?_eq_getElem hj]; exact m2
      · exact ⟨0, .none, .none, fun h => absurd h hj⟩
    obtain ⟨Ts, ex⟩ := Classical.skolem.mp ex
    obtain ⟨v1, ex⟩ := Classical.skolem.mp ex
    obtain ⟨v2, ex⟩ := Classical.skolem.mp ex
    have hsz : vs.toArray.size = ps.length := by rw [List.size_toArray, hl]
    have hTI : ∀ j, j < vs.toArray.size → Ts j ≠ s₁.heap.objs.size := fun j hj => by
      obtain ⟨_, ⟨o, _, g, _⟩, _⟩ := ex j (by omega)
      exact Nat.ne_of_lt (Heap.lt_size g)
    refine ⟨s₁.heap.objs.size, ps.length, _, _, σ₁, rfl, P₁.trans P, ?_, q⟩
    have hW : ∀ A' : Around, A'.handled = none → _ := fun A' hA => WalksU.listOfTuples (prog := X.prog) (w := X.w) hA s₁.heap.objs.size a ne vs.toArray Ts (fun j => #[v1 j, v2 j]) (fun j hj => by have := (ex j (by omega)).1; simpa using this) hTI
    rw [hsz] at hW
    refine .mk _ _ _ _ _ hW ⟨⟨_, Heap.get?_push_size _ rfl, rfl, rfl⟩, ⟨o, ga, c, k, d⟩, fun j hj => ?_⟩ (fun i h' z b hb => ?_) (fun i T h' z b hb => ?_) (fun b hb => ?_) (fun b hb nb => ?_) (fun i vals mu' h' hi e x => ?_)
    · obtain ⟨_, ⟨o, n, g, c, d⟩, _⟩ := ex j (by omega)
      exact ⟨o, Heap.get?_push_of_some _ g, c, n, d⟩
    · rw [List.mem_singleton.mp hb]; obtain ⟨o, g, _, d⟩ := z.1; exact ⟨o, _, g, d⟩
    · rw [List.mem_singleton.mp hb]; obtain ⟨o, g, _, d⟩ := z.2.1; exact ⟨o, _, g, d⟩
    · rw [List.mem_singleton.mp hb]; exact new_facts P₁.st
    · rcases List.mem_cons.mp hb with rfl | hb
      · exact absurd (.head _) nb
      · rcases List.mem_cons.mp hb with rfl | hb
        · exact ⟨nm, o, ga, by rw [d]; trivial⟩
        · obtain ⟨j, hj, rfl⟩ := List.mem_map.mp hb
          obtain ⟨_, ⟨o, n, g, c, d⟩, nm, _⟩ := ex j (by have := List.mem_range.mp hj; omega)
          exact ⟨nm, o, Heap.get?_push_of_some _ g, by rw [d]; trivial⟩
    · obtain ⟨_, _, _, m1, m2⟩ := ex i hi
      exact ⟨v1 i, v2 i, e, (m1.mono P.ext).monoS x, (m2.mono P.ext).monoS x⟩
end
end Mine
namespace Mine
open PySem PySem.W PySem.Calls PySem.Spec PyProof.Rows
section
variable {X : Cx} {n : Nat} {σ : S} {E : Value → S → Prop}
end
end Mine
namespace Mine
open PySem PySem.W PySem.Calls PySem.Spec PyProof.Rows
section
variable {X : Cx} {n : Nat} {σ : S} {E : Value → S → Prop}
end
end Mine
namespace Mine
open PySem PySem.W PySem.Calls PySem.Spec PyProof.Rows PySem.Builtin.Str
section
variable {X : Cx} {n : Nat} {σ : S} {E : Value → S → Prop} {x y : List Nat}
end
end Mine
namespace Mine
open PySem PySem.W PySem.Calls PySem.Spec PyProof.Rows
section
variable {X : Cx} {n : Nat} {σ : S} {E : Value → S → Prop}
inductive ItP (X : Cx) (σ : S) (h : Heap) (J TO : Addr) (tg : Expr) (N : Nat) (P : Nat → (Addr → Prop) → Heap → Value → Prop) : Prop
  | mk (wr : List Addr) (SS : Nat → Heap → Prop) (Mid : Nat → Value → Heap → Prop)
    (next : ∀ A' : Around, A'.handled = none → ∀ i (s : Shared) (Q : Option Value → Shared → Prop) (E' : Value → Shared → Prop), i < N → SS i s.heap → (∀ v h' tk, Mid i v h' → (∀ b o, b ∉ wr → b ≠ TO → s.heap.get? b = some o → h'.get? b = some o) → Q (some v) { s with heap := h', toks := tk }) → wpAny (model X.prog X.w) A' (pyNext (.ref J)) Q E' s)
    (go : ∀ A' : Around, A'.handled = none → ∀ i v (s : Shared) (Q : Unit → Shared → Prop) (E' : Value → Shared → Prop), Mid i v s.heap → (∀ h', SS (i + 1) h' → (∀ b o, b ∉ wr → b ≠ TO → s.heap.get? b = some o → h'.get? b = some o) → Q () { s with heap := h' }) → wpAny (model X.prog X.w) A' (letOwnedTupleGo tg (.ref J) v) Q E' s)
    (done : ∀ A' : Around, A'.handled = none → ∀ (s : Shared) (Q : Option Value → Shared → Prop) (E' : Value → Shared → Prop), SS N s.heap → (∀ h' tk, (∀ b o, b ∉ wr → b ≠ TO → s.heap.get? b = some o → h'.get? b = some o) → Q none { s with heap := h', toks := tk }) → wpAny (model X.prog X.w) A' (pyNext (.ref J)) Q E' s)
    (self : ∀ A' : Around, A'.handled = none → ∀ i (s : Shared) (Q : Value → Shared → Prop) (E' : Value → Shared → Prop), SS i s.heap → Q (.ref J) s → wpAny (model X.prog X.w) A' (pyIter (.ref J)) Q E' s)
    (st0 : SS 0 h) (hrec : ∀ i h', SS i h' → ∀ b ∈ wr, ∃ o vs, h'.get? b = some o ∧ o.data = .fields vs) (hrec2 : ∀ i v h', Mid i v h' → ∀ b ∈ wr, ∃ o vs, h'.get? b = some o ∧ o.data = .fields vs)
    (hpr : ∀ i h', SS i h' → ∃ x y : Value, h'.get? TO = some { cls := .type "tuple", data := .seq #[x, y] }) (hpr2 : ∀ i v h', Mid i v h' → ∃ x y : Value, h'.get? TO = some { cls := .type "tuple", data := .seq #[x, y] })
    (hwr : ∀ b ∈ wr, X.base.get? b = none ∧ ¬ σ.mu b ∧ b ∉ X.prot)
    (keep : ∀ i h₁ mu₁ h₂, SS i h₁ → SeqX σ.mu h mu₁ h₁ → (∀ a o, h₁.get? a = some o → ¬ mu₁ a → isSeq o.data → h₂.get? a = some o) → (∀ b ∈ wr, ∀ o, h₁.get? b = some o → h₂.get? b = some o) → (∃ x y : Value, h₂.get? TO = some { cls := .type "tuple", data := .seq #[x, y] }) → SS i h₂)
    (val : ∀ i v mu' h₁ h₂, i < N → Mid i v h₁ → SeqX σ.mu h mu' h₂ → (∀ b o, b ∉ wr → b ≠ TO → h₁.get? b = some o → h₂.get? b = some o) → P i mu' h₂ v)
inductive LoopP (X : Cx) (n : Nat) (σ₁ : S) (s₂ : Shared) (J TO : Addr) (tg : Expr) (N : Nat) (P : Nat → (Addr → Prop) → Heap → Value → Prop) : Prop
  | mk (wr : List Addr) (G : Nat → S → Shared → Prop) (g0 : G 0 σ₁ s₂) (gp : ∀ i σ' s', G i σ' s' → Post X σ₁ s₂ σ' s')
    (self : ∀ i σ' s' (Q : Value → Shared → Prop) (E' : Value → Shared → Prop), G i σ' s' → Q (.ref J) s' → wpAny (model X.prog X.w) X.A (pyIter (.ref J)) Q E' s')
    (next : ∀ i σ' s' σb (QB : Shared → Prop) (Z : Option Value → Shared → Prop) (E' : Value → Shared → Prop), i < N → G i σ' s' → (Ok (X.watch wr) n → Asg (X.watch wr) tg (P i) σ' σb) →
      (Ok (X.watch wr) n → ∀ s₃, Post X σ' s' σb s₃ → St (X.watch wr) σb s₃.heap → (∀ σ₄ s₄, Post (X.watch wr) σb s₃ σ₄ s₄ → σ₄.hp TO = some .pair → G (i + 1) σ₄ s₄) → QB s₃) →
      (∀ v s₁, wpAny (model X.prog X.w) X.A (letOwnedTupleGo tg (.ref J) v) (fun _ s₁' => wpAny (model X.prog X.w) X.A (assign tg X.env v) (fun _ s₂ => QB s₂) E' s₁') E' s₁ → Z (some v) s₁) → wpAny (model X.prog X.w) X.A (pyNext (.ref J)) Z E' s')
    (done : ∀ σ' s' hp₀ (Z : Option Value → Shared → Prop) (E' : Value → Shared → Prop), G N σ' s' → hp₀ TO = none → (∀ a, a ≠ TO → hp₀ a = σ'.hp a) → (∀ s₃, Post X σ' s' ⟨σ'.loc, hp₀⟩ s₃ → Z none s₃) → wpAny (model X.prog X.w) X.A (pyNext (.ref J)) Z E' s')
end
end Mine
namespace Mine
open PySem PySem.W PySem.Calls PySem.Spec PyProof.Rows
section
variable {X : Cx} {n : Nat} {σ : S} {E : Value → S → Prop}
noncomputable def fnOkC (K : Frag) (a : Addr) : Bool :=
  isFd K a && codeIn K (fdAt K a).code (fdAt K a).qualname && (match (fdAt K a).body with | .stmts _ => true | _ => false) && (fdAt K a).globals == mainGlobals && (fdAt K a).builtins == builtinsNs &&
  (match (fdAt K a).scope.kind with | .function => true | _ => false) && !(fdAt K a).scope.isCoroutine && !(fdAt K a).scope.isGenerator && (fdAt K a).closure.isEmpty
structure FnC (K : Frag) (f : Addr) (fd : FuncData) (body : List Stmt) : Prop where
  at_ : ∃ oc od osl, K.lookup f = some ⟨oc, od, .func fd, osl⟩
  code : codeIn K fd.code fd.qualname = true
  body : fd.body = .stmts body
  glob : fd.globals = mainGlobals
  bult : fd.builtins = builtinsNs
  kind : fd.scope.kind = .function
  co : fd.scope.isCoroutine = false
  gen : fd.scope.isGenerator = false
  clo : fd.closure = []
theorem FnC.of {K : Frag} {a : Addr} (h : fnOkC K a = true) : FnC K a (fdAt K a) (bodyAt K a) := by
  unfold fnOkC at h
  simp only [Bool.and_eq_true] at h
  obtain ⟨⟨⟨⟨⟨⟨⟨⟨h1, h2⟩, h3⟩, h4⟩, h5⟩, h6⟩, h7⟩, h8⟩, h9⟩ := h
  refine ⟨?_, h2, ?_, ?_, ?_, ?_, ?_, ?_, ?_⟩
  · unfold isFd at h1
    split at h1
    · rename_i q
      rename_i c d fd sl
      have e : fdAt K a = fd := by unfold fdAt; rw [q]
      exact ⟨c, d, sl, by rw [e]; exact q⟩
    · cases h1
  · unfold bodyAt
    split at h3
    · rename_i q; rw [q]
    · cases h3
  · exact eq_of_beq h4
  · exact eq_of_beq h5
  · split at h6
    · assumption
    · cases h6
  · simpa using h7
  · simpa using h8
  · simpa using h9
noncomputable def Cx.intoC (X : Cx) (A' : Around) (fd : FuncData) (f L : Addr) : Cx :=
  { X with A := A'.deeper (callEnvC fd L f), env := callEnvC fd L f, fenv := callEnvC fd L f, L := L, outer := X.fenv :: X.outer }
theorem ok_intoC {A' : Around} {fd : FuncData} {f L : Addr} {body : List Stmt} (ok : Ok X (n + 1)) (hf : FnC X.K f fd body) (hA : Under X A') (hL : X.base.objs.size ≤ L) (hp : L ∉ X.prot) : Ok (X.intoC A' fd f L) n where
  inK := ok.inK
  top := ok.top
  frames := Around.frames_deeper (hA.frames.trans ok.frames)
  frame := rfl
  eframe := rfl
  kind := hf.kind
  genv := hf.glob
  benv := hf.bult
  above := hL
  locProt := hp
  handled := hA.handled.trans ok.handled
  ctxIn := ok.ctxIn
  depth := by
    have := ok.depth
    have := hA.depth
    show A'.depth + 1 + 2 * n + 8 < _
    omega
  units := by
    have := ok.units
    have := hA.units
    show A'.units + 3 + 20 * n + 300 < _
    omega
theorem bindL_notin {k : Str → Option NameKind} {x : Str} : ∀ (l : List (Str × Value)) (m : Str → Option Value), x ∉ l.map (·.1) → bindL k l m x = m x
  | [], m, _ => rfl
  | (y, v) :: r, m, h => by
    rw [List.map_cons, List.mem_cons, not_or] at h
    unfold bindL
    rw [bindL_notin r _ h.2]
    split
    · exact if_neg h.1
    · rfl
theorem bindC_notin {k : Str → Option NameKind} {x : Str} : ∀ (l : List (Str × Value)) (m : Str → Option Value), x ∉ l.map (·.1) → bindC k l m x = m x
  | [], m, _ => rfl
  | (y, v) :: r, m, h => by
    rw [List.map_cons, List.mem_cons, not_or] at h
    unfold bindC
    rw [bindC_notin r _ h.2]
    split
    · rfl
    · exact if_neg h.1
theorem zip_fst_mem {x : Str} : ∀ {ns : List Str} {vs : List Value}, x ∉ ns → x ∉ (ns.zip vs).map (·.1)
  | [], _, _, h => by simp at h
  | _ :: _, [], _, h => by simp at h
  | y :: ns, v :: vs, hn, h => by
    rw [List.mem_cons, not_or] at hn
    rw [List.zip_cons_cons, List.map_cons, List.mem_cons] at h
    rcases h with h | h
    · exact hn.1 h
    · exact zip_fst_mem hn.2 h
theorem bindL_zip {k : Str → Option NameKind} {mu : Addr → Prop} {h : Heap} {x : Str} {d : V} : ∀ {ns : List Str} {vs : List Value} {ds : List V} (m : Str → Option Value), VMs mu h vs ds → ns.Nodup → lk ((ns.zip ds).filter fun p => k p.1 == some .local) x = some d → ∃ v, bindL k (ns.zip vs) m x = some v ∧ VM mu h v d
  | [], _, _, m, vm, hn, e => by simp [lk] at e
  | y :: ns, _, _, m, .nil, hn, e => by simp [lk] at e
  | y :: ns, v :: vs, d' :: ds, m, .cons a r, hn, e => by
    rw [List.nodup_cons] at hn
    rw [List.zip_cons_cons, List.filter_cons] at e
    show ∃ w, bindL k ((y, v) :: ns.zip vs) m x = some w ∧ _
    unfold bindL
    by_cases hy : k y = some .local
    · rw [if_pos (by simpa using hy)] at e
      rw [if_pos hy]
      by_cases hx : x = y
      · subst hx
        have : lk ((x, d') :: List.filter (fun p => k p.1 == some .local) (ns.zip ds)) x = some d' := lk_hit
        rw [this] at e
        cases e
        exact ⟨v, by rw [bindL_notin _ _ (zip_fst_mem hn.1)]; exact if_pos rfl, a⟩
      · have : lk ((y, d') :: List.filter (fun p => k p.1 == some .local) (ns.zip ds)) x = lk (List.filter (fun p => k p.1 == some .local) (ns.zip ds)) x := by
          unfold lk
          rw [List.lookup_cons, show (x == y) = false from by simpa using hx]
        rw [this] at e
        exact bindL_zip _ r hn.2 e
    · rw [if_neg (by simpa using hy)] at e
      rw [if_neg hy]
      exact bindL_zip _ r hn.2 e
theorem bindC_zip {k : Str → Option NameKind} {mu : Addr → Prop} {h : Heap} {x : Str} : ∀ {ns : List Str} {vs : List Value} {ds : List V} (m : Str → Option Value), VMs mu h vs ds → ns.Nodup → m x = none → match lk ((ns.zip ds).filter fun p => !(k p.1 == some .local)) x with
    | some d => ∃ v, bindC k (ns.zip vs) m x = some v ∧ VM mu h v d
    | none => bindC k (ns.zip vs) m x = none
  | [], _, _, m, vm, hn, e => by simpa [lk, bindC] using e
  | y :: ns, _, _, m, .nil, hn, e => by simpa [lk, bindC] using e
  | y :: ns, v :: vs, d' :: ds, m, .cons a r, hn, e => by
    rw [List.nodup_cons] at hn
    rw [List.zip_cons_cons, List.filter_cons]
    show match lk (if (!(k y == some .local)) = true then _ else _) x with
      | some d => ∃ w, bindC k ((y, v) :: ns.zip vs) m x = some w ∧ VM mu h w d
      | none => bindC k ((y, v) :: ns.zip vs) m x = none
    unfold bindC
    by_cases hy : k y = some .local
    · rw [if_neg (by simp [hy]), if_pos hy]
      exact bindC_zip _ r hn.2 e
    · rw [if_pos (by simpa using hy), if_neg hy]
      by_cases hx : x = y
      · subst hx
        rw [lk_hit]
        exact ⟨v, by rw [bindC_notin _ _ (zip_fst_mem hn.1)]; exact if_pos rfl, a⟩
      · have : lk ((y, d') :: List.filter (fun p => !(k p.1 == some .local)) (ns.zip ds)) x = lk (List.filter (fun p => !(k p.1 == some .local)) (ns.zip ds)) x := by
          unfold lk
          rw [List.lookup_cons, show (x == y) = false from by simpa using hx]
        rw [this]
        exact bindC_zip _ r hn.2 (by show (if x = y then some v else m x) = none; rw [if_neg hx]; exact e)
theorem Call.fnC' {K' : Frag} {f : Addr} {ds : List V} {names : List Str} {loc0 cp : List (Str × V)} {Q : V → S → Prop} (ok : Ok X (n + 1)) (hK : X.K = K') (hf : fnOkC K' f = true)
    (hb : ∀ vs : List Value, vs.length = names.length → ∀ S, peek K' S (bindArgs (fdAt K' f) ⟨vs, []⟩) = some (names.zip vs))
    (hk : ∀ m, (names.all fun x => (fdAt K' f).scope.names.lookup x == some .local || ((fdAt K' f).scope.names.lookup x == some .cell && ((cellsFrom m (fdAt K' f).scope.names []).lookup x).isSome)) = true) (hn : names.Nodup) (hlen : ds.length = names.length)
    (h0 : loc0 = (names.zip ds).filter fun p => (fdAt K' f).scope.names.lookup p.1 == some .local) (hcp : cp = (names.zip ds).filter fun p => !((fdAt K' f).scope.names.lookup p.1 == some .local))
    (h : ∀ Y L hp0, Ok Y n → In X Y (fdAt K' f) → Y.env.cells = cellsFrom (L + 1) (fdAt K' f).scope.names [] → (∀ a o, σ.hp a = some o → hp0 a = some o) → (∀ x c, Y.env.cells.lookup x = some c → hp0 c = some (.cell (lk cp x)) ∧ σ.hp c = none) →
      WXs Y (bodyAt K' f) ⟨loc0, hp0⟩ (fun fl σ' => Q (retV fl) ⟨σ.loc, σ'.hp⟩) (fun c σ' => E c ⟨σ.loc, σ'.hp⟩)) : Call X (.ref f) ds σ Q E := by
  subst hK
  have fo := FnC.of hf
  generalize fdAt X.K f = fd at *
  generalize bodyAt X.K f = body at *
  intro vs s st vm
  obtain ⟨oc, od, osl, hat⟩ := fo.at_
  have inK := ok.inK.keeps st.base
  have hroom : X.A.depth < recursionLimit := by have := ok.depth; omega
  have bL : X.base.objs.size ≤ s.heap.objs.size := by
    obtain ⟨m, hn, _⟩ := st.names
    exact Nat.le_trans ok.above (Nat.le_of_lt hn.lt)
  have pL : s.heap.objs.size ∉ X.prot := fun hp => by
    obtain ⟨_, o, vs, g, _⟩ := st.prot _ hp
    exact absurd (Heap.lt_size g) (Nat.lt_irrefl _)
  refine wpAny_call (codeAny_call_function hroom (inK _ _ hat) rfl fo.co fo.gen fo.body (codeRec_of inK fo.code) (kp_binds (st.inK ok) (hb vs (vm.length.trans hlen)) _ _ _ _ ?_))
  rw [fo.clo]
  refine wpAny_newFunctionEnv_cells fo.kind (fun p hp => ?_) fun env' he s' x => ?_
  · have := List.all_eq_true.mp (hk (s.heap.objs.size + 1)) p.1 (List.of_mem_zip hp).1
    simpa using this
  subst he
  refine ⟨(ok.top.nolimit.keeps st.base).keeps x.toInCall.keep, codeAny_func ?_⟩
  obtain ⟨h₁, tk, rfl, hk₁⟩ := x.done
  have okY := ok_intoC (A' := X.A) (L := s.heap.objs.size) ok fo Under.self bL pL
  obtain ⟨⟨_, hns, _, _⟩, hcell, hap, hab⟩ := x
  dsimp only at hns hcell hap hab hk₁
  generalize hcs : cellsFrom (s.heap.objs.size + 1) fd.scope.names [] = cs at *
  have hkd : (callEnvC fd s.heap.objs.size f).kindOf = fun x => fd.scope.names.lookup x := rfl
  have hunq : ∀ y z c, cs.lookup y = some c → cs.lookup z = some c → y = z := fun y z c h1 h2 => name_of_addr hap (mem_of_lookup h1) (mem_of_lookup h2)
  have hnew : ∀ y c, cs.lookup y = some c → s.heap.objs.size < c := fun y c h1 => hab y c (mem_of_lookup h1)
  have hex : ∃ hp0 : Addr → Option HO, (∀ y c, cs.lookup y = some c → hp0 c = some (.cell (lk cp y))) ∧ ∀ a, (∀ y, cs.lookup y ≠ some a) → hp0 a = σ.hp a := by
    classical
    refine ⟨fun a => if h : ∃ y, cs.lookup y = some a then some (.cell (lk cp (Classical.choose h))) else σ.hp a, fun y c h1 => ?_, fun a h1 => ?_⟩
    · have hh : ∃ y, cs.lookup y = some c := ⟨y, h1⟩
      dsimp only
      rw [dif_pos hh, hunq _ _ _ (Classical.choose_spec hh) h1]
    · dsimp only
      rw [dif_neg fun ⟨y, hy⟩ => h1 y hy]
  obtain ⟨hp0, hp1, hp2⟩ := hex
  have old : ∀ a o, s.heap.get? a = some o → ∀ y, cs.lookup y ≠ some a := fun a o g y h1 => by
    have := hnew y a h1
    exact absurd (Heap.lt_size g) (Nat.not_lt.mpr (Nat.le_of_lt this))
  have hsub : ∀ a o, σ.hp a = some o → hp0 a = some o := fun a o e => by
    obtain ⟨ob, g⟩ := (st.own a o e).1.there
    rw [hp2 a (old a ob g)]; exact e
  have hfree : ∀ y c, cs.lookup y = some c → σ.hp c = none := fun y c hy => by
    cases q : σ.hp c with
    | none => rfl
    | some o =>
      obtain ⟨ob, g⟩ := (st.own c o q).1.there
      exact absurd hy (old c ob g y)
  have nmu : ∀ a o, s.heap.get? a = some o → ¬ σ.mu a → ¬ S.mu ⟨loc0, hp0⟩ a := fun a o g nm z => nm (by
    have z' : hp0 a ≠ none := z
    rw [hp2 a (old a o g)] at z'; exact z')
  have bnew : ∀ a, s.heap.objs.size ≤ a → X.base.get? a = none := fun a ha => by
    cases q : X.base.get? a with
    | none => rfl
    | some o => exact absurd (Heap.lt_size (st.base _ o q)) (Nat.not_lt.mpr ha)
  have x : Ext X.env.locals X.prot σ.mu s.heap (S.mu ⟨loc0, hp0⟩) h₁ := ⟨fun a o e nm _ => ⟨hk₁ a o e, nmu a o e nm⟩, fun a o e nm _ _ => ⟨nmu a o e nm, o.slots, hk₁ a o e⟩, fun a ha o e => ⟨hk₁ a o e, nmu a o e (st.protOff a ha)⟩⟩
  have Loff : ¬ S.mu ⟨loc0, hp0⟩ s.heap.objs.size := fun z => by
    have z' : hp0 s.heap.objs.size ≠ none := z
    rw [hp2 _ fun y h1 => absurd (hnew y _ h1) (Nat.lt_irrefl _)] at z'
    exact new_off st z'
  have st' : St (X.intoC X.A fd f s.heap.objs.size) ⟨loc0, hp0⟩ h₁ := by
    refine ⟨fun b o e => hk₁ b o (st.base b o e), ⟨_, hns, fun y d e => ?_⟩, fun a o e => ?_, Loff, fun a ha => ?_, fun e he => ?_⟩
    · rw [h0] at e
      obtain ⟨v, q, r⟩ := bindL_zip (k := fun x => fd.scope.names.lookup x) (fun _ => none) vm hn e
      exact ⟨v, q, r.mono x⟩
    · by_cases hc : ∃ y, cs.lookup y = some a
      · obtain ⟨y, hy⟩ := hc
        have e' : hp0 a = some o := e
        rw [hp1 y a hy] at e'
        cases e'
        refine ⟨?_, bnew a (Nat.le_of_lt (hnew y a hy))⟩
        obtain ⟨ob, g, hd⟩ := hcell y a hy
        refine ⟨ob, _, g, hd, ?_⟩
        have bc := bindC_zip (k := fun x => fd.scope.names.lookup x) (x := y) (fun _ => none) vm hn rfl
        rw [← hcp] at bc
        cases hl : lk cp y with
        | none => rw [hl] at bc; exact bc
        | some d =>
          rw [hl] at bc
          obtain ⟨v, q, r⟩ := bc
          exact ⟨v, q, r.mono x⟩
      · have e' : hp0 a = some o := e
        rw [hp2 a fun y hy => hc ⟨y, hy⟩] at e'
        obtain ⟨y, z⟩ := st.own a o e'
        obtain ⟨ob, g⟩ := y.there
        exact ⟨y.mono x ((hk₁ a ob g).trans g.symm), z⟩
    · obtain ⟨z, o, vs, g, d⟩ := st.prot a ha
      exact ⟨nmu a o g z, o, vs, hk₁ a o g, d⟩
    · rcases List.mem_cons.mp he with rfl | he
      · obtain ⟨o, es, ep, g, d, _⟩ := hns
        exact ⟨by show fd.scope.kind ≠ .module; rw [fo.kind]; decide, _, o, es, ep, rfl, bnew _ (Nat.le_refl _), Loff, g, d⟩
      · obtain ⟨z, L, o, es, ep, hfr, hb, hmu, g, d⟩ := st.frs e he
        exact ⟨z, L, o, es, ep, hfr, hb, nmu L o g hmu, hk₁ L o g, d⟩
  have back : ∀ σ' s', Post (X.intoC X.A fd f s.heap.objs.size) ⟨loc0, hp0⟩ { s with heap := h₁, toks := tk } σ' s' → Post X σ s ⟨σ.loc, σ'.hp⟩ s' := fun σ' s' P => by
    obtain ⟨h', tk', e⟩ := P.upd
    have lt : ∀ a o, s.heap.get? a = some o → a ≠ s.heap.objs.size := fun a o g => Nat.ne_of_lt (Heap.lt_size g)
    have x2 : Ext X.env.locals X.prot σ.mu s.heap σ'.mu s'.heap := ⟨fun a o g nm q => P.ext.seq a o (hk₁ a o g) (nmu a o g nm) q, fun a o g nm l q => P.ext.obj a o (hk₁ a o g) (nmu a o g nm) (lt a o g) q, fun a ha o g => P.ext.watch a ha o (hk₁ a o g)⟩
    refine ⟨⟨h', tk', e⟩, x2, ⟨P.st.base, ?_, P.st.own, ?_, P.st.prot, fun e he => P.st.frs e (.tail _ he)⟩⟩
    · obtain ⟨m, hn, hm⟩ := st.names
      obtain ⟨o, es, ep, g, d, r⟩ := hn
      obtain ⟨_, sl, g'⟩ := P.ext.obj _ o (hk₁ _ o g) (nmu _ o g st.locOff) (lt _ o g) fun vs q => by rw [d] at q; cases q
      exact ⟨m, ⟨_, es, ep, g', d, r⟩, fun y d e => let ⟨v, q, r⟩ := hm y d e; ⟨v, q, r.mono x2⟩⟩
    · obtain ⟨m, ⟨o, es, ep, g, d, r⟩, hm⟩ := st.names
      exact (P.ext.obj _ o (hk₁ _ o g) (nmu _ o g st.locOff) (lt _ o g) fun vs q => by rw [d] at q; cases q).1
  subst hcs
  refine wpAny_mono (h (X.intoC X.A fd f s.heap.objs.size) s.heap.objs.size hp0 okY ⟨rfl, rfl, rfl, rfl, rfl, rfl⟩ rfl hsub (fun y c hy => ⟨hp1 y c hy, hfree y c hy⟩) { s with heap := h₁, toks := tk } st') (fun fl s' q => ?_) fun e s' q => ?_
  · obtain ⟨g, σ', P, r, q⟩ := q
    refine ⟨retV g, _, back _ _ P, ?_, q⟩
    cases fl <;> cases g <;> first | exact r.elim | exact VM.none | exact r
  · obtain ⟨ea, cls, σ', P, rfl, x3, q⟩ := q
    refine leave_any okY rfl P.st x3 fun h' P₂ x₂ => ?_
    have P' := back _ _ (P.trans P₂)
    refine ⟨ea, cls, _, P', rfl, ?_, q⟩
    obtain ⟨a, b, oe, vs, a0, T, oT, ts, g, c, d, v0, v1, bT, pT, ne, gT, dT, v3⟩ := x₂
    exact ⟨a, b, oe, vs, a0, g, c, d, v0, .inr ⟨T, oT, ts, v1, bT, pT, ne, gT, dT, .inl v3⟩⟩
end
end Mine
namespace Mine
open PySem PySem.W PySem.Calls PySem.Spec PyProof.Rows
theorem all_at {α : Type} (l : List α) : (List.range l.length).filterMap (l[·]?) = l := by
  induction l with
  | nil => rfl
  | cons a l ih =>
    rw [List.length_cons, List.range_succ_eq_map, List.filterMap_cons]
    show a :: _ = _
    rw [List.filterMap_map]
    congr 1
theorem pick3_rev {α : Type} (l : List α) : pick3 l none none (some (-1)) = l.reverse := by
  unfold pick3
  rw [krv_bounds]
  show (sliceRange ((l.length : Int) - 1) (-1) (-1)).filterMap _ = _
  rw [krv_sliceRange, krv_range, List.filterMap_reverse, all_at]
section
variable {X : Cx} {n : Nat} {σ : S} {E : Value → S → Prop}
theorem o_isb {a b : Bool} {Q : V → S → Prop} (q : Q (.bool (a == b)) σ) : Op2 X (compareOp .Is) (.bool a) (.bool b) σ Q E := fun _ _ _ st va wb => by
  cases va; cases wb
  exact is_bool (qw_self st (.bool _) q)
theorem o_isnb {a b : Bool} {Q : V → S → Prop} (q : Q (.bool (a != b)) σ) : Op2 X (compareOp .IsNot) (.bool a) (.bool b) σ Q E := fun _ _ _ st va wb => by
  cases va; cases wb
  exact isnot_bool (qw_self st (.bool _) q)
theorem W_fieldC {x attr : Str} {xp pos : Pos} {a C dx c : Addr} {fs : List (Str × V)} {d : V} {Q : V → S → Prop} (ok : Ok X n) (hx : X.env.kindOf x = some .cell) (hc : X.env.cells.lookup x = some c) (hd : (x == ("__debug__" : Str)) = false) (ex : σ.hp c = some (.cell (some (.ref a)))) (h1 : σ.hp a = some (.inst C dx)) (h2 : σ.hp dx = some (.dict fs)) (kg : KGet X.K C attr)
    (e : lk fs attr = some d) (hl : ∀ w, d ≠ .lit w) (q : Q d σ) : WE X (.Attribute (.Name x xp) attr pos) σ Q E :=
  W_Attr (W_cell ok hx hc ex (get_field ok h1 h2 kg e hl q) hd)
theorem down_size (N : Nat) : Builtin.Range.rangeSize ((N : Int) - 1) (-1) (-1) = (N : Int) := by
  unfold Builtin.Range.rangeSize
  rw [if_neg (by decide), show (- -1 : Int) = 1 from by decide, Int.ediv_one]
  split <;> omega
theorem wit_down {e1 e2 e3 : Expr} {np pos : Pos} {Q : Nat → (Nat → V) → S → Prop} (ok : Ok X n) (k : KB X "range" (.type "range")) (hplain : ∀ env, (backTo pos (starEach [e1, e2, e3] env)).any (·.1) = false)
    (h : W X (spliced (backTo pos (starEach [e1, e2, e3] X.env))) VMs σ (fun ds σ₁ => ∃ N : Nat, ds = [.int ((N : Int) - 1), .int (-1), .int (-1)] ∧ N ≤ 100000 ∧ Q N (fun i => .int ((N : Int) - 1 - i)) σ₁) E) : WIt X (.Call (.Name "range" np) [e1, e2, e3] [] pos) σ Q E := fun s st => by
  refine wpAny_Call_NameR ((W_kb (Q := fun f σ' => f = .lit (.type "range") ∧ σ' = σ) ok k (by decide) ⟨rfl, rfl⟩ (by decide)).run (Post.refl st) fun v s₁ f σ₁ _ P₁ vm h₁ => ?_)
  obtain ⟨rfl, rfl⟩ := h₁
  cases vm.litI
  refine call_raw keeps_type (hplain _) (h.run P₁ fun vs s₂ ds σ₂ p₂ P₂ vms h₂ => ⟨P₂.st.inK ok, ?_⟩)
  obtain ⟨N, rfl, hN, q⟩ := h₂
  obtain ⟨v1, v2, v3, rfl, w1, w2, w3⟩ := vms.three
  cases w1
  cases w2
  cases w3
  rename_i t1 t2 t3
  refine call_range_3 (by decide) ?_ (Or.inl (PyProof.noPylong_small (by decide)))
  have P₃ : Post X σ₂ s₂ σ₂ { s₂ with heap := s₂.heap.push { cls := .type "range", data := .fields #[.int ((N : Int) - 1) t1, .int (-1) t2, .int (-1) t3] }, toks := s₂.toks } :=
    Post.keeps P₂.st _ _ rfl fun _ _ e => Heap.get?_push_of_some _ e
  refine wpAny_pyIter_range (s := { s₂ with heap := s₂.heap.push { cls := .type "range", data := .fields #[.int ((N : Int) - 1) t1, .int (-1) t2, .int (-1) t3] }, toks := s₂.toks }) (IsRange.new ..) ?_ ?_
  · unfold Builtin.Range.small
    rw [down_size]
    have e : (if (-1 : Int) > 0 then Builtin.Range.rangeFitsLong (-1 + (-1 - 1)) else Builtin.Range.rangeFitsLong (-1 + (-1 + 1))) = true := by decide
    rw [e]
    simp only [Builtin.Range.rangeFitsLong, Bool.and_eq_true, Bool.or_true, decide_eq_true_eq, and_true]
    omega
  have P₄ := st_push P₃.st { cls := .type "range_iterator", data := .fields #[rawInt ((N : Int) - 1), rawInt (Builtin.Range.rangeSize ((N : Int) - 1) (-1) (-1)), rawInt (-1)] }
  refine ⟨_, N, _, σ₂, rfl, P₂.trans (P₃.trans P₄), ?_, q⟩
  refine ⟨[_], [_], fun i v => ∃ t, v = .int (((N : Int) - 1) + i * (-1)) t, fun i h => IsRangeIter h (s₂.heap.push { cls := .type "range", data := .fields #[.int ((N : Int) - 1) t1, .int (-1) t2, .int (-1) t3] }).objs.size (((N : Int) - 1) + (i : Nat) * (-1)) ((N : Int) - (i : Nat)) (-1), fun A' hA => Walks.range hA _ _ (-1) N, ?_, fun i h' g c hc => ?_, fun c hc => ?_, fun c hc nb => absurd hc nb, fun i v mu' h' _ hv _ => ?_⟩
  · have g := Heap.get?_push_size (s₂.heap.push { cls := .type "range", data := .fields #[.int ((N : Int) - 1) t1, .int (-1) t2, .int (-1) t3] }) (o := { cls := .type "range_iterator", data := .fields #[rawInt ((N : Int) - 1), rawInt (Builtin.Range.rangeSize ((N : Int) - 1) (-1) (-1)), rawInt (-1)] }) rfl
    rw [down_size] at g
    show Heap.get? _ _ = _
    simpa [down_size] using g
  · rw [List.mem_singleton.mp hc]; exact ⟨_, _, g, rfl⟩
  · rw [List.mem_singleton.mp hc]; exact new_facts P₃.st
  · obtain ⟨t, rfl⟩ := hv
    have e : (((N : Int) - 1) + (i : Int) * (-1)) = (N : Int) - 1 - i := by omega
    rw [e]; exact .int _ _
end
end Mine
namespace Mine
noncomputable def rs : List Nat → List (List Nat) × Bool
  | [] => ([], false)
  | [c] => if c = 92 then ([], true) else ([[c]], false)
  | c :: d :: r => if c = 92 then (([92, d] :: (rs r).1), (rs r).2) else ([c] :: (rs (d :: r)).1, (rs (d :: r)).2)
theorem rs_esc (d : Nat) (r : List Nat) : rs (92 :: d :: r) = ([92, d] :: (rs r).1, (rs r).2) := by rw [rs]; simp
theorem rs_plain {c : Nat} (r : List Nat) (h : c ≠ 92) : rs (c :: r) = ([c] :: (rs r).1, (rs r).2) := by
  cases r with
  | nil => simp [rs, h]
  | cons d r => rw [rs]; simp [h]
theorem rs_flat (l : List Nat) : (rs l).1.flatten ++ (if (rs l).2 then [92] else []) = l := by
  induction l using rs.induct with
  | case1 => rfl
  | case2 => rfl
  | case3 c h => simp [rs, h]
  | case4 d r ih => rw [rs_esc]; simpa using ih
  | case5 c d r h ih => rw [rs_plain _ h]; simpa using ih
termination_by l => l.length
decreasing_by
  · have := skp_len r; simp; omega
  · simp
  · simp
end Mine
namespace Mine
noncomputable def Gd (s : List Nat) : Prop := (∃ c, c ≠ 92 ∧ s = [c]) ∨ ∃ d, s = [92, d]
theorem Gd.len {s : List Nat} (h : Gd s) : s ≠ [] ∧ s.length ≤ 2 := by rcases h with ⟨c, _, rfl⟩ | ⟨d, rfl⟩ <;> simp
theorem rs_good : ∀ (S : List (List Nat)), (∀ s ∈ S, Gd s) → rs S.flatten = (S, false)
  | [], _ => rfl
  | s :: S, h => by
    have ih := rs_good S fun z hz => h z (by simp [hz])
    rw [List.flatten_cons]
    rcases h s (by simp) with ⟨c, hc, rfl⟩ | ⟨d, rfl⟩
    · show rs (c :: S.flatten) = _
      rw [rs_plain _ hc, ih]
    · show rs (92 :: d :: S.flatten) = _
      rw [rs_esc, ih]
end Mine
namespace Mine
open PySem PySem.W
theorem rs_app_ok (x y : List Nat) (h : (rs x).2 = false) : rs (x ++ y) = ((rs x).1 ++ (rs y).1, (rs y).2) := by
  induction x using rs.induct with
  | case1 => simp [rs]
  | case2 => simp [rs] at h
  | case3 c hc =>
    show rs (c :: y) = _
    rw [rs_plain _ hc]
    simp [rs, hc]
  | case4 d r ih =>
    rw [rs_esc] at h ⊢
    show rs (92 :: d :: (r ++ y)) = _
    rw [rs_esc, ih h]; rfl
  | case5 c d r hc ih =>
    rw [rs_plain _ hc] at h ⊢
    show rs (c :: (d :: r ++ y)) = _
    rw [rs_plain _ hc, ih h]; rfl
end Mine
namespace Mine
noncomputable def wsum (W : List (List Nat)) (l : List Nat) (r : List Int) : Int := ((W.filter fun w => l.take w.length == w).map fun w => r.getD (w.length - 1) 0).sum
noncomputable def ways (W : List (List Nat)) : List Nat → List Int
  | [] => [1]
  | c :: r => wsum W (c :: r) (ways W r) :: ways W r
theorem ways_len (W : List (List Nat)) (l : List Nat) : (ways W l).length = l.length + 1 := by
  induction l with
  | nil => rfl
  | cons c r ih => simp [ways, ih]
noncomputable def hd1 (W : List (List Nat)) (l : List Nat) : Int := (ways W l).getD 0 0
theorem ways_at (W : List (List Nat)) (l : List Nat) (k : Nat) (h : k ≤ l.length) : (ways W l).getD k 0 = hd1 W (l.drop k) := by
  induction l generalizing k with
  | nil =>
    have : k = 0 := by simpa using h
    subst this; rfl
  | cons c r ih =>
    cases k with
    | zero => rfl
    | succ k =>
      show (ways W r).getD k 0 = _
      rw [ih k (by simpa using h)]; rfl
noncomputable def look (L : List (Nat × Int)) (x : Nat) : Int := ((L.filter fun p => p.1 == x).map (·.2)).sum
noncomputable def cnt4 (WS : List (List (List Nat))) (S : List (List Nat)) (z : Nat) (L : List (Nat × Int)) : Int := (WS.map fun ws => if ws.isPrefixOf S then look L (z + ws.flatten.length) else 0).sum
noncomputable def told4 (WS : List (List (List Nat))) (z : Nat) : List (List Nat) → List (Nat × Int)
  | [] => [(z, 1)]
  | s :: S => (z, cnt4 WS (s :: S) z (told4 WS (z + s.length) S)) :: told4 WS (z + s.length) S
noncomputable def exL (W : List (List Nat)) (z : Nat) : List (List Nat) → List (Nat × Int)
  | [] => [(z, 1)]
  | s :: S => (z, hd1 W (s :: S).flatten) :: exL W (z + s.length) S
theorem exL_low (W : List (List Nat)) (z : Nat) (S : List (List Nat)) : ∀ p ∈ exL W z S, z ≤ p.1 := by
  induction S generalizing z with
  | nil => intro p hp; rw [List.mem_singleton.mp hp]; exact Nat.le_refl _
  | cons s S ih =>
    intro p hp
    rcases List.mem_cons.mp hp with rfl | hp
    · exact Nat.le_refl _
    · have := ih _ p hp; omega
theorem look_none {L : List (Nat × Int)} {x : Nat} (h : ∀ p ∈ L, p.1 ≠ x) : look L x = 0 := by
  unfold look
  rw [List.filter_eq_nil_iff.mpr fun p hp => by simpa using h p hp]; rfl
theorem look_exL (W : List (List Nat)) (z : Nat) (A B : List (List Nat)) (h : ∀ s ∈ A, s ≠ []) (hB : ∀ s ∈ B, s ≠ []) : look (exL W z (A ++ B)) (z + A.flatten.length) = hd1 W B.flatten := by
  induction A generalizing z with
  | nil =>
    simp only [List.nil_append, List.flatten_nil, List.length_nil, Nat.add_zero]
    cases B with
    | nil => simp [exL, look, hd1, ways]
    | cons s S =>
      have hs : 0 < s.length := List.length_pos_iff.mpr (hB s (by simp))
      have := look_none (L := exL W (z + s.length) S) (x := z) fun p hp => by
        have := exL_low W _ _ p hp; omega
      unfold look at this ⊢
      rw [exL, List.filter_cons, if_pos (by simp), List.map_cons, List.sum_cons, this]
      simp
  | cons a A ih =>
    have ha : 0 < a.length := List.length_pos_iff.mpr (h a (by simp))
    have := ih (z + a.length) fun s hs => h s (by simp [hs])
    rw [List.cons_append, exL]
    unfold look at this ⊢
    rw [List.filter_cons, if_neg (fun e => by
      have e' : z = z + (a :: A).flatten.length := eq_of_beq e
      rw [List.flatten_cons, List.length_append] at e'
      omega), List.flatten_cons, List.length_append, ← Nat.add_assoc, this]
theorem pre_iff {WS S : List (List Nat)} (hW : ∀ s ∈ WS, Gd s) (hS : ∀ s ∈ S, Gd s) : (S.flatten.take WS.flatten.length == WS.flatten) = WS.isPrefixOf S := by
  rw [Bool.eq_iff_iff, List.isPrefixOf_iff_prefix]
  constructor
  · intro h
    have h1 : S.flatten.take WS.flatten.length = WS.flatten := by simpa using h
    have h2 : S.flatten = WS.flatten ++ S.flatten.drop WS.flatten.length := by
      conv => lhs; rw [← List.take_append_drop WS.flatten.length S.flatten, h1]
    have h3 := rs_good S hS
    rw [h2, rs_app_ok _ _ (by rw [rs_good WS hW]), rs_good WS hW] at h3
    exact ⟨_, congrArg Prod.fst h3⟩
  · rintro ⟨R, rfl⟩
    simp
theorem told_is (WS : List (List (List Nat))) (hW : ∀ ws ∈ WS, ws ≠ [] ∧ ∀ s ∈ ws, Gd s) (z : Nat) (S : List (List Nat)) (hS : ∀ s ∈ S, Gd s) : told4 WS z S = exL (WS.map (·.flatten)) z S := by
  induction S generalizing z with
  | nil => rfl
  | cons s S ih =>
    have ih := ih (z + s.length) fun x hx => hS x (by simp [hx])
    rw [told4, exL, ih]
    congr 2
    have hsne := (hS s (by simp)).len.1
    obtain ⟨c, r, hcr⟩ : ∃ c r, (s :: S).flatten = c :: r := by
      cases s with
      | nil => exact absurd rfl hsne
      | cons c s => exact ⟨c, s ++ S.flatten, rfl⟩
    unfold cnt4 hd1
    rw [hcr, ways]
    show _ = wsum _ _ _
    rw [← hcr]
    unfold wsum
    generalize hV : WS = V at hW ⊢
    have : ∀ V' : List (List (List Nat)), (∀ ws ∈ V', ws ≠ [] ∧ ∀ s ∈ ws, Gd s) → (V'.map fun ws => if ws.isPrefixOf (s :: S) then look (exL (V.map (·.flatten)) (z + s.length) S) (z + ws.flatten.length) else 0).sum = (((V'.map (·.flatten)).filter fun w => (s :: S).flatten.take w.length == w).map fun w => (ways (V.map (·.flatten)) r).getD (w.length - 1) 0).sum := by
      intro V' hV'
      induction V' with
      | nil => rfl
      | cons ws V' ihV =>
        have ihV := ihV fun x hx => hV' x (by simp [hx])
        obtain ⟨hne, hg⟩ := hV' ws (by simp)
        rw [List.map_cons, List.sum_cons, List.map_cons, List.filter_cons, pre_iff hg hS]
        by_cases hp : ws.isPrefixOf (s :: S) = true
        · rw [if_pos hp, if_pos hp, List.map_cons, List.sum_cons, ihV]
          congr 1
          obtain ⟨R, hR⟩ := List.isPrefixOf_iff_prefix.mp hp
          obtain ⟨w1, ws', rfl⟩ : ∃ w1 ws', ws = w1 :: ws' := by
            cases ws with
            | nil => exact absurd rfl hne
            | cons a b => exact ⟨a, b, rfl⟩
          rw [List.cons_append] at hR
          injection hR with e1 e2
          subst e1
          have hne' : ∀ x ∈ ws' ++ R, x ≠ [] := fun x hx => (hS x (by rw [← e2]; simp [List.mem_append.mp hx])).len.1
          have lk := look_exL (V.map (·.flatten)) (z + w1.length) ws' R (fun x hx => hne' x (by simp [hx])) (fun x hx => hne' x (by simp [hx]))
          rw [List.flatten_cons, List.length_append, ← Nat.add_assoc, ← e2, lk]
          have hrl : r.length + 1 = (w1 :: S).flatten.length := by rw [hcr]; rfl
          have hw1 : 0 < w1.length := List.length_pos_iff.mpr hsne
          rw [List.flatten_cons, List.length_append, ← e2, List.flatten_append, List.length_append] at hrl
          rw [ways_at _ _ _ (by omega)]
          congr 1
          have hd : (c :: r).drop (w1.length + ws'.flatten.length) = R.flatten := by
            rw [← hcr, List.flatten_cons, ← e2, List.flatten_append, ← List.append_assoc, ← List.length_append, List.drop_left]
          obtain ⟨q, hq⟩ : ∃ q, w1.length + ws'.flatten.length = q + 1 := ⟨w1.length + ws'.flatten.length - 1, by omega⟩
          rw [hq] at hd ⊢
          exact hd.symm
        · rw [if_neg hp, if_neg hp, ihV]; simp
    exact this V hW
noncomputable def pls (z : Nat) : List (List Nat) → List Nat
  | [] => [z]
  | s :: S => z :: pls (z + s.length) S
theorem pls_at (z : Nat) (S : List (List Nat)) : (List.range (S.length + 1)).map (fun k => z + (S.take k).flatten.length) = pls z S := by
  induction S generalizing z with
  | nil => rfl
  | cons s S ih =>
    rw [List.length_cons, List.range_succ_eq_map, List.map_cons, List.map_map, pls, ← ih]
    congr 1
    refine List.map_congr_left fun k _ => ?_
    simp; omega
theorem exL_pls (W : List (List Nat)) (pre : List Nat) (S : List (List Nat)) (z : Nat) (hz : z = pre.length) : exL W z S = (pls z S).map fun p => (p, (ways W (pre ++ S.flatten)).getD p 0) := by
  induction S generalizing pre z with
  | nil =>
    subst hz
    simp only [exL, pls, List.map_cons, List.map_nil, List.flatten_nil, List.append_nil]
    rw [ways_at _ _ _ (Nat.le_refl _), List.drop_length]; rfl
  | cons s S ih =>
    have := ih (pre ++ s) (z + s.length) (by rw [hz]; simp)
    rw [exL, pls, List.map_cons, this, List.append_assoc, List.flatten_cons]
    congr 2
    rw [ways_at _ _ _ (by rw [hz]; simp), hz, List.drop_left]
end Mine
namespace Mine
open PySem PySem.W PyProof.Rows
set_option maxHeartbeats 8000000 in
open_top hd for PySem.Challenge.rw_ij0062_04
end Mine
namespace Mine
open PySem PySem.W PySem.Calls PySem.Spec PyProof.Rows Builtin Builtin.ObjectAttr
noncomputable abbrev KK (p : Params) : Frag := hd.heap_39 p
noncomputable abbrev CT : Addr := 133
section
variable (p : Params)
theorem f_init : fnOk (KK p) 58 = true := by kernel_rfl
theorem f_next : fnOk (KK p) 65 = true := by kernel_rfl
theorem f_get : fnOk (KK p) 79 = true := by kernel_rfl
theorem f_seek : fnOk (KK p) 115 = true := by kernel_rfl
theorem g_tok : nsIn (KK p) mainGlobals "Tokenizer" = some (some (.ref CT)) := by kernel_rfl
theorem b_len : nsIn (KK p) mainGlobals "len" = some none := by kernel_rfl
theorem b_sum : nsIn (KK p) mainGlobals "sum" = some none := by kernel_rfl
theorem b_range : nsIn (KK p) mainGlobals "range" = some none := by kernel_rfl
theorem b_isinst : nsIn (KK p) mainGlobals "isinstance" = some none := by kernel_rfl
theorem b_str : nsIn (KK p) mainGlobals "str" = some none := by kernel_rfl
theorem b_ierr : nsIn (KK p) mainGlobals "IndexError" = some none := by kernel_rfl
theorem km_next : KMeth (KK p) CT "_Tokenizer__next" 65 := .of rfl (by kernel_rfl) (by kernel_rfl) (by kernel_rfl) (by kernel_rfl)
theorem km_get : KMeth (KK p) CT "get" 79 := .of rfl (by kernel_rfl) (by kernel_rfl) (by kernel_rfl) (by kernel_rfl)
theorem km_seek : KMeth (KK p) CT "seek" 115 := .of rfl (by kernel_rfl) (by kernel_rfl) (by kernel_rfl) (by kernel_rfl)
theorem kg_index : KGet (KK p) CT "index" := .of rfl (by kernel_rfl) (by kernel_rfl) (by kernel_rfl)
theorem kg_next : KGet (KK p) CT "next" := .of rfl (by kernel_rfl) (by kernel_rfl) (by kernel_rfl)
theorem kg_dec : KGet (KK p) CT "decoded_string" := .of rfl (by kernel_rfl) (by kernel_rfl) (by kernel_rfl)
theorem kg_istext : KGet (KK p) CT "istext" := .of rfl (by kernel_rfl) (by kernel_rfl) (by kernel_rfl)
theorem ks_index : KSet (KK p) CT "index" := .of rfl (by kernel_rfl) (by kernel_rfl) (by kernel_rfl) (by kernel_rfl)
theorem ks_next : KSet (KK p) CT "next" := .of rfl (by kernel_rfl) (by kernel_rfl) (by kernel_rfl) (by kernel_rfl)
theorem ks_string : KSet (KK p) CT "string" := .of rfl (by kernel_rfl) (by kernel_rfl) (by kernel_rfl) (by kernel_rfl)
theorem ks_dec : KSet (KK p) CT "decoded_string" := .of rfl (by kernel_rfl) (by kernel_rfl) (by kernel_rfl) (by kernel_rfl)
theorem ks_istext : KSet (KK p) CT "istext" := .of rfl (by kernel_rfl) (by kernel_rfl) (by kernel_rfl) (by kernel_rfl)
theorem km_make : KMake (KK p) CT 58 := ⟨by kernel_rfl, by kernel_rfl, by kernel_rfl⟩
theorem f_tell : fnOk (KK p) 108 = true := by kernel_rfl
theorem km_tell : KMeth (KK p) CT "tell" 108 := .of rfl (by kernel_rfl) (by kernel_rfl) (by kernel_rfl) (by kernel_rfl)
theorem f_match : fnOk (KK p) 72 = true := by kernel_rfl
theorem km_match : KMeth (KK p) CT "match" 72 := .of rfl (by kernel_rfl) (by kernel_rfl) (by kernel_rfl) (by kernel_rfl)
theorem f_plain : fnOkC (KK p) 142 = true := by kernel_rfl
theorem f_told : fnOkC (KK p) 147 = true := by kernel_rfl
theorem g_plain : nsIn (KK p) mainGlobals "_law_plain" = some (some (.ref 142)) := by kernel_rfl
theorem g_told : nsIn (KK p) mainGlobals "_law_told" = some (some (.ref 147)) := by kernel_rfl
end
end Mine
namespace Mine
open PySem PySem.W PySem.Calls PySem.Spec PyProof.Rows
noncomputable def tokFs (l : List Nat) (i : Nat) (d : V) : List (Str × V) := [("istext", .bool true), ("string", .str l), ("decoded_string", .str l), ("index", .int i), ("next", d)]
theorem tok_index (l : List Nat) (i : Nat) (d : V) : lk (tokFs l i d) "index" = some (.int i) := by kernel_rfl
theorem tok_next (l : List Nat) (i : Nat) (d : V) : lk (tokFs l i d) "next" = some d := by kernel_rfl
theorem tok_dec (l : List Nat) (i : Nat) (d : V) : lk (tokFs l i d) "decoded_string" = some (.str l) := by kernel_rfl
theorem up_index (l : List Nat) (i j : Nat) (d : V) : updF (tokFs l i d) "index" (.int j) = tokFs l j d := by kernel_rfl
theorem up_next (l : List Nat) (i : Nat) (d e : V) : updF (tokFs l i d) "next" e = tokFs l i e := by kernel_rfl
theorem s_bs : (Str.ofString "\\").cps.toList = [92] := by decide +kernel
theorem match_ierr {X : Cx} : Match X (.type "IndexError") (.type "IndexError") true := match_builtin (by rw [isSubtype_type]; kernel_rfl) (by kernel_rfl) (by rw [isSubtype_type]; kernel_rfl)
structure Tk (hp : Addr → Option HO) (a dx : Addr) (l : List Nat) (i : Nat) (d : V) : Prop where
  inst : hp a = some (.inst CT dx)
  dict : hp dx = some (.dict (tokFs l i d))
theorem c_next {pp : Params} {X : Cx} {n : Nat} {σ : S} {E : Value → S → Prop} {a dx : Addr} {l : List Nat} {i : Nat} {d : V} {Q : V → S → Prop} (ok : Ok X (n + 2)) (hK : X.K = KK pp) (hP : X.prog = PySem.Challenge.rw_ij0062_04.row.prog) (hc : X.ctx = none) (tk : Tk σ.hp a dx l i d) (hl : l.length ≤ 1000) (hi : i ≤ 1000)
    (q : match l[i]? with
      | none => Q .none { σ with hp := upd σ.hp dx (.dict (tokFs l i .none)) }
      | some c => if c = 92 then (match l[i + 1]? with
          | none => False
          | some c2 => Q .none { σ with hp := upd σ.hp dx (.dict (tokFs l (i + 2) (.str [92, c2]))) })
        else Q .none { σ with hp := upd σ.hp dx (.dict (tokFs l (i + 1) (.str [c]))) }) : Call X (.ref 65) [.ref a] σ Q E := by
  refine Call.fn' (names := ["self"]) (loc0 := [("self", .ref a)]) (n := n + 1) ok hK (f_next _) (bind1 fun v _ => by kernel_rfl) (by kernel_rfl) (by decide +kernel) rfl rfl fun Y okY hI => ?_
  have hKY : Y.K = KK pp := hI.K.trans hK
  have hcY : Y.ctx = none := hI.ctx.trans hc
  obtain ⟨t1, t2⟩ := tk
  have had : a ≠ dx := fun e => by rw [e, t2] at t1; cases t1
  conv in bodyAt _ _ => whnf
  refine W.hide fun Q1 E1 hQ1 hE1 => ?_
  ((try dsimp only); (with_reducible refine WXs_cons ?_))
  ((try dsimp only); (with_reducible refine WX_Assign (hs := ?hsz205) (by assumption) ?hkz205 ?_); (case hsz205 => intro _; rfl); (case hkz205 => (have hh := In.scope ‹In _ _ _›; exact kindE hh (by kernel_rfl))))
  refine W_field (by assumption) ?_ (by decide +kernel) (by ((with_reducible exact lk_hit))) t1 t2 (hKY ▸ kg_index _) (tok_index _ _ _) (fun _ e => by cases e) ?_
  · (have hh := In.scope ‹In _ _ _›; exact kindE hh (by kernel_rfl))
  dsimp only
  ((try dsimp only); (with_reducible refine WXs_cons ?_))
  refine WX_Try (n := n + 1) (c := .type "IndexError") okY hI.env (ht_bi okY hKY (by (have hh := In.scope ‹In _ _ _›; exact kindE hh (by kernel_rfl))) (b_ierr _) (by kernel_rfl) (by decide +kernel) (by decide +kernel)) ?_
  ((try dsimp only); (with_reducible refine WXs_cons ?_))
  ((try dsimp only); (with_reducible refine WX_Assign (hs := ?hsz211) (by assumption) ?hkz211 ?_); (case hsz211 => intro _; rfl); (case hkz211 => (have hh := In.scope ‹In _ _ _›; exact kindE hh (by kernel_rfl))))
  ((try dsimp only); (with_reducible refine W_Sub ?_))
  refine W_field (by assumption) ?_ (by decide +kernel) (by ((with_reducible refine lkp_skip ?hne2z213 ?hrest2z213); (case hne2z213 => decide +kernel); (with_reducible exact lk_hit))) t1 t2 (hKY ▸ kg_dec _) (tok_dec _ _ _) (fun _ e => by cases e) ?_
  · (have hh := In.scope ‹In _ _ _›; exact kindE hh (by kernel_rfl))
  ((try dsimp only); ((with_reducible refine W_local (d := ?dz215) (by assumption) ?hkz215 ?hlz215 ?qz215 ?hdz215); (case hkz215 => (have hh := In.scope ‹In _ _ _›; exact kindE hh (by kernel_rfl))); (case hlz215 => ((with_reducible exact lk_put_self))); (case hdz215 => decide +kernel); (try dsimp only)))
  refine s_strItem (hs := by intro _ _ _ _; with_unfolding_all rfl) (ht := by intro _ _ _; with_unfolding_all rfl) okY hcY (by omega) (by omega) ?_
  cases hli : l[i]? with
  | none =>
    rw [hli] at q
    dsimp only at q ⊢
    refine ⟨true, match_ierr, ?_⟩
    rw [if_pos rfl]
    intro e okm
    ((try dsimp only); (with_reducible refine WXs_cons ?_))
    ((try dsimp only); ((with_reducible refine WX_SetAttr (hs := ?hsz217) ?_); (case hsz217 => intro _; rfl)))
    ((try dsimp only); ((with_reducible refine W_none ?_); (try dsimp only)))
    ((try dsimp only); ((with_reducible refine W_local (d := ?dz219) (by assumption) ?hkz219 ?hlz219 ?qz219 ?hdz219); (case hkz219 => (have hh := In.scope ‹In _ _ _›; exact kindE hh (by kernel_rfl))); (case hlz219 => ((with_reducible refine lkp_skip ?hne2z219 ?hrest2z219); (case hne2z219 => decide +kernel); (with_reducible exact lk_hit))); (case hdz219 => decide +kernel); (try dsimp only)))
    refine sa_inst okm t1 t2 (hKY ▸ ks_next _) (by show 5 ≤ 90; decide) ?_
    rw [up_next]
    ((try dsimp only); (with_reducible refine WXs_cons ?_))
    ((try dsimp only); ((with_reducible refine WX_Return0 ?_); (try dsimp only)))
    exact hQ1 _ _ q
  | some c =>
    rw [hli] at q
    dsimp only at q ⊢
    ((try dsimp only); ((with_reducible refine WXs_nil ?_); (try dsimp only)))
    ((try dsimp only); (with_reducible refine WXs_cons ?_))
    ((try dsimp only); (with_reducible refine WX_If ?_))
    ((try dsimp only); ((with_reducible refine WT_Compare (hm := ?hmz225) ?_); (case hmz225 => with_unfolding_all rfl)))
    ((try dsimp only); ((with_reducible refine W_local (d := ?dz226) (by assumption) ?hkz226 ?hlz226 ?qz226 ?hdz226); (case hkz226 => (have hh := In.scope ‹In _ _ _›; exact kindE hh (by kernel_rfl))); (case hlz226 => ((with_reducible exact lk_put_self))); (case hdz226 => decide +kernel); (try dsimp only)))
    refine W_str s_bs ?_
    refine o_eqs (t_bool ?_)
    by_cases h92 : c = 92
    · subst h92
      rw [if_pos rfl] at q
      rw [if_pos (show ([92] == [92]) = true from rfl)]
      ((try dsimp only); (with_reducible refine WXs_cons ?_))
      ((try dsimp only); (with_reducible refine WX_Aug (d := ?dz228) (by assumption) ?hkz228 ?hlz228 ?_); (case hkz228 => (have hh := In.scope ‹In _ _ _›; exact kindE hh (by kernel_rfl))); (case hlz228 => ((with_reducible refine lkp_skip ?hne2z228 ?hrest2z228); (case hne2z228 => decide +kernel); (with_reducible exact lk_put_self))))
      ((try dsimp only); ((with_reducible refine W_int ?_); (try dsimp only)))
      refine o_iaddi ?_
      ((try dsimp only); (with_reducible refine WXs_cons ?_))
      refine WX_Try (n := n + 1) (c := .type "IndexError") okY hI.env (ht_bi okY hKY (by (have hh := In.scope ‹In _ _ _›; exact kindE hh (by kernel_rfl))) (b_ierr _) (by kernel_rfl) (by decide +kernel) (by decide +kernel)) ?_
      ((try dsimp only); (with_reducible refine WXs_cons ?_))
      ((try dsimp only); (with_reducible refine WX_Aug (d := ?dz233) (by assumption) ?hkz233 ?hlz233 ?_); (case hkz233 => (have hh := In.scope ‹In _ _ _›; exact kindE hh (by kernel_rfl))); (case hlz233 => ((with_reducible refine lkp_skip ?hne2z233 ?hrest2z233); (case hne2z233 => decide +kernel); (with_reducible exact lk_put_self))))
      ((try dsimp only); (with_reducible refine W_Sub ?_))
      refine W_field (by assumption) ?_ (by decide +kernel) (by ((with_reducible refine lkp_skip ?hne4z235 ?hrest4z235); (case hne4z235 => decide +kernel); (with_reducible refine lkp_skip ?hne3z235 ?hrest3z235); (case hne3z235 => decide +kernel); (with_reducible refine lkp_skip ?hne2z235 ?hrest2z235); (case hne2z235 => decide +kernel); (with_reducible exact lk_hit))) t1 t2 (hKY ▸ kg_dec _) (tok_dec _ _ _) (fun _ e => by cases e) ?_
      · (have hh := In.scope ‹In _ _ _›; exact kindE hh (by kernel_rfl))
      ((try dsimp only); ((with_reducible refine W_local (d := ?dz237) (by assumption) ?hkz237 ?hlz237 ?qz237 ?hdz237); (case hkz237 => (have hh := In.scope ‹In _ _ _›; exact kindE hh (by kernel_rfl))); (case hlz237 => ((with_reducible exact lk_put_self))); (case hdz237 => decide +kernel); (try dsimp only)))
      refine s_strItem (hs := by intro _ _ _ _; with_unfolding_all rfl) (ht := by intro _ _ _; with_unfolding_all rfl) (k := i + 1) okY hcY (by omega) (by omega) ?_
      cases hli2 : l[i + 1]? with
      | none =>
        rw [hli2] at q
        dsimp only at q ⊢
      | some c2 =>
        rw [hli2] at q
        dsimp only at q ⊢
        refine o_iadds (by simp) ?_
        ((try dsimp only); ((with_reducible refine WXs_nil ?_); (try dsimp only)))
        ((try dsimp only); ((with_reducible refine WXs_nil ?_); (try dsimp only)))
        ((try dsimp only); (with_reducible refine WXs_cons ?_))
        ((try dsimp only); ((with_reducible refine WX_SetAttr (hs := ?hsz241) ?_); (case hsz241 => intro _; rfl)))
        ((try dsimp only); (with_reducible refine W_BinOp ?_))
        ((try dsimp only); ((with_reducible refine W_local (d := ?dz243) (by assumption) ?hkz243 ?hlz243 ?qz243 ?hdz243); (case hkz243 => (have hh := In.scope ‹In _ _ _›; exact kindE hh (by kernel_rfl))); (case hlz243 => ((with_reducible refine lkp_skip ?hne2z243 ?hrest2z243); (case hne2z243 => decide +kernel); (with_reducible exact lk_put_self))); (case hdz243 => decide +kernel); (try dsimp only)))
        ((try dsimp only); ((with_reducible refine W_int ?_); (try dsimp only)))
        refine o_addi ?_
        ((try dsimp only); ((with_reducible refine W_local (d := ?dz245) (by assumption) ?hkz245 ?hlz245 ?qz245 ?hdz245); (case hkz245 => (have hh := In.scope ‹In _ _ _›; exact kindE hh (by kernel_rfl))); (case hlz245 => ((with_reducible refine lkp_skip ?hne5z245 ?hrest5z245); (case hne5z245 => decide +kernel); (with_reducible refine lkp_skip ?hne4z245 ?hrest4z245); (case hne4z245 => decide +kernel); (with_reducible refine lkp_skip ?hne3z245 ?hrest3z245); (case hne3z245 => decide +kernel); (with_reducible refine lkp_skip ?hne2z245 ?hrest2z245); (case hne2z245 => decide +kernel); (with_reducible exact lk_hit))); (case hdz245 => decide +kernel); (try dsimp only)))
        refine sa_inst okY t1 t2 (hKY ▸ ks_index _) (by show 5 ≤ 90; decide) ?_
        rw [show ((i : Int) + 1 + 1) = ((i + 2 : Nat) : Int) from rfl, up_index]
        ((try dsimp only); (with_reducible refine WXs_cons ?_))
        ((try dsimp only); ((with_reducible refine WX_SetAttr (hs := ?hsz247) ?_); (case hsz247 => intro _; rfl)))
        ((try dsimp only); ((with_reducible refine W_local (d := ?dz248) (by assumption) ?hkz248 ?hlz248 ?qz248 ?hdz248); (case hkz248 => (have hh := In.scope ‹In _ _ _›; exact kindE hh (by kernel_rfl))); (case hlz248 => ((with_reducible exact lk_put_self))); (case hdz248 => decide +kernel); (try dsimp only)))
        ((try dsimp only); ((with_reducible refine W_local (d := ?dz249) (by assumption) ?hkz249 ?hlz249 ?qz249 ?hdz249); (case hkz249 => (have hh := In.scope ‹In _ _ _›; exact kindE hh (by kernel_rfl))); (case hlz249 => ((with_reducible refine lkp_skip ?hne5z249 ?hrest5z249); (case hne5z249 => decide +kernel); (with_reducible refine lkp_skip ?hne4z249 ?hrest4z249); (case hne4z249 => decide +kernel); (with_reducible refine lkp_skip ?hne3z249 ?hrest3z249); (case hne3z249 => decide +kernel); (with_reducible refine lkp_skip ?hne2z249 ?hrest2z249); (case hne2z249 => decide +kernel); (with_reducible exact lk_hit))); (case hdz249 => decide +kernel); (try dsimp only)))
        refine sa_inst okY (C := CT) (dx := dx) (fs := tokFs l (i + 2) d) ?_ upd_self (hKY ▸ ks_next _) (by show 5 ≤ 90; decide) ?_
        · show upd σ.hp dx _ a = _
          rw [upd_ne had]; exact t1
        rw [up_next, upd_upd]
        ((try dsimp only); ((with_reducible refine WXs_nil ?_); (try dsimp only)))
        exact hQ1 _ _ q
    · rw [if_neg h92] at q
      have : ([c] == [92]) = false := by simp [h92]
      rw [this, if_neg (by decide)]
      ((try dsimp only); ((with_reducible refine WXs_nil ?_); (try dsimp only)))
      ((try dsimp only); (with_reducible refine WXs_cons ?_))
      ((try dsimp only); ((with_reducible refine WX_SetAttr (hs := ?hsz253) ?_); (case hsz253 => intro _; rfl)))
      ((try dsimp only); (with_reducible refine W_BinOp ?_))
      ((try dsimp only); ((with_reducible refine W_local (d := ?dz255) (by assumption) ?hkz255 ?hlz255 ?qz255 ?hdz255); (case hkz255 => (have hh := In.scope ‹In _ _ _›; exact kindE hh (by kernel_rfl))); (case hlz255 => ((with_reducible refine lkp_skip ?hne2z255 ?hrest2z255); (case hne2z255 => decide +kernel); (with_reducible exact lk_put_self))); (case hdz255 => decide +kernel); (try dsimp only)))
      ((try dsimp only); ((with_reducible refine W_int ?_); (try dsimp only)))
      refine o_addi ?_
      ((try dsimp only); ((with_reducible refine W_local (d := ?dz257) (by assumption) ?hkz257 ?hlz257 ?qz257 ?hdz257); (case hkz257 => (have hh := In.scope ‹In _ _ _›; exact kindE hh (by kernel_rfl))); (case hlz257 => ((with_reducible refine lkp_skip ?hne3z257 ?hrest3z257); (case hne3z257 => decide +kernel); (with_reducible refine lkp_skip ?hne2z257 ?hrest2z257); (case hne2z257 => decide +kernel); (with_reducible exact lk_hit))); (case hdz257 => decide +kernel); (try dsimp only)))
      refine sa_inst okY t1 t2 (hKY ▸ ks_index _) (by show 5 ≤ 90; decide) ?_
      rw [show ((i : Int) + 1) = ((i + 1 : Nat) : Int) from rfl, up_index]
      ((try dsimp only); (with_reducible refine WXs_cons ?_))
      ((try dsimp only); ((with_reducible refine WX_SetAttr (hs := ?hsz259) ?_); (case hsz259 => intro _; rfl)))
      ((try dsimp only); ((with_reducible refine W_local (d := ?dz260) (by assumption) ?hkz260 ?hlz260 ?qz260 ?hdz260); (case hkz260 => (have hh := In.scope ‹In _ _ _›; exact kindE hh (by kernel_rfl))); (case hlz260 => ((with_reducible exact lk_put_self))); (case hdz260 => decide +kernel); (try dsimp only)))
      ((try dsimp only); ((with_reducible refine W_local (d := ?dz261) (by assumption) ?hkz261 ?hlz261 ?qz261 ?hdz261); (case hkz261 => (have hh := In.scope ‹In _ _ _›; exact kindE hh (by kernel_rfl))); (case hlz261 => ((with_reducible refine lkp_skip ?hne3z261 ?hrest3z261); (case hne3z261 => decide +kernel); (with_reducible refine lkp_skip ?hne2z261 ?hrest2z261); (case hne2z261 => decide +kernel); (with_reducible exact lk_hit))); (case hdz261 => decide +kernel); (try dsimp only)))
      refine sa_inst okY (C := CT) (dx := dx) (fs := tokFs l (i + 1) d) ?_ upd_self (hKY ▸ ks_next _) (by show 5 ≤ 90; decide) ?_
      · show upd σ.hp dx _ a = _
        rw [upd_ne had]; exact t1
      rw [up_next, upd_upd]
      ((try dsimp only); ((with_reducible refine WXs_nil ?_); (try dsimp only)))
      exact hQ1 _ _ q
end Mine
namespace Mine
open PySem PySem.W PySem.Calls PySem.Spec PyProof.Rows
noncomputable def sg (l : List Nat) (i : Nat) : Option (Nat × V) := match l[i]? with
  | none => some (i, .none)
  | some c => if c = 92 then (match l[i + 1]? with
      | none => none
      | some c2 => some (i + 2, .str [92, c2]))
    else some (i + 1, .str [c])
theorem c_next' {pp : Params} {X : Cx} {n : Nat} {σ : S} {E : Value → S → Prop} {a dx : Addr} {l : List Nat} {i : Nat} {d : V} {Q : V → S → Prop} (ok : Ok X (n + 2)) (hK : X.K = KK pp) (hP : X.prog = PySem.Challenge.rw_ij0062_04.row.prog) (hc : X.ctx = none) (tk : Tk σ.hp a dx l i d) (hl : l.length ≤ 1000) (hi : i ≤ 1000)
    (q : match sg l i with
      | none => False
      | some (j, e) => Q .none { σ with hp := upd σ.hp dx (.dict (tokFs l j e)) }) : Call X (.ref 65) [.ref a] σ Q E := by
  refine c_next ok hK hP hc tk hl hi ?_
  unfold sg at q
  cases h : l[i]? with
  | none => rw [h] at q; exact q
  | some c =>
    rw [h] at q
    dsimp only at q ⊢
    split
    · rename_i hc
      rw [if_pos hc] at q
      cases h2 : l[i + 1]? with
      | none => rw [h2] at q; exact q
      | some c2 => rw [h2] at q; exact q
    · rename_i hc
      rw [if_neg hc] at q
      exact q
theorem Tk.upd {hp : Addr → Option HO} {a dx : Addr} {l : List Nat} {i : Nat} {d : V} (t : Tk hp a dx l i d) (j : Nat) (e : V) : Tk (Mine.upd hp dx (.dict (tokFs l j e))) a dx l j e := by
  obtain ⟨t1, t2⟩ := t
  have had : a ≠ dx := fun e => by rw [e, t2] at t1; cases t1
  exact ⟨by rw [upd_ne had]; exact t1, upd_self⟩
theorem c_get {pp : Params} {X : Cx} {n : Nat} {σ : S} {E : Value → S → Prop} {a dx : Addr} {l : List Nat} {i : Nat} {d : V} {Q : V → S → Prop} (ok : Ok X (n + 3)) (hK : X.K = KK pp) (hP : X.prog = PySem.Challenge.rw_ij0062_04.row.prog) (hc : X.ctx = none) (tk : Tk σ.hp a dx l i d) (hd : ∀ w, d ≠ .lit w) (hl : l.length ≤ 1000) (hi : i ≤ 1000)
    (q : match sg l i with
      | none => False
      | some (j, e) => Q d { σ with hp := upd σ.hp dx (.dict (tokFs l j e)) }) : Call X (.ref 79) [.ref a] σ Q E := by
  refine Call.fn' (names := ["self"]) (loc0 := [("self", .ref a)]) (n := n + 2) ok hK (f_get _) (bind1 fun v _ => by kernel_rfl) (by kernel_rfl) (by decide +kernel) rfl rfl fun Y okY hI => ?_
  have hKY : Y.K = KK pp := hI.K.trans hK
  have hcY : Y.ctx = none := hI.ctx.trans hc
  have hPY := hI.prog.trans hP
  have t1 := tk.inst
  have t2 := tk.dict
  conv in bodyAt _ _ => whnf
  ((try dsimp only); (with_reducible refine WXs_cons ?_))
  ((try dsimp only); (with_reducible refine WX_Assign (hs := ?hsz10) (by assumption) ?hkz10 ?_); (case hsz10 => intro _; rfl); (case hkz10 => (have hh := In.scope ‹In _ _ _›; exact kindE hh (by kernel_rfl))))
  refine W_field (by assumption) ?_ (by decide +kernel) (by ((with_reducible exact lk_hit))) t1 t2 (hKY ▸ kg_next _) (tok_next _ _ _) hd ?_
  · (have hh := In.scope ‹In _ _ _›; exact kindE hh (by kernel_rfl))
  ((try dsimp only); (with_reducible refine WXs_cons ?_))
  refine WX_Expr (hs := by intro _; rfl) okY ?_
  refine W_Method (hbase := by intro _; rfl) (hfew := by intro _; rfl) (hline := by rfl) (hplain := by intro _; rfl) okY ?_
  ((try dsimp only); ((with_reducible refine W_local (d := ?dz14) (by assumption) ?hkz14 ?hlz14 ?qz14 ?hdz14); (case hkz14 => (have hh := In.scope ‹In _ _ _›; exact kindE hh (by kernel_rfl))); (case hlz14 => ((with_reducible refine lkp_skip ?hne2z14 ?hrest2z14); (case hne2z14 => decide +kernel); (with_reducible exact lk_hit))); (case hdz14 => decide +kernel); (try dsimp only)))
  refine getm_inst okY t1 t2 (hKY ▸ km_next _) (by kernel_rfl) ⟨keeps_fn hKY (by kernel_rfl), ?_⟩
  refine WA_nil ?_
  refine c_next' (n := n) okY hKY hPY hcY tk hl hi ?_
  cases h : sg l i with
  | none => rw [h] at q; exact q
  | some je =>
    obtain ⟨j, e⟩ := je
    rw [h] at q
    dsimp only at q ⊢
    ((try dsimp only); (with_reducible refine WXs_cons ?_))
    ((try dsimp only); (with_reducible refine WX_Return ?_))
    ((try dsimp only); ((with_reducible refine W_local (d := ?dz17) (by assumption) ?hkz17 ?hlz17 ?qz17 ?hdz17); (case hkz17 => (have hh := In.scope ‹In _ _ _›; exact kindE hh (by kernel_rfl))); (case hlz17 => ((with_reducible exact lk_put_self))); (case hdz17 => decide +kernel); (try dsimp only)))
    exact q
theorem c_seek {pp : Params} {X : Cx} {n : Nat} {σ : S} {E : Value → S → Prop} {a dx : Addr} {l : List Nat} {i k : Nat} {d : V} {Q : V → S → Prop} (ok : Ok X (n + 3)) (hK : X.K = KK pp) (hP : X.prog = PySem.Challenge.rw_ij0062_04.row.prog) (hc : X.ctx = none) (tk : Tk σ.hp a dx l i d) (hl : l.length ≤ 1000) (hk : k ≤ 1000)
    (q : match sg l k with
      | none => False
      | some (j, e) => Q .none { σ with hp := upd σ.hp dx (.dict (tokFs l j e)) }) : Call X (.ref 115) [.ref a, .int k] σ Q E := by
  refine Call.fn' (names := ["self", "index"]) (loc0 := [("self", .ref a), ("index", .int k)]) (n := n + 2) ok hK (f_seek _) (bind2 fun v w _ => by kernel_rfl) (by kernel_rfl) (by decide +kernel) rfl rfl fun Y okY hI => ?_
  have hKY : Y.K = KK pp := hI.K.trans hK
  have hcY : Y.ctx = none := hI.ctx.trans hc
  have hPY := hI.prog.trans hP
  have t1 := tk.inst
  have t2 := tk.dict
  have tk' := tk.upd k d
  conv in bodyAt _ _ => whnf
  ((try dsimp only); (with_reducible refine WXs_cons ?_))
  ((try dsimp only); ((with_reducible refine WX_SetAttr (hs := ?hsz19) ?_); (case hsz19 => intro _; rfl)))
  ((try dsimp only); ((with_reducible refine W_local (d := ?dz20) (by assumption) ?hkz20 ?hlz20 ?qz20 ?hdz20); (case hkz20 => (have hh := In.scope ‹In _ _ _›; exact kindE hh (by kernel_rfl))); (case hlz20 => ((with_reducible refine lk_skip ?hne2z20 ?hrest2z20); (case hne2z20 => decide +kernel); (with_reducible exact lk_hit))); (case hdz20 => decide +kernel); (try dsimp only)))
  ((try dsimp only); ((with_reducible refine W_local (d := ?dz21) (by assumption) ?hkz21 ?hlz21 ?qz21 ?hdz21); (case hkz21 => (have hh := In.scope ‹In _ _ _›; exact kindE hh (by kernel_rfl))); (case hlz21 => ((with_reducible exact lk_hit))); (case hdz21 => decide +kernel); (try dsimp only)))
  refine sa_inst okY t1 t2 (hKY ▸ ks_index _) (by show 5 ≤ 90; decide) ?_
  rw [up_index]
  ((try dsimp only); (with_reducible refine WXs_cons ?_))
  refine WX_Expr (hs := by intro _; rfl) okY ?_
  refine W_Method (hbase := by intro _; rfl) (hfew := by intro _; rfl) (hline := by rfl) (hplain := by intro _; rfl) okY ?_
  ((try dsimp only); ((with_reducible refine W_local (d := ?dz23) (by assumption) ?hkz23 ?hlz23 ?qz23 ?hdz23); (case hkz23 => (have hh := In.scope ‹In _ _ _›; exact kindE hh (by kernel_rfl))); (case hlz23 => ((with_reducible exact lk_hit))); (case hdz23 => decide +kernel); (try dsimp only)))
  refine getm_inst okY tk'.inst tk'.dict (hKY ▸ km_next _) (by kernel_rfl) ⟨keeps_fn hKY (by kernel_rfl), ?_⟩
  refine WA_nil ?_
  refine c_next' (n := n) okY hKY hPY hcY tk' hl hk ?_
  cases h : sg l k with
  | none => rw [h] at q; exact q
  | some je =>
    obtain ⟨j, e⟩ := je
    rw [h] at q
    dsimp only at q ⊢
    ((try dsimp only); ((with_reducible refine WXs_nil ?_); (try dsimp only)))
    rw [upd_upd]
    exact q
theorem c_new {pp : Params} {X : Cx} {n : Nat} {σ : S} {E : Value → S → Prop} {l : List Nat} {Q : V → S → Prop} (ok : Ok X (n + 3)) (hK : X.K = KK pp) (hP : X.prog = PySem.Challenge.rw_ij0062_04.row.prog) (hc : X.ctx = none) (hl : l.length ≤ 1000)
    (q : ∀ a dx hp', σ.hp a = none → σ.hp dx = none → (∀ b o, σ.hp b = some o → hp' b = some o) → match sg l 0 with
      | none => False
      | some (j, e) => Tk hp' a dx l j e → Q (.ref a) ⟨σ.loc, hp'⟩) : Call X (.ref CT) [.str l] σ Q E := by
  refine Call.make' (names := ["self", "string"]) (loc0 := fun a => [("self", .ref a), ("string", .str l)]) (n := n + 2) ok hK (km_make _) (f_init _) (bind2 fun v w _ => by kernel_rfl) (by kernel_rfl) (by decide +kernel) rfl (fun _ => rfl) fun Y a dx okY hI ha hdx hne => ?_
  have hKY : Y.K = KK pp := hI.K.trans hK
  have hcY : Y.ctx = none := hI.ctx.trans hc
  have hPY := hI.prog.trans hP
  have stp : ∀ o : HO, upd (upd (upd σ.hp dx (.dict [])) a (.inst CT dx)) dx o a = some (.inst CT dx) ∧ upd (upd (upd σ.hp dx (.dict [])) a (.inst CT dx)) dx o dx = some o ∧ ∀ b o', σ.hp b = some o' → upd (upd (upd σ.hp dx (.dict [])) a (.inst CT dx)) dx o b = some o' := fun o =>
    ⟨by rw [upd_ne hne, upd_self], upd_self, fun b o' e => by
      rw [upd_ne (fun z => by rw [z, hdx] at e; cases e), upd_ne (fun z => by rw [z, ha] at e; cases e), upd_ne (fun z => by rw [z, hdx] at e; cases e)]; exact e⟩
  have t1 : upd (upd σ.hp dx (.dict [])) a (.inst CT dx) a = some (.inst CT dx) := upd_self
  have t2 : upd (upd σ.hp dx (.dict [])) a (.inst CT dx) dx = some (.dict []) := by rw [upd_ne hne.symm, upd_self]
  conv in bodyAt _ _ => whnf
  ((try dsimp only); (with_reducible refine WXs_cons ?_))
  ((try dsimp only); ((with_reducible refine WX_SetAttr (hs := ?hsz26) ?_); (case hsz26 => intro _; rfl)))
  refine W_Call (hplain := by intro _; rfl) (hlit := by intro _ _ _ _ x; cases x; rfl) okY ?_
  refine W_bi (v := .builtin "isinstance") okY hKY (by (have hh := In.scope ‹In _ _ _›; exact kindE hh (by kernel_rfl))) (b_isinst _) (by kernel_rfl) (by decide +kernel) (by decide +kernel) ?_
  refine ⟨_, rfl, keeps_builtin, ?_⟩
  refine WA_cons ?_
  ((try dsimp only); ((with_reducible refine W_local (d := ?dz28) (by assumption) ?hkz28 ?hlz28 ?qz28 ?hdz28); (case hkz28 => (have hh := In.scope ‹In _ _ _›; exact kindE hh (by kernel_rfl))); (case hlz28 => ((with_reducible refine lk_skip ?hne2z28 ?hrest2z28); (case hne2z28 => decide +kernel); (with_reducible exact lk_hit))); (case hdz28 => decide +kernel); (try dsimp only)))
  refine WA_cons ?_
  refine W_bi (v := .type "str") okY hKY (by (have hh := In.scope ‹In _ _ _›; exact kindE hh (by kernel_rfl))) (b_str _) (by kernel_rfl) (by decide +kernel) (by decide +kernel) ?_
  refine WA_nil ?_
  refine c_isstr ?_
  ((try dsimp only); ((with_reducible refine W_local (d := ?dz30) (by assumption) ?hkz30 ?hlz30 ?qz30 ?hdz30); (case hkz30 => (have hh := In.scope ‹In _ _ _›; exact kindE hh (by kernel_rfl))); (case hlz30 => ((with_reducible exact lk_hit))); (case hdz30 => decide +kernel); (try dsimp only)))
  refine sa_inst okY t1 t2 (hKY ▸ ks_istext _) (Nat.le_of_ble_eq_true (by kernel_rfl)) ?_
  ((try dsimp only); (with_reducible refine WXs_cons ?_))
  ((try dsimp only); ((with_reducible refine WX_SetAttr (hs := ?hsz32) ?_); (case hsz32 => intro _; rfl)))
  ((try dsimp only); ((with_reducible refine W_local (d := ?dz33) (by assumption) ?hkz33 ?hlz33 ?qz33 ?hdz33); (case hkz33 => (have hh := In.scope ‹In _ _ _›; exact kindE hh (by kernel_rfl))); (case hlz33 => ((with_reducible refine lk_skip ?hne2z33 ?hrest2z33); (case hne2z33 => decide +kernel); (with_reducible exact lk_hit))); (case hdz33 => decide +kernel); (try dsimp only)))
  ((try dsimp only); ((with_reducible refine W_local (d := ?dz34) (by assumption) ?hkz34 ?hlz34 ?qz34 ?hdz34); (case hkz34 => (have hh := In.scope ‹In _ _ _›; exact kindE hh (by kernel_rfl))); (case hlz34 => ((with_reducible exact lk_hit))); (case hdz34 => decide +kernel); (try dsimp only)))
  refine sa_inst okY (stp _).1 (stp _).2.1 (hKY ▸ ks_string _) (Nat.le_of_ble_eq_true (by kernel_rfl)) ?_
  rw [upd_upd]
  ((try dsimp only); (with_reducible refine WXs_cons ?_))
  ((try dsimp only); (with_reducible refine WX_If ?_))
  ((try dsimp only); (with_reducible refine WT_Not ?_))
  refine WT_value (he := by intro _ _; rfl) ?_
  refine W_field (d := .bool true) (by assumption) ?_ (by decide +kernel) (by ((with_reducible exact lk_hit))) (stp _).1 (stp _).2.1 (hKY ▸ kg_istext _) (by kernel_rfl) (fun _ e => by cases e) (t_bool ?_)
  · (have hh := In.scope ‹In _ _ _›; exact kindE hh (by kernel_rfl))
  rw [if_neg (by decide)]
  ((try dsimp only); ((with_reducible refine WXs_nil ?_); (try dsimp only)))
  ((try dsimp only); (with_reducible refine WXs_cons ?_))
  ((try dsimp only); ((with_reducible refine WX_SetAttr (hs := ?hsz42) ?_); (case hsz42 => intro _; rfl)))
  ((try dsimp only); ((with_reducible refine W_local (d := ?dz43) (by assumption) ?hkz43 ?hlz43 ?qz43 ?hdz43); (case hkz43 => (have hh := In.scope ‹In _ _ _›; exact kindE hh (by kernel_rfl))); (case hlz43 => ((with_reducible refine lk_skip ?hne2z43 ?hrest2z43); (case hne2z43 => decide +kernel); (with_reducible exact lk_hit))); (case hdz43 => decide +kernel); (try dsimp only)))
  ((try dsimp only); ((with_reducible refine W_local (d := ?dz44) (by assumption) ?hkz44 ?hlz44 ?qz44 ?hdz44); (case hkz44 => (have hh := In.scope ‹In _ _ _›; exact kindE hh (by kernel_rfl))); (case hlz44 => ((with_reducible exact lk_hit))); (case hdz44 => decide +kernel); (try dsimp only)))
  refine sa_inst okY (stp _).1 (stp _).2.1 (hKY ▸ ks_dec _) (Nat.le_of_ble_eq_true (by kernel_rfl)) ?_
  rw [upd_upd]
  ((try dsimp only); (with_reducible refine WXs_cons ?_))
  ((try dsimp only); ((with_reducible refine WX_SetAttr (hs := ?hsz46) ?_); (case hsz46 => intro _; rfl)))
  ((try dsimp only); ((with_reducible refine W_int ?_); (try dsimp only)))
  ((try dsimp only); ((with_reducible refine W_local (d := ?dz48) (by assumption) ?hkz48 ?hlz48 ?qz48 ?hdz48); (case hkz48 => (have hh := In.scope ‹In _ _ _›; exact kindE hh (by kernel_rfl))); (case hlz48 => ((with_reducible exact lk_hit))); (case hdz48 => decide +kernel); (try dsimp only)))
  refine sa_inst okY (stp _).1 (stp _).2.1 (hKY ▸ ks_index _) (Nat.le_of_ble_eq_true (by kernel_rfl)) ?_
  rw [upd_upd]
  ((try dsimp only); (with_reducible refine WXs_cons ?_))
  ((try dsimp only); ((with_reducible refine WX_SetAttr (hs := ?hsz50) ?_); (case hsz50 => intro _; rfl)))
  ((try dsimp only); ((with_reducible refine W_none ?_); (try dsimp only)))
  ((try dsimp only); ((with_reducible refine W_local (d := ?dz52) (by assumption) ?hkz52 ?hlz52 ?qz52 ?hdz52); (case hkz52 => (have hh := In.scope ‹In _ _ _›; exact kindE hh (by kernel_rfl))); (case hlz52 => ((with_reducible exact lk_hit))); (case hdz52 => decide +kernel); (try dsimp only)))
  refine sa_inst okY (stp _).1 (stp _).2.1 (hKY ▸ ks_next _) (Nat.le_of_ble_eq_true (by kernel_rfl)) ?_
  rw [upd_upd]
  rw [show updF (updF (updF (updF (updF [] (Str.ofString "istext") (V.bool true)) (Str.ofString "string") (V.str l)) (Str.ofString "decoded_string") (V.str l)) (Str.ofString "index") (V.int 0)) (Str.ofString "next") V.none = tokFs l 0 .none from by kernel_rfl]
  have tk : Tk (upd (upd (upd σ.hp dx (.dict [])) a (.inst CT dx)) dx (.dict (tokFs l 0 .none))) a dx l 0 .none := ⟨(stp _).1, (stp _).2.1⟩
  ((try dsimp only); (with_reducible refine WXs_cons ?_))
  refine WX_Expr (hs := by intro _; rfl) okY ?_
  refine W_Method (hbase := by intro _; rfl) (hfew := by intro _; rfl) (hline := by rfl) (hplain := by intro _; rfl) okY ?_
  ((try dsimp only); ((with_reducible refine W_local (d := ?dz54) (by assumption) ?hkz54 ?hlz54 ?qz54 ?hdz54); (case hkz54 => (have hh := In.scope ‹In _ _ _›; exact kindE hh (by kernel_rfl))); (case hlz54 => ((with_reducible exact lk_hit))); (case hdz54 => decide +kernel); (try dsimp only)))
  refine getm_inst okY tk.inst tk.dict (hKY ▸ km_next _) (by kernel_rfl) ⟨keeps_fn hKY (by kernel_rfl), ?_⟩
  refine WA_nil ?_
  refine c_next' (n := n) okY hKY hPY hcY tk hl (by omega) ?_
  cases h : sg l 0 with
  | none =>
    have q' := q a dx _ ha hdx (stp (.dict (tokFs l 0 .none))).2.2
    rw [h] at q'; exact q'
  | some je =>
    obtain ⟨j, e⟩ := je
    have q' := q a dx _ ha hdx (stp (.dict (tokFs l j e))).2.2
    rw [h] at q'
    dsimp only at q' ⊢
    ((try dsimp only); ((with_reducible refine WXs_nil ?_); (try dsimp only)))
    rw [upd_upd]
    exact ⟨rfl, q' ⟨(stp _).1, (stp _).2.1⟩⟩
end Mine
namespace Mine
open PySem PySem.W PySem.Calls PySem.Spec PyProof.Rows
inductive Rd (l : List Nat) (i : Nat) (err : Bool) : V → List (List Nat) → Prop
  | nil : i ≤ l.length → l.length ≤ i → err = false → Rd l i err .none []
  | cons (s : List Nat) (S' : List (List Nat)) : i ≤ l.length → s ≠ [] → s.length ≤ 2 → rs (l.drop i) = (S', err) → Rd l i err (.str s) (s :: S')
theorem Rd.le {l : List Nat} {i : Nat} {err : Bool} {d : V} {S : List (List Nat)} (x : Rd l i err d S) : i ≤ l.length := by cases x <;> assumption
theorem Rd.lit {l : List Nat} {i : Nat} {err : Bool} {d : V} {S : List (List Nat)} (x : Rd l i err d S) : ∀ w, d ≠ .lit w := by cases x <;> (intro w e; cases e)
theorem sg_rs {l : List Nat} {i : Nat} (hi : i ≤ l.length) : match sg l i with
    | none => rs (l.drop i) = ([], true)
    | some (j, d) => Rd l j (rs (l.drop i)).2 d (rs (l.drop i)).1 := by
  unfold sg
  cases h : l[i]? with
  | none =>
    have hl : l.length ≤ i := List.getElem?_eq_none_iff.mp h
    have : l.drop i = [] := List.drop_eq_nil_of_le hl
    dsimp only
    rw [this]
    exact .nil hi hl rfl
  | some c =>
    obtain ⟨hlt, hc⟩ := List.getElem?_eq_some_iff.mp h
    have e1 : l.drop i = c :: l.drop (i + 1) := by rw [List.drop_eq_getElem_cons hlt, hc]
    dsimp only
    by_cases h92 : c = 92
    · subst h92
      rw [if_pos rfl]
      cases h2 : l[i + 1]? with
      | none =>
        have : l.drop (i + 1) = [] := List.drop_eq_nil_of_le (List.getElem?_eq_none_iff.mp h2)
        dsimp only
        rw [e1, this]; rfl
      | some c2 =>
        obtain ⟨hlt2, hc2⟩ := List.getElem?_eq_some_iff.mp h2
        have e2 : l.drop (i + 1) = c2 :: l.drop (i + 2) := by rw [List.drop_eq_getElem_cons hlt2, hc2]
        dsimp only
        rw [e1, e2, rs_esc]
        exact .cons _ _ (by omega) (by simp) (by simp) rfl
    · rw [if_neg h92]
      dsimp only
      rw [e1, rs_plain _ h92]
      exact .cons _ _ (by omega) (by simp) (by simp) rfl
theorem sg_cons {l : List Nat} {i : Nat} {err : Bool} {s : List Nat} {S' : List (List Nat)} (x : Rd l i err (.str s) (s :: S')) : match sg l i with
    | none => S' = [] ∧ err = true
    | some (j, d) => Rd l j err d S' := by
  cases x with
  | cons _ _ hi h1 h2 h3 =>
    have y := sg_rs hi
    rw [h3] at y
    cases h : sg l i with
    | none => rw [h] at y; simpa using y
    | some jd => rw [h] at y; exact y
theorem s_e : (Str.ofString "").cps.toList = [] := by decide +kernel
noncomputable def nlen : V → Nat
  | .str s => s.length
  | _ => 0
theorem Rd.sgn {l : List Nat} {i : Nat} {err : Bool} {d : V} {S : List (List Nat)} (x : Rd l i err d S) : d = .none ∨ ∃ s, s ≠ [] ∧ s.length ≤ 2 ∧ d = .str s := by
  cases x with
  | nil => exact .inl rfl
  | cons s S' h1 h2 h3 h4 => exact .inr ⟨s, h2, h3, rfl⟩
theorem Rd.pos {l : List Nat} {i : Nat} {d : V} {S : List (List Nat)} (x : Rd l i false d S) : (i : Int) - (nlen d : Nat) = (l.length : Int) - S.flatten.length := by
  cases x with
  | nil h1 h2 h3 => simp [nlen]; omega
  | cons s S' h1 h2 h3 h4 =>
    have h := rs_flat (l.drop i)
    rw [h4] at h
    have e := congrArg List.length h
    simp only [Bool.false_eq_true, if_false, List.append_nil, List.length_drop] at e
    simp only [nlen, List.flatten_cons, List.length_append]
    omega
theorem c_tell {pp : Params} {X : Cx} {n : Nat} {σ : S} {E : Value → S → Prop} {a dx : Addr} {l : List Nat} {i : Nat} {d : V} {Q : V → S → Prop} (ok : Ok X (n + 1)) (hK : X.K = KK pp) (tk : Tk σ.hp a dx l i d) (hd : d = .none ∨ ∃ s, s ≠ [] ∧ s.length ≤ 2 ∧ d = .str s)
    (q : Q (.int ((i : Int) - (nlen d : Nat))) σ) : Call X (.ref 108) [.ref a] σ Q E := by
  refine Call.fn' (names := ["self"]) (loc0 := [("self", .ref a)]) (n := n) ok hK (f_tell _) (bind1 fun v _ => by kernel_rfl) (by kernel_rfl) (by decide +kernel) rfl rfl fun Y okY hI => ?_
  have hKY : Y.K = KK pp := hI.K.trans hK
  obtain ⟨t1, t2⟩ := tk
  conv in bodyAt _ _ => whnf
  refine W.hide fun Q1 E1 hQ1 hE1 => ?_
  ((try dsimp only); (with_reducible refine WXs_cons ?_))
  ((try dsimp only); (with_reducible refine WX_Return ?_))
  ((try dsimp only); (with_reducible refine W_BinOp ?_))
  refine W_field (by assumption) ?_ (by decide +kernel) (by ((with_reducible exact lk_hit))) t1 t2 (hKY ▸ kg_index _) (tok_index _ _ _) (fun _ e => by cases e) ?_
  · (have hh := In.scope ‹In _ _ _›; exact kindE hh (by kernel_rfl))
  refine W_Call (hplain := by intro _; rfl) (hlit := by intro _ _ _ _ x; cases x; rfl) okY ?_
  refine W_bi (v := .builtin "len") okY hKY (by (have hh := In.scope ‹In _ _ _›; exact kindE hh (by kernel_rfl))) (b_len _) (by kernel_rfl) (by decide +kernel) (by decide +kernel) ?_
  refine ⟨_, rfl, keeps_builtin, ?_⟩
  refine WA_cons ?_
  refine W_Or ?_
  refine W_field (by assumption) ?_ (by decide +kernel) (by ((with_reducible exact lk_hit))) t1 t2 (hKY ▸ kg_next _) (tok_next _ _ _) ?_ ?_
  · (have hh := In.scope ‹In _ _ _›; exact kindE hh (by kernel_rfl))
  · rcases hd with rfl | ⟨s, _, _, rfl⟩ <;> (intro w e; cases e)
  rcases hd with rfl | ⟨s, h1, h2, rfl⟩
  · refine t_none ?_
    rw [if_neg (by decide)]
    refine W_str s_e ?_
    refine WA_nil ?_
    refine c_lens (by simp) ?_
    exact o_subi (hQ1 _ _ q)
  · refine t_str (by omega) ?_
    have hne : (!s.isEmpty) = true := by cases s with | nil => exact absurd rfl h1 | cons _ _ => rfl
    rw [hne, if_pos rfl]
    refine WA_nil ?_
    refine c_lens (by omega) ?_
    exact o_subi (hQ1 _ _ q)
end Mine
namespace Mine
open PySem PySem.W PySem.Calls PySem.Spec PyProof.Rows
theorem strOk_of {s : List Nat} (h : ∀ c ∈ s, c < 1000) : PyData.strOk (mk s) = true := by
  unfold PyData.strOk; simp; intro c hc; have := h c hc; omega
theorem shp_str {s : List Nat} (h : ∀ c ∈ s, c < 1000) : Shp (.str s) := ⟨rfl, by simp [V.dat, PyData.canLay0, PyData.depth, strOk_of h]⟩
theorem shp_non : Shp .none := ⟨rfl, by decide +kernel⟩
theorem acc_gen {α : Type} (L : List α) (d : α) (p : α → Bool) (g : α → V) : accOf (fun i => p (L.getD i d)) (fun i => g (L.getD i d)) L.length = (L.filter p).map g := by
  unfold accOf
  have e : (List.range L.length).map (fun i => L.getD i d) = L := by
    apply List.ext_getElem
    · simp
    · intro i h1 h2; simp [List.getD_eq_getElem?_getD, h2]
  have e2 : (L.filter p).map g = (((List.range L.length).map fun i => L.getD i d).filter p).map g := by rw [e]
  rw [e2, List.filter_map, List.map_map]
  rfl
theorem acc_all {α : Type} (L : List α) (d : α) (g : α → V) : accOf (fun _ => true) (fun i => g (L.getD i d)) L.length = L.map g := by
  have := acc_gen L d (fun _ => true) g
  rw [this, List.filter_eq_self.mpr (by simp)]
theorem slc_at {α : Type} (l : List α) (i k : Nat) (h : i ≤ k) : slc l (some (i : Int)) (some (k : Int)) = (l.drop i).take (k - i) := by
  unfold slc kms_lo kms_hi
  dsimp only
  rw [if_neg (by omega), if_neg (by omega)]
  simp
  by_cases hk : k ≤ l.length
  · rw [Nat.min_eq_left hk, Nat.min_eq_left (by omega)]
  · rw [Nat.min_eq_right (by omega)]
    by_cases hi : i ≤ l.length
    · rw [Nat.min_eq_left hi, List.take_of_length_le (by simp), List.take_of_length_le (by simp; omega)]
    · rw [List.drop_eq_nil_of_le (show l.length ≤ i by omega), List.drop_eq_nil_of_le (by omega)]; simp
theorem strs_getD (S : List (List Nat)) (i : Nat) (hi : i < S.length) : (S.map V.str).getD i .none = .str (S.getD i []) := by
  rw [List.getD_eq_getElem?_getD, List.getD_eq_getElem?_getD]; simp [hi]
theorem getD_mem' {α : Type} (R : List α) (d : α) (i : Nat) (hi : i < R.length) : R.getD i d ∈ R := by
  rw [List.getD_eq_getElem?_getD, List.getElem?_eq_getElem hi]; exact List.getElem_mem hi
theorem c_match {pp : Params} {X : Cx} {n : Nat} {σ : S} {E : Value → S → Prop} {a dx : Addr} {l z : List Nat} {i : Nat} {d : V} {SS : List (List Nat)} {Q : V → S → Prop} (ok : Ok X (n + 3)) (hK : X.K = KK pp) (hP : X.prog = PySem.Challenge.rw_ij0062_04.row.prog) (hc : X.ctx = none) (tk : Tk σ.hp a dx l i d) (hl : l.length ≤ 1000) (rd : Rd l i false d SS) (hz : ∀ c ∈ z, c < 1000)
    (q1 : ∀ S', SS = z :: S' → ∀ j e, Rd l j false e S' → Q (.bool true) { σ with hp := upd σ.hp dx (.dict (tokFs l j e)) }) (q2 : [z].isPrefixOf SS = false → Q (.bool false) σ) : Call X (.ref 72) [.ref a, .str z] σ Q E := by
  refine Call.fn' (names := ["self", "char"]) (loc0 := [("self", .ref a), ("char", .str z)]) (n := n + 2) ok hK (f_match _) (bind2 fun v w _ => by kernel_rfl) (by kernel_rfl) (by decide +kernel) rfl rfl fun Y okY hI => ?_
  have hKY : Y.K = KK pp := hI.K.trans hK
  have hcY : Y.ctx = none := hI.ctx.trans hc
  have hPY := hI.prog.trans hP
  obtain ⟨t1, t2⟩ := tk
  have hil := rd.le
  conv in bodyAt _ _ => whnf
  refine W.hide fun Q1 E1 hQ1 hE1 => ?_
  ((try dsimp only); (with_reducible refine WXs_cons ?_))
  ((try dsimp only); (with_reducible refine WX_If ?_))
  ((try dsimp only); ((with_reducible refine WT_Compare (hm := ?hmz58) ?_); (case hmz58 => with_unfolding_all rfl)))
  ((try dsimp only); ((with_reducible refine W_local (d := ?dz59) (by assumption) ?hkz59 ?hlz59 ?qz59 ?hdz59); (case hkz59 => (have hh := In.scope ‹In _ _ _›; exact kindE hh (by kernel_rfl))); (case hlz59 => ((with_reducible refine lk_skip ?hne2z59 ?hrest2z59); (case hne2z59 => decide +kernel); (with_reducible exact lk_hit))); (case hdz59 => decide +kernel); (try dsimp only)))
  refine W_field (by assumption) ?_ (by decide +kernel) (by ((with_reducible exact lk_hit))) t1 t2 (hKY ▸ kg_next _) (tok_next _ _ _) rd.lit ?_
  · (have hh := In.scope ‹In _ _ _›; exact kindE hh (by kernel_rfl))
  cases rd with
  | nil h1 h2 h3 =>
    refine o_eqd okY (shp_str hz) shp_non (t_bool ?_)
    rw [if_neg (by simp [V.dat, PyData.eqv])]
    ((try dsimp only); ((with_reducible refine WXs_nil ?_); (try dsimp only)))
    ((try dsimp only); (with_reducible refine WXs_cons ?_))
    ((try dsimp only); (with_reducible refine WX_Return ?_))
    ((try dsimp only); ((with_reducible refine W_bool ?_); (try dsimp only)))
    exact hQ1 _ _ (q2 rfl)
  | cons s S'' h1 h2 h3 h4 =>
    have rd' : Rd l i false (.str s) (s :: S'') := .cons s S'' h1 h2 h3 h4
    refine o_eqs (t_bool ?_)
    by_cases hs : z = s
    · subst hs
      rw [if_pos (by simp)]
      ((try dsimp only); (with_reducible refine WXs_cons ?_))
      refine WX_Expr (hs := by intro _; rfl) okY ?_
      refine W_Method (hbase := by intro _; rfl) (hfew := by intro _; rfl) (hline := by rfl) (hplain := by intro _; rfl) okY ?_
      ((try dsimp only); ((with_reducible refine W_local (d := ?dz67) (by assumption) ?hkz67 ?hlz67 ?qz67 ?hdz67); (case hkz67 => (have hh := In.scope ‹In _ _ _›; exact kindE hh (by kernel_rfl))); (case hlz67 => ((with_reducible exact lk_hit))); (case hdz67 => decide +kernel); (try dsimp only)))
      refine getm_inst okY t1 t2 (hKY ▸ km_next _) (by kernel_rfl) ⟨keeps_fn hKY (by kernel_rfl), ?_⟩
      refine WA_nil ?_
      refine c_next' (n := n) okY hKY hPY hcY ⟨t1, t2⟩ hl (by omega) ?_
      have hsg := sg_cons rd'
      cases hg : sg l i with
      | none => rw [hg] at hsg; cases hsg.2
      | some je =>
        obtain ⟨j, e⟩ := je
        rw [hg] at hsg
        dsimp only at hsg ⊢
        ((try dsimp only); (with_reducible refine WXs_cons ?_))
        ((try dsimp only); (with_reducible refine WX_Return ?_))
        ((try dsimp only); ((with_reducible refine W_bool ?_); (try dsimp only)))
        exact hQ1 _ _ (q1 S'' rfl j e hsg)
    · rw [if_neg (by simpa using hs)]
      ((try dsimp only); ((with_reducible refine WXs_nil ?_); (try dsimp only)))
      ((try dsimp only); (with_reducible refine WXs_cons ?_))
      ((try dsimp only); (with_reducible refine WX_Return ?_))
      ((try dsimp only); ((with_reducible refine W_bool ?_); (try dsimp only)))
      exact hQ1 _ _ (q2 (by simp [List.isPrefixOf, hs]))
inductive WInv (l : List Nat) (wd : List (List Nat)) (hp0 : Addr → Option HO) (L : Addr) (i : Nat) (σ' : S) : Prop
  | mk (sub : ∀ c o, hp0 c = some o → σ'.hp c = some o) (g1 : σ'.hp (L + 1) = some (.cell (some (.str l)))) (g2 : σ'.hp (L + 2) = some (.cell (some (.lst ((ways wd (l.drop (l.length - i))).map .int))))) (g3 : ∃ v, σ'.hp (L + 3) = some (.cell v))
    (ew : lk σ'.loc "words" = some (.lst (wd.map .str)))
theorem c_plain {pp : Params} {X : Cx} {n : Nat} {σ : S} {E : Value → S → Prop} {l : List Nat} {wd : List (List Nat)} {Q : V → S → Prop} (ok : Ok X (n + 2)) (hK : X.K = KK pp) (hP : X.prog = PySem.Challenge.rw_ij0062_04.row.prog) (hc : X.ctx = none) (hl : l.length ≤ 1000) (hW : wd.length ≤ 1000) (hW1 : ∀ w ∈ wd, 1 ≤ w.length ∧ w.length ≤ 1000)
    (q : Q (.lst ((ways wd l).map .int)) σ) : Call X (.ref 142) [.str l, .lst (wd.map .str)] σ Q E := by
  refine Call.fz ?_
  refine Call.fnC' (names := ["text", "words"]) (loc0 := [("words", .lst (wd.map .str))]) (cp := [("text", .str l)]) (n := n + 1) ok hK (f_plain _) (bind2 fun v w _ => by kernel_rfl) (fun m => by kernel_rfl) (by decide +kernel) rfl rfl rfl fun Y L hp0 okY hI hcl hsub hcell => ?_
  have hKY : Y.K = KK pp := hI.K.trans hK
  have hcY : Y.ctx = none := hI.ctx.trans hc
  have hPY := hI.prog.trans hP
  replace hcl : Y.env.cells = [(("place" : Str), (L + 3 : Addr)), (("ways" : Str), (L + 2 : Addr)), (("text" : Str), (L + 1 : Addr))] := hcl.trans (by kernel_rfl)
  have c1 : Y.env.cells.lookup ("text" : Str) = some (L + 1) := by rw [hcl]; kernel_rfl
  have c2 : Y.env.cells.lookup ("ways" : Str) = some (L + 2) := by rw [hcl]; kernel_rfl
  have c3 : Y.env.cells.lookup ("place" : Str) = some (L + 3) := by rw [hcl]; kernel_rfl
  have g1 : hp0 (L + 1) = some (.cell (some (.str l))) := (hcell _ _ c1).1
  have g2 : hp0 (L + 2) = some (.cell none) := (hcell _ _ c2).1
  have g3 : hp0 (L + 3) = some (.cell none) := (hcell _ _ c3).1
  have f2 := (hcell _ _ c2).2
  have f3 := (hcell _ _ c3).2
  clear hcell
  have n12 : (L + 1 : Addr) ≠ L + 2 := fun q => absurd (Nat.add_left_cancel (n := L) q) (by decide)
  have n13 : (L + 1 : Addr) ≠ L + 3 := fun q => absurd (Nat.add_left_cancel (n := L) q) (by decide)
  have n23 : (L + 2 : Addr) ≠ L + 3 := fun q => absurd (Nat.add_left_cancel (n := L) q) (by decide)
  have up2 : ∀ (hp : Addr → Option HO) o', (∀ c o, σ.hp c = some o → hp c = some o) → ∀ c o, σ.hp c = some o → upd hp (L + 2) o' c = some o := fun hp o' h c o e => by
    rw [upd_ne (fun q => by rw [q, f2] at e; cases e)]; exact h c o e
  have up3 : ∀ (hp : Addr → Option HO) o', (∀ c o, σ.hp c = some o → hp c = some o) → ∀ c o, σ.hp c = some o → upd hp (L + 3) o' c = some o := fun hp o' h c o e => by
    rw [upd_ne (fun q => by rw [q, f3] at e; cases e)]; exact h c o e
  conv in bodyAt _ _ => whnf
  refine W.hide fun Q1 E1 hQ1 hE1 => ?_
  ((try dsimp only); (with_reducible refine WXs_cons ?_))
  refine WX_AssignC (hs := by intro _; rfl) okY (by (have hh := In.scope ‹In _ _ _›; exact kindE hh (by kernel_rfl))) c2 ?_
  refine W_List ?_
  refine WA_cons ?_
  ((try dsimp only); ((with_reducible refine W_int ?_); (try dsimp only)))
  refine WA_nil ⟨by simp, _, g2, ?_⟩
  have m0 := up2 hp0 (.cell (some (.lst [.int 1]))) hsub
  have m1 : upd hp0 (L + 2) (.cell (some (.lst [.int 1]))) (L + 1) = some (.cell (some (.str l))) := by rw [upd_ne n12]; exact g1
  have m2 : upd hp0 (L + 2) (.cell (some (.lst [.int 1]))) (L + 2) = some (.cell (some (.lst [.int 1]))) := upd_self
  have m3 : upd hp0 (L + 2) (.cell (some (.lst [.int 1]))) (L + 3) = some (.cell none) := by rw [upd_ne n23.symm]; exact g3
  generalize upd hp0 (L + 2) (.cell (some (.lst [.int 1]))) = hp1 at m0 m1 m2 m3 ⊢
  ((try dsimp only); (with_reducible refine WXs_cons ?_))
  refine WX_ForC (hs := by intro _ _; rfl) okY hcY hI.env (by (have hh := In.scope ‹In _ _ _›; exact kindE hh (by kernel_rfl))) c3 (WInv l wd σ.hp L) ?_
  refine wit_down okY (KB.of hKY (by (have hh := In.scope ‹In _ _ _›; exact kindE hh (by kernel_rfl))) (b_range _) (by kernel_rfl)) (fun _ => rfl) ?_
  refine WA_cons ?_
  ((try dsimp only); (with_reducible refine W_BinOp ?_))
  refine W_Call (hplain := by intro _; rfl) (hlit := by intro _ _ _ _ x; cases x; rfl) okY ?_
  refine W_bi (v := .builtin "len") okY hKY (by (have hh := In.scope ‹In _ _ _›; exact kindE hh (by kernel_rfl))) (b_len _) (by kernel_rfl) (by decide +kernel) (by decide +kernel) ?_
  refine ⟨_, rfl, keeps_builtin, ?_⟩
  refine WA_cons ?_
  refine W_cell okY (by (have hh := In.scope ‹In _ _ _›; exact kindE hh (by kernel_rfl))) c1 m1 ?_ (by decide +kernel)
  refine WA_nil ?_
  refine c_lens (by omega) ?_
  ((try dsimp only); ((with_reducible refine W_int ?_); (try dsimp only)))
  refine o_subi ?_
  refine WA_cons ?_
  refine W_Unary ?_
  ((try dsimp only); ((with_reducible refine W_int ?_); (try dsimp only)))
  refine o_negi ?_
  refine WA_cons ?_
  refine W_Unary ?_
  ((try dsimp only); ((with_reducible refine W_int ?_); (try dsimp only)))
  refine o_negi ?_
  refine WA_nil ⟨l.length, rfl, by omega, ⟨m0, m1, by rw [Nat.sub_zero, List.drop_length]; exact m2, ⟨_, m3⟩, by ((with_reducible exact lk_hit))⟩, fun i σ' hi inv => ?_, fun σ' inv => ?_⟩
  · obtain ⟨loc, hp⟩ := σ'
    obtain ⟨sub, k1, k2, ⟨v3, k3⟩, ew⟩ := inv
    dsimp only at sub k1 k2 k3 ew
    refine ⟨⟨v3, k3⟩, fun wr okw => ?_⟩
    have hlt : l.length - 1 - i < l.length := by omega
    have e0 : l.length - (i + 1) = l.length - 1 - i := by omega
    have e1 : l.length - i = l.length - 1 - i + 1 := by omega
    have e2 : (l.length : Int) - 1 - i = ((l.length - 1 - i : Nat) : Int) := by omega
    rw [e1] at k2
    rw [e2]
    have hd : l.drop (l.length - 1 - i) = l[l.length - 1 - i] :: l.drop (l.length - 1 - i + 1) := List.drop_eq_getElem_cons hlt
    have hw : ways wd (l.drop (l.length - (i + 1))) = wsum wd (l.drop (l.length - 1 - i)) (ways wd (l.drop (l.length - 1 - i + 1))) :: ways wd (l.drop (l.length - 1 - i + 1)) := by
      rw [e0, hd]; rfl
    have hwl := ways_len wd (l.drop (l.length - 1 - i + 1))
    rw [List.length_drop] at hwl
    generalize l.length - 1 - i = p at *
    generalize hR : ways wd (l.drop (p + 1)) = R at *
    have m0 := up3 hp (.cell (some (.int (p : Nat)))) sub
    have m1 : upd hp (L + 3) (.cell (some (.int (p : Nat)))) (L + 1) = some (.cell (some (.str l))) := by rw [upd_ne n13]; exact k1
    have m2 : upd hp (L + 3) (.cell (some (.int (p : Nat)))) (L + 2) = some (.cell (some (.lst (R.map .int)))) := by rw [upd_ne n23]; exact k2
    have m3 : upd hp (L + 3) (.cell (some (.int (p : Nat)))) (L + 3) = some (.cell (some (.int (p : Nat)))) := upd_self
    generalize upd hp (L + 3) (.cell (some (.int (p : Nat)))) = hp1 at m0 m1 m2 m3 ⊢
    clear k1 k2 k3 sub
    ((try dsimp only); (with_reducible refine WXs_cons ?_))
    refine WX_AssignC (hs := by intro _; rfl) okw (by (have hh := In.scope ‹In _ _ _›; exact kindE hh (by kernel_rfl))) c2 ?_
    ((try dsimp only); (with_reducible refine W_BinOp ?_))
    refine W_List ?_
    refine WA_cons ?_
    refine W_Call (hplain := by intro _; rfl) (hlit := by intro _ _ _ _ x; cases x; rfl) okw ?_
    refine W_bi (v := .builtin "sum") okw hKY (by (have hh := In.scope ‹In _ _ _›; exact kindE hh (by kernel_rfl))) (b_sum _) (by kernel_rfl) (by decide +kernel) (by decide +kernel) ?_
    refine ⟨_, rfl, keeps_builtin, ?_⟩
    refine WA_cons ?_
    refine W_Comp (hs := by intro _ _; rfl) (cl := [(("ways" : Str), (L + 2 : Addr)), (("text" : Str), (L + 1 : Addr)), (("place" : Str), (L + 3 : Addr))]) okw hcY (closL_ok hcl (by kernel_rfl)) (by decide) rfl (by decide +kernel) (by kernel_rfl) ?_
    refine wit_val ?_
    ((try dsimp only); ((with_reducible refine W_local (d := ?dz92) (by assumption) ?hkz92 ?hlz92 ?qz92 ?hdz92); (case hkz92 => (have hh := In.scope ‹In _ _ _›; exact kindE hh (by kernel_rfl))); (case hlz92 => ((with_reducible assumption))); (case hdz92 => decide +kernel); (try dsimp only)))
    refine ⟨_, _, itb_lst, by rw [List.length_map]; omega, fun i' => (l.drop p).take (wd.getD i' []).length == wd.getD i' [], fun i' => .int (R.getD ((wd.getD i' []).length - 1) 0), fun Z D i' hi' hD inc okZ => ?_, ?_⟩
    · rw [List.length_map] at hi'
      replace hD : hp1 D = none := hD
      rw [strs_getD _ _ hi']
      have hwm := hW1 _ (getD_mem' wd [] i' hi')
      dsimp only
      generalize wd.getD i' [] = w at hwm ⊢
      have d1 : Z.env.cells.lookup ("text" : Str) = some (L + 1) := by rw [inc.cells]; kernel_rfl
      have d2 : Z.env.cells.lookup ("ways" : Str) = some (L + 2) := by rw [inc.cells]; kernel_rfl
      have d3 : Z.env.cells.lookup ("place" : Str) = some (L + 3) := by rw [inc.cells]; kernel_rfl
      refine CT_one ?_
      ((try dsimp only); ((with_reducible refine WT_Compare (hm := ?hmz93) ?_); (case hmz93 => with_unfolding_all rfl)))
      refine W_SliceStr (ht := by intro _ _ _; with_unfolding_all rfl) ?_
      refine W_cell okZ (by (have hh := ‹InC _ _ _ _›; have hs := In.scope ‹In _ _ _›; exact InC.kind hh hs (by kernel_rfl))) d1 (by show upd hp1 D _ (L + 1) = _; rw [upd_ne (fun q => by rw [← q, m1] at hD; cases hD)]; exact m1) ?_ (by decide +kernel)
      refine WP_some ?_
      refine W_cell okZ (by (have hh := ‹InC _ _ _ _›; have hs := In.scope ‹In _ _ _›; exact InC.kind hh hs (by kernel_rfl))) d3 (by show upd hp1 D _ (L + 3) = _; rw [upd_ne (fun q => by rw [← q, m3] at hD; cases hD)]; exact m3) ?_ (by decide +kernel)
      refine WP_some ?_
      ((try dsimp only); (with_reducible refine W_BinOp ?_))
      refine W_cell okZ (by (have hh := ‹InC _ _ _ _›; have hs := In.scope ‹In _ _ _›; exact InC.kind hh hs (by kernel_rfl))) d3 (by show upd hp1 D _ (L + 3) = _; rw [upd_ne (fun q => by rw [← q, m3] at hD; cases hD)]; exact m3) ?_ (by decide +kernel)
      refine W_Call (hplain := by intro _; rfl) (hlit := by intro _ _ _ _ x; cases x; rfl) okZ ?_
      refine W_bi (v := .builtin "len") okZ (inc.K.trans hKY) (inc.kind hI.scope (by kernel_rfl)) (b_len _) (by kernel_rfl) (by decide +kernel) (by decide +kernel) ?_
      refine ⟨_, rfl, keeps_builtin, ?_⟩
      refine WA_cons ?_
      ((try dsimp only); ((with_reducible refine W_local (d := ?dz98) (by assumption) ?hkz98 ?hlz98 ?qz98 ?hdz98); (case hkz98 => (have hh := ‹InC _ _ _ _›; have hs := In.scope ‹In _ _ _›; exact InC.kind hh hs (by kernel_rfl))); (case hlz98 => ((with_reducible exact lk_hit))); (case hdz98 => decide +kernel); (try dsimp only)))
      refine WA_nil ?_
      refine c_lens (by omega) ?_
      refine o_addi ?_
      rw [show (p : Int) + (w.length : Nat) = ((p + w.length : Nat) : Int) from by omega]
      refine ⟨_, _, _, rfl, by omega, .int _, .int _, ?_⟩
      rw [slc_at _ _ _ (Nat.le_add_right _ _), Nat.add_sub_cancel_left]
      ((try dsimp only); ((with_reducible refine W_local (d := ?dz99) (by assumption) ?hkz99 ?hlz99 ?qz99 ?hdz99); (case hkz99 => (have hh := ‹InC _ _ _ _›; have hs := In.scope ‹In _ _ _›; exact InC.kind hh hs (by kernel_rfl))); (case hlz99 => ((with_reducible exact lk_hit))); (case hdz99 => decide +kernel); (try dsimp only)))
      refine o_eqs (t_bool ⟨rfl, rfl, fun hb => ?_⟩)
      have hb' : (l.drop p).take w.length = w := by simpa using hb
      have hwl2 : w.length ≤ l.length - p := by
        have := congrArg List.length hb'
        rw [List.length_take, List.length_drop] at this
        omega
      ((try dsimp only); (with_reducible refine W_Sub ?_))
      refine W_cell okZ (by (have hh := ‹InC _ _ _ _›; have hs := In.scope ‹In _ _ _›; exact InC.kind hh hs (by kernel_rfl))) d2 (by show upd hp1 D _ (L + 2) = _; rw [upd_ne (fun q => by rw [← q, m2] at hD; cases hD)]; exact m2) ?_ (by decide +kernel)
      ((try dsimp only); (with_reducible refine W_BinOp ?_))
      refine W_Call (hplain := by intro _; rfl) (hlit := by intro _ _ _ _ x; cases x; rfl) okZ ?_
      refine W_bi (v := .builtin "len") okZ (inc.K.trans hKY) (inc.kind hI.scope (by kernel_rfl)) (b_len _) (by kernel_rfl) (by decide +kernel) (by decide +kernel) ?_
      refine ⟨_, rfl, keeps_builtin, ?_⟩
      refine WA_cons ?_
      ((try dsimp only); ((with_reducible refine W_local (d := ?dz103) (by assumption) ?hkz103 ?hlz103 ?qz103 ?hdz103); (case hkz103 => (have hh := ‹InC _ _ _ _›; have hs := In.scope ‹In _ _ _›; exact InC.kind hh hs (by kernel_rfl))); (case hlz103 => ((with_reducible exact lk_hit))); (case hdz103 => decide +kernel); (try dsimp only)))
      refine WA_nil ?_
      refine c_lens (by omega) ?_
      ((try dsimp only); ((with_reducible refine W_int ?_); (try dsimp only)))
      refine o_subi ?_
      rw [show (w.length : Int) - 1 = ((w.length - 1 : Nat) : Int) from by omega]
      refine s_lstItem (hs := by intro _ _ _; with_unfolding_all rfl) (d := .int (R.getD (w.length - 1) 0)) (.val _) (by omega) ?_ ?_
      · rw [List.getElem?_map, List.getD_eq_getElem?_getD, List.getElem?_eq_getElem (by omega)]; rfl
      exact ⟨rfl, rfl⟩
    rw [List.length_map, acc_gen wd [] (fun w => (l.drop p).take w.length == w) (fun w => V.int (R.getD (w.length - 1) 0))]
    rw [show (wd.filter fun w => (l.drop p).take w.length == w).map (fun w => V.int (R.getD (w.length - 1) 0)) = ((wd.filter fun w => (l.drop p).take w.length == w).map fun w => R.getD (w.length - 1) 0).map .int from by rw [List.map_map]; rfl]
    refine WA_nil ?_
    refine c_sum okw hcY ?_
    refine WA_nil ⟨by simp, ?_⟩
    refine W_cell okw (by (have hh := In.scope ‹In _ _ _›; exact kindE hh (by kernel_rfl))) c2 m2 ?_ (by decide +kernel)
    refine o_addl (.val _) (.val _) (by simp; omega) ?_
    refine ⟨_, m2, ?_⟩
    ((try dsimp only); ((with_reducible refine WXs_nil ?_); (try dsimp only)))
    refine ⟨up2 _ _ m0, by show upd hp1 (L + 2) _ (L + 1) = _; rw [upd_ne n12]; exact m1, ?_, ⟨_, by show upd hp1 (L + 2) _ (L + 3) = _; rw [upd_ne n23.symm]; exact m3⟩, by ((with_reducible assumption))⟩
    show upd hp1 (L + 2) _ (L + 2) = _
    rw [upd_self, hw]
    rfl
  · obtain ⟨loc, hp⟩ := σ'
    obtain ⟨sub, k1, k2, ⟨v3, k3⟩, ew⟩ := inv
    dsimp only at sub k1 k2 k3 ew
    rw [Nat.sub_self, List.drop_zero] at k2
    ((try dsimp only); ((with_reducible refine WXs_nil ?_); (try dsimp only)))
    ((try dsimp only); (with_reducible refine WXs_cons ?_))
    ((try dsimp only); (with_reducible refine WX_Return ?_))
    refine W_cell okY (by (have hh := In.scope ‹In _ _ _›; exact kindE hh (by kernel_rfl))) c2 k2 ?_ (by decide +kernel)
    exact hQ1 _ _ ⟨σ.hp, _, sub, .refl _, q⟩
end Mine
namespace Mine
open PySem PySem.W PySem.Calls PySem.Spec PyProof.Rows
noncomputable def forAt : List Stmt → List Stmt
  | [] => []
  | (.For _ _ body _ _) :: _ => body
  | _ :: r => forAt r
theorem W_at {α β : Type} {X : Cx} {t : Sem α} {R : (Addr → Prop) → Heap → α → β → Prop} {σ : S} {Q : β → S → Prop} {E : Value → S → Prop} {b : β} (h : ∀ Q2 : β → S → Prop, Q2 b σ → W X t R σ Q2 E) (q : Q b σ) : W X t R σ Q E := h Q q
noncomputable def tvN (p : Nat × Int) : V := .tup [.int (p.1 : Nat), .int p.2]
theorem sg_good {l : List Nat} {k : Nat} {S : List (List Nat)} (hk : k ≤ l.length) (hd : l.drop k = S.flatten) (hS : ∀ s ∈ S, Gd s) : ∃ j e, sg l k = some (j, e) ∧ Rd l j false e S := by
  have h := sg_rs hk
  rw [hd, rs_good S hS] at h
  cases hs : sg l k with
  | none => rw [hs] at h; cases congrArg Prod.snd h
  | some je =>
    obtain ⟨j, e⟩ := je
    rw [hs] at h
    exact ⟨j, e, rfl, h⟩
theorem Tk.up_ne {hp : Addr → Option HO} {a dx dx2 : Addr} {l : List Nat} {i : Nat} {d : V} {o : HO} (t : Tk hp a dx l i d) (h1 : a ≠ dx2) (h2 : dx ≠ dx2) : Tk (Mine.upd hp dx2 o) a dx l i d := ⟨by rw [upd_ne h1]; exact t.inst, by rw [upd_ne h2]; exact t.dict⟩
structure Kept (hp0 : Addr → Option HO) (L : Addr) (l : List Nat) (a dx : Addr) (hp : Addr → Option HO) : Prop where
  sub : ∀ c o, hp0 c = some o → hp c = some o
  cell : hp (L + 1) = some (.cell (some (.ref a)))
  tk : ∃ j d, Tk hp a dx l j d ∧ ∀ w, d ≠ .lit w
inductive UInv4 (hp0 : Addr → Option HO) (L : Addr) (l w : List Nat) (SS ws : List (List Nat)) (a dx a2 dx2 : Addr) (z : Nat) (c : Int) (TL : List (Nat × Int)) (wv : V) (m : Nat) (σ' : S) : Prop
  | mk (k : Nat) (tkn : Bool) (j j2 : Nat) (d d2 : V) (hm : m = (ws.drop k).length + (if tkn then 1 else 0)) (sub : ∀ c o, hp0 c = some o → σ'.hp c = some o) (cell : σ'.hp (L + 1) = some (.cell (some (.ref a))))
    (tk : Tk σ'.hp a dx l j d) (tk2 : Tk σ'.hp a2 dx2 w j2 d2) (rd : Rd l j false d (SS.drop k)) (rd2 : Rd w j2 false d2 (ws.drop k)) (hk : k ≤ ws.length) (hpre : (ws.take k).isPrefixOf SS = true) (hno : tkn = false → k < ws.length ∧ ws.isPrefixOf SS = false)
    (eu : lk σ'.loc "u" = some (.ref a2)) (et : lk σ'.loc "taken" = some (.bool tkn)) (ep : lk σ'.loc "place" = some (.int z)) (ec : lk σ'.loc "count" = some (.int c)) (el : lk σ'.loc "told" = some (.lst (TL.map tvN))) (ewd : lk σ'.loc "words" = some wv)
inductive VInv4 (hp0 : Addr → Option HO) (L : Addr) (l : List Nat) (a dx : Addr) (z : Nat) (c : Int) (TL : List (Nat × Int)) (wv : V) (σ' : S) : Prop
  | mk (kp : Kept hp0 L l a dx σ'.hp) (ep : lk σ'.loc "place" = some (.int z)) (ec : lk σ'.loc "count" = some (.int c)) (el : lk σ'.loc "told" = some (.lst (TL.map tvN))) (ewd : lk σ'.loc "words" = some wv)
set_option maxHeartbeats 8000000 in
theorem w_word {pp : Params} {X : Cx} {n : Nat} {L : Addr} (hK : X.K = KK pp) (hP : X.prog = PySem.Challenge.rw_ij0062_04.row.prog) (hc : X.ctx = none) (hI : In X X (fdAt (KK pp) 147)) (hcl : X.env.cells = [(("t" : Str), (L + 1 : Addr))]) (c1 : X.env.cells.lookup ("t" : Str) = some (L + 1))
    (hp0 : Addr → Option HO) (l : List Nat) (hl : l.length ≤ 1000) (SS ws : List (List Nat)) (hS : ∀ s ∈ SS, Gd s) (hw : ∀ s ∈ ws, Gd s) (hne : ws ≠ []) (hwl : ws.flatten.length ≤ 1000) (hws : ∀ s ∈ ws, ∀ c ∈ s, c < 1000) (a dx : Addr) (hdx : hp0 dx = none) (z : Nat) (hz : z ≤ l.length) (hlz : l.drop z = SS.flatten) (c : Int) (TL : List (Nat × Int)) (hTL : TL.length ≤ 1000)
    (loc : List (Str × V)) (hp : Addr → Option HO) (kp : Kept hp0 L l a dx hp) (ep : lk loc "place" = some (.int z)) (ec : lk loc "count" = some (.int c)) (el : lk loc "told" = some (.lst (TL.map tvN))) (ew : lk loc "word" = some (.str ws.flatten)) (wv : V) (ewd : lk loc "words" = some wv)
    (wr wr2 : List Addr) (okw : Ok ((X.watch wr).watch wr2) (n + 4)) (Q2 : FV → S → Prop) (hQ2 : ∀ fl σ', (match fl with | .next => VInv4 hp0 L l a dx z (c + if ws.isPrefixOf SS then look TL (z + ws.flatten.length) else 0) TL wv σ' | .cont => VInv4 hp0 L l a dx z (c + if ws.isPrefixOf SS then look TL (z + ws.flatten.length) else 0) TL wv σ' | _ => False) → Q2 fl σ') :
    WXs ((X.watch wr).watch wr2) (forAt (forAt (bodyAt (KK pp) 147))) ⟨loc, hp⟩ Q2 F0 := by
  conv in forAt _ => whnf
  obtain ⟨sub, cell, j0, d0, tk, hdl⟩ := kp
  ((try dsimp only); (with_reducible refine WXs_cons ?_))
  refine WX_Expr (hs := by intro _; rfl) okw ?_
  refine W_Method (hbase := by intro _; rfl) (hfew := by intro _; rfl) (hline := by rfl) (hplain := by intro _; rfl) okw ?_
  refine W_cell okw (by (have hh := In.scope ‹In _ _ _›; exact kindE hh (by kernel_rfl))) c1 cell ?_ (by decide +kernel)
  refine getm_inst okw tk.inst tk.dict (hK ▸ km_seek _) (by kernel_rfl) ⟨keeps_fn hK (by kernel_rfl), ?_⟩
  refine WA_cons ?_
  ((try dsimp only); ((with_reducible refine W_local (d := ?dz114) (by assumption) ?hkz114 ?hlz114 ?qz114 ?hdz114); (case hkz114 => (have hh := In.scope ‹In _ _ _›; exact kindE hh (by kernel_rfl))); (case hlz114 => ((with_reducible assumption))); (case hdz114 => decide +kernel); (try dsimp only)))
  refine WA_nil ?_
  refine c_seek (n := n + 1) okw hK hP hc tk hl (by omega) ?_
  obtain ⟨j, e, hsg, rd⟩ := sg_good hz hlz hS
  rw [hsg]
  dsimp only
  have hcd : L + 1 ≠ dx := fun q => by have := tk.dict; rw [← q, cell] at this; cases this
  have tk1 := tk.upd j e
  have cell1 : upd hp dx (.dict (tokFs l j e)) (L + 1) = some (.cell (some (.ref a))) := by rw [upd_ne hcd]; exact cell
  have sub1 : ∀ c o, hp0 c = some o → upd hp dx (.dict (tokFs l j e)) c = some o := fun c o eo => by
    rw [upd_ne (fun q => by rw [q, hdx] at eo; cases eo)]; exact sub c o eo
  generalize upd hp dx (.dict (tokFs l j e)) = hp1 at tk1 cell1 sub1 ⊢
  clear tk cell sub hsg
  ((try dsimp only); (with_reducible refine WXs_cons ?_))
  ((try dsimp only); (with_reducible refine WX_Assign (hs := ?hsz116) (by assumption) ?hkz116 ?_); (case hsz116 => intro _; rfl); (case hkz116 => (have hh := In.scope ‹In _ _ _›; exact kindE hh (by kernel_rfl))))
  refine W_Call (hplain := by intro _; rfl) (hlit := by intro _ _ _ _ x; cases x; rfl) okw ?_
  refine W_gl okw hK (by (have hh := In.scope ‹In _ _ _›; exact kindE hh (by kernel_rfl))) (g_tok _) (by decide +kernel) ?_
  refine ⟨_, rfl, keeps_fn hK (by kernel_rfl), ?_⟩
  refine WA_cons ?_
  ((try dsimp only); ((with_reducible refine W_local (d := ?dz118) (by assumption) ?hkz118 ?hlz118 ?qz118 ?hdz118); (case hkz118 => (have hh := In.scope ‹In _ _ _›; exact kindE hh (by kernel_rfl))); (case hlz118 => ((with_reducible assumption))); (case hdz118 => decide +kernel); (try dsimp only)))
  refine WA_nil ?_
  refine c_new (n := n + 1) okw hK hP hc (by omega) fun a2 dx2 hp2 u1 u2 u3 => ?_
  obtain ⟨j2, e2, hsg2, rd2⟩ := sg_good (l := ws.flatten) (k := 0) (S := ws) (Nat.zero_le _) rfl hw
  rw [hsg2]
  intro tk2
  have cell2 := u3 _ _ cell1
  have tk3 : Tk hp2 a dx l j e := ⟨u3 _ _ tk1.inst, u3 _ _ tk1.dict⟩
  have sub2 : ∀ c o, hp0 c = some o → hp2 c = some o := fun c o eo => u3 _ _ (sub1 c o eo)
  have f1 : hp0 dx2 = none := by
    cases q : hp0 dx2 with
    | none => rfl
    | some o =>
      have u2' : hp1 dx2 = none := u2
      have := sub1 _ _ q; rw [u2'] at this; cases this
  have n1 : a ≠ dx2 := fun q => by
    have u2' : hp1 dx2 = none := u2
    have := tk1.inst; rw [q, u2'] at this; cases this
  have n2 : dx ≠ dx2 := fun q => by
    have u2' : hp1 dx2 = none := u2
    have := tk1.dict; rw [q, u2'] at this; cases this
  have n3 : a2 ≠ dx := fun q => by
    have u1' : hp1 a2 = none := u1
    have := tk1.dict; rw [← q, u1'] at this; cases this
  have n4 : L + 1 ≠ dx2 := fun q => by
    have u2' : hp1 dx2 = none := u2
    rw [← q, cell1] at u2'; cases u2'
  clear u1 u2 u3 cell1 sub1 tk1
  ((try dsimp only); (with_reducible refine WXs_cons ?_))
  ((try dsimp only); (with_reducible refine WX_Assign (hs := ?hsz120) (by assumption) ?hkz120 ?_); (case hsz120 => intro _; rfl); (case hkz120 => (have hh := In.scope ‹In _ _ _›; exact kindE hh (by kernel_rfl))))
  ((try dsimp only); ((with_reducible refine W_bool ?_); (try dsimp only)))
  ((try dsimp only); (with_reducible refine WXs_cons ?_))
  refine WX_While okw hI.env (UInv4 hp0 L l ws.flatten SS ws a dx a2 dx2 z c TL wv) (fun m σ' inv => ?_) (ws.length + 1) ⟨0, true, j, j2, e, e2, by simp, sub2, cell2, tk3, tk2, by simpa using rd, by simpa using rd2, Nat.zero_le _, by simp, (fun h => nomatch h), by ((with_reducible refine lkp_skip ?hne2z123 ?hrest2z123); (case hne2z123 => decide +kernel); (with_reducible exact lk_put_self)), by ((with_reducible exact lk_put_self)), by ((with_reducible refine lkp_skip ?hne3z125 ?hrest3z125); (case hne3z125 => decide +kernel); (with_reducible refine lkp_skip ?hne2z125 ?hrest2z125); (case hne2z125 => decide +kernel); (with_reducible assumption)), by ((with_reducible refine lkp_skip ?hne3z126 ?hrest3z126); (case hne3z126 => decide +kernel); (with_reducible refine lkp_skip ?hne2z126 ?hrest2z126); (case hne2z126 => decide +kernel); (with_reducible assumption)), by ((with_reducible refine lkp_skip ?hne3z127 ?hrest3z127); (case hne3z127 => decide +kernel); (with_reducible refine lkp_skip ?hne2z127 ?hrest2z127); (case hne2z127 => decide +kernel); (with_reducible assumption)), by ((with_reducible refine lkp_skip ?hne3z128 ?hrest3z128); (case hne3z128 => decide +kernel); (with_reducible refine lkp_skip ?hne2z128 ?hrest2z128); (case hne2z128 => decide +kernel); (with_reducible assumption))⟩
  obtain ⟨loc', hp'⟩ := σ'
  obtain ⟨k, tkn, j3, j4, d3, d4, hm, sub, cell, tk, tk', rd3, rd4, hk, hpre, hno, eu, et, ep', ec', el', ewd'⟩ := inv
  dsimp only at sub cell tk tk' eu et ep' ec' el' ewd'
  have hpos := rd3.pos
  have hpos2 := rd4.pos
  have tell1 : (j3 : Int) - (nlen d3 : Nat) = (z : Int) + ((ws.take k).flatten.length : Nat) := by
    obtain ⟨R, hR⟩ := List.isPrefixOf_iff_prefix.mp hpre
    have e1 : SS.drop k = R := by rw [← hR, List.drop_append_of_le_length (by rw [List.length_take]; omega)]; simp [List.length_take, Nat.min_eq_left hk]
    have e2 : SS.flatten.length = (ws.take k).flatten.length + R.flatten.length := by rw [← hR]; simp
    have e3 : SS.flatten.length = l.length - z := by rw [← hlz, List.length_drop]
    rw [e1] at hpos
    omega
  have tell2 : (j4 : Int) - (nlen d4 : Nat) = ((ws.take k).flatten.length : Nat) := by
    have e2 : ws.flatten.length = (ws.take k).flatten.length + (ws.drop k).flatten.length := by
      rw [← List.length_append, ← List.flatten_append, List.take_append_drop]
    omega
  refine W_at (b := decide (tkn = true ∧ ws.drop k ≠ [])) (fun Q5 H5 => ?_) ?_
  · show WT _ _ _ _ _
    refine WT_And2 ?_
    ((try dsimp only); ((with_reducible refine WT_Compare (hm := ?hmz129) ?_); (case hmz129 => with_unfolding_all rfl)))
    ((try dsimp only); ((with_reducible refine W_local (d := ?dz130) (by assumption) ?hkz130 ?hlz130 ?qz130 ?hdz130); (case hkz130 => (have hh := In.scope ‹In _ _ _›; exact kindE hh (by kernel_rfl))); (case hlz130 => ((with_reducible assumption))); (case hdz130 => decide +kernel); (try dsimp only)))
    ((try dsimp only); ((with_reducible refine W_bool ?_); (try dsimp only)))
    refine o_isb (t_bool ?_)
    cases tkn with
    | false =>
      rw [if_neg (by decide)]
      have : false = decide (false = true ∧ ws.drop k ≠ []) := by simp
      rw [this]; exact H5
    | true =>
      rw [if_pos (by decide)]
      ((try dsimp only); ((with_reducible refine WT_Compare (hm := ?hmz132) ?_); (case hmz132 => with_unfolding_all rfl)))
      refine W_field (by assumption) ?_ (by decide +kernel) (by ((with_reducible assumption))) tk'.inst tk'.dict (hK ▸ kg_next _) (tok_next _ _ _) rd4.lit ?_
      · (have hh := In.scope ‹In _ _ _›; exact kindE hh (by kernel_rfl))
      ((try dsimp only); ((with_reducible refine W_none ?_); (try dsimp only)))
      generalize hdr : ws.drop k = dr at rd4 H5
      cases rd4 with
      | nil h1 h2 h3 =>
        refine o_notnone trivial (t_bool ?_)
        have : (!isN .none) = decide (true = true ∧ ([] : List (List Nat)) ≠ []) := by simp [isN]
        rw [this]; exact H5
      | cons s S'' h1 h2 h3 h4 =>
        refine o_notnone trivial (t_bool ?_)
        have : (!isN (.str s)) = decide (true = true ∧ s :: S'' ≠ []) := by simp [isN]
        rw [this]; exact H5
  by_cases hb : tkn = true ∧ ws.drop k ≠ []
  · rw [if_pos (decide_eq_true hb)]
    obtain ⟨rfl, hdr⟩ := hb
    have hkl : k < ws.length := by
      rcases Nat.lt_or_ge k ws.length with h | h
      · exact h
      · exact absurd (List.drop_eq_nil_of_le h) hdr
    have hds : ws.drop k = ws[k] :: ws.drop (k + 1) := List.drop_eq_getElem_cons hkl
    have hsm := hws ws[k] (List.getElem_mem hkl)
    have htk : ws.take (k + 1) = ws.take k ++ [ws[k]] := by rw [List.take_add_one, List.getElem?_eq_getElem hkl]; rfl
    rw [hds] at rd4
    generalize hsk : ws[k] = s at *
    have hd4 : d4 = .str s := by cases rd4; rfl
    subst hd4
    obtain ⟨R, hR⟩ := List.isPrefixOf_iff_prefix.mp hpre
    have hdR : SS.drop k = R := by rw [← hR, List.drop_append_of_le_length (by rw [List.length_take]; omega)]; simp [List.length_take, Nat.min_eq_left hk]
    have hj3 := rd3.le
    have hj4 := rd4.le
    have hlen : (ws.drop k).length = (ws.drop (k + 1)).length + 1 := by rw [hds]; rfl
    ((try dsimp only); (with_reducible refine WXs_cons ?_))
    ((try dsimp only); (with_reducible refine WX_Assign (hs := ?hsz137) (by assumption) ?hkz137 ?_); (case hsz137 => intro _; rfl); (case hkz137 => (have hh := In.scope ‹In _ _ _›; exact kindE hh (by kernel_rfl))))
    refine W_Method (hbase := by intro _; rfl) (hfew := by intro _; rfl) (hline := by rfl) (hplain := by intro _; rfl) okw ?_
    refine W_cell okw (by (have hh := In.scope ‹In _ _ _›; exact kindE hh (by kernel_rfl))) c1 cell ?_ (by decide +kernel)
    refine getm_inst okw tk.inst tk.dict (hK ▸ km_match _) (by kernel_rfl) ⟨keeps_fn hK (by kernel_rfl), ?_⟩
    refine WA_cons ?_
    refine W_field (by assumption) ?_ (by decide +kernel) (by ((with_reducible assumption))) tk'.inst tk'.dict (hK ▸ kg_next _) (tok_next _ _ _) rd4.lit ?_
    · (have hh := In.scope ‹In _ _ _›; exact kindE hh (by kernel_rfl))
    refine WA_nil ?_
    refine c_match (n := n + 1) okw hK hP hc tk hl rd3 hsm (fun S' hS' j5 e5 rd5 => ?_) fun hno2 => ?_
    · have hsg4 := sg_cons rd4
      cases hs4 : sg ws.flatten j4 with
      | none => rw [hs4] at hsg4; cases hsg4.2
      | some je =>
        obtain ⟨j6, e6⟩ := je
        rw [hs4] at hsg4
        dsimp only at hsg4 ⊢
        have tkA := tk.upd j5 e5
        have tkB : Tk (upd hp' dx (.dict (tokFs l j5 e5))) a2 dx2 ws.flatten j4 (.str s) := tk'.up_ne n3 n2.symm
        have cellA : upd hp' dx (.dict (tokFs l j5 e5)) (L + 1) = some (.cell (some (.ref a))) := by rw [upd_ne hcd]; exact cell
        have subA : ∀ c o, hp0 c = some o → upd hp' dx (.dict (tokFs l j5 e5)) c = some o := fun c o eo => by
          rw [upd_ne (fun q => by rw [q, hdx] at eo; cases eo)]; exact sub c o eo
        generalize upd hp' dx (.dict (tokFs l j5 e5)) = hpA at tkA tkB cellA subA ⊢
        clear tk tk' cell sub
        ((try dsimp only); (with_reducible refine WXs_cons ?_))
        ((try dsimp only); (with_reducible refine WX_If ?_))
        refine WT_value (he := by intro _ _; rfl) ?_
        ((try dsimp only); ((with_reducible refine W_local (d := ?dz143) (by assumption) ?hkz143 ?hlz143 ?qz143 ?hdz143); (case hkz143 => (have hh := In.scope ‹In _ _ _›; exact kindE hh (by kernel_rfl))); (case hlz143 => ((with_reducible exact lk_put_self))); (case hdz143 => decide +kernel); (try dsimp only)))
        refine t_bool ?_
        rw [if_pos rfl]
        ((try dsimp only); (with_reducible refine WXs_cons ?_))
        refine WX_Expr (hs := by intro _; rfl) okw ?_
        refine W_Method (hbase := by intro _; rfl) (hfew := by intro _; rfl) (hline := by rfl) (hplain := by intro _; rfl) okw ?_
        ((try dsimp only); ((with_reducible refine W_local (d := ?dz145) (by assumption) ?hkz145 ?hlz145 ?qz145 ?hdz145); (case hkz145 => (have hh := In.scope ‹In _ _ _›; exact kindE hh (by kernel_rfl))); (case hlz145 => ((with_reducible refine lkp_skip ?hne2z145 ?hrest2z145); (case hne2z145 => decide +kernel); (with_reducible assumption))); (case hdz145 => decide +kernel); (try dsimp only)))
        refine getm_inst okw tkB.inst tkB.dict (hK ▸ km_get _) (by kernel_rfl) ⟨keeps_fn hK (by kernel_rfl), ?_⟩
        refine WA_nil ?_
        refine c_get (n := n + 1) okw hK hP hc tkB (fun _ e => by cases e) (by omega) (by omega) ?_
        rw [hs4]
        dsimp only
        have tkC := tkB.upd j6 e6
        have tkD : Tk (upd hpA dx2 (.dict (tokFs ws.flatten j6 e6))) a dx l j5 e5 := tkA.up_ne n1 n2
        have cellB : upd hpA dx2 (.dict (tokFs ws.flatten j6 e6)) (L + 1) = some (.cell (some (.ref a))) := by rw [upd_ne n4]; exact cellA
        have subB : ∀ c o, hp0 c = some o → upd hpA dx2 (.dict (tokFs ws.flatten j6 e6)) c = some o := fun c o eo => by
          rw [upd_ne (fun q => by rw [q, f1] at eo; cases eo)]; exact subA c o eo
        generalize upd hpA dx2 (.dict (tokFs ws.flatten j6 e6)) = hpB at tkC tkD cellB subB ⊢
        clear tkA tkB cellA subA
        ((try dsimp only); ((with_reducible refine WXs_nil ?_); (try dsimp only)))
        ((try dsimp only); ((with_reducible refine WXs_nil ?_); (try dsimp only)))
        refine ⟨(ws.drop (k + 1)).length + 1, by rw [hm, hlen]; simp, k + 1, true, j5, j6, e5, e6, rfl, subB, cellB, tkD, tkC, ?_, hsg4, hkl, ?_, (fun h => nomatch h), by ((with_reducible refine lkp_skip ?hne2z148 ?hrest2z148); (case hne2z148 => decide +kernel); (with_reducible assumption)), by ((with_reducible exact lk_put_self)), by ((with_reducible refine lkp_skip ?hne2z150 ?hrest2z150); (case hne2z150 => decide +kernel); (with_reducible assumption)), by ((with_reducible refine lkp_skip ?hne2z151 ?hrest2z151); (case hne2z151 => decide +kernel); (with_reducible assumption)), by ((with_reducible refine lkp_skip ?hne2z152 ?hrest2z152); (case hne2z152 => decide +kernel); (with_reducible assumption)), by ((with_reducible refine lkp_skip ?hne2z153 ?hrest2z153); (case hne2z153 => decide +kernel); (with_reducible assumption))⟩
        · rw [← List.drop_drop, hS']; exact rd5
        · rw [htk, List.isPrefixOf_iff_prefix, ← hR, ← hdR, hS']
          exact ⟨S', by simp⟩
    · ((try dsimp only); (with_reducible refine WXs_cons ?_))
      ((try dsimp only); (with_reducible refine WX_If ?_))
      refine WT_value (he := by intro _ _; rfl) ?_
      ((try dsimp only); ((with_reducible refine W_local (d := ?dz156) (by assumption) ?hkz156 ?hlz156 ?qz156 ?hdz156); (case hkz156 => (have hh := In.scope ‹In _ _ _›; exact kindE hh (by kernel_rfl))); (case hlz156 => ((with_reducible exact lk_put_self))); (case hdz156 => decide +kernel); (try dsimp only)))
      refine t_bool ?_
      rw [if_neg (by decide)]
      ((try dsimp only); ((with_reducible refine WXs_nil ?_); (try dsimp only)))
      ((try dsimp only); ((with_reducible refine WXs_nil ?_); (try dsimp only)))
      rw [← hds] at rd4
      refine ⟨(ws.drop k).length, by rw [hm]; simp, k, false, j3, j4, d3, .str s, by simp, sub, cell, tk, tk', rd3, rd4, hk, hpre, (fun _ => ⟨hkl, ?_⟩), by ((with_reducible refine lkp_skip ?hne2z159 ?hrest2z159); (case hne2z159 => decide +kernel); (with_reducible assumption)), by ((with_reducible exact lk_put_self)), by ((with_reducible refine lkp_skip ?hne2z161 ?hrest2z161); (case hne2z161 => decide +kernel); (with_reducible assumption)), by ((with_reducible refine lkp_skip ?hne2z162 ?hrest2z162); (case hne2z162 => decide +kernel); (with_reducible assumption)), by ((with_reducible refine lkp_skip ?hne2z163 ?hrest2z163); (case hne2z163 => decide +kernel); (with_reducible assumption)), by ((with_reducible refine lkp_skip ?hne2z164 ?hrest2z164); (case hne2z164 => decide +kernel); (with_reducible assumption))⟩
      cases hpf : ws.isPrefixOf SS with
      | false => rfl
      | true =>
        obtain ⟨R2, hR2⟩ := List.isPrefixOf_iff_prefix.mp hpf
        rw [← hR2, List.drop_append_of_le_length hk, hds] at hno2
        simp at hno2
  · rw [if_neg (by rw [decide_eq_false hb]; decide)]
    have hiso : isN d4 = tkn := by
      cases tkn with
      | true =>
        have h0 : ws.drop k = [] := by
          cases hq : ws.drop k with
          | nil => rfl
          | cons s r => exact absurd ⟨rfl, by rw [hq]; exact List.cons_ne_nil _ _⟩ hb
        rw [h0] at rd4
        cases rd4; rfl
      | false =>
        have h0 : ws.drop k = ws[k]'((hno rfl).1) :: ws.drop (k + 1) := List.drop_eq_getElem_cons (hno rfl).1
        rw [h0] at rd4
        cases rd4; rfl
    have hk4 : known d4 := by rcases rd4.sgn with rfl | ⟨s, _, _, rfl⟩ <;> trivial
    have hsum : (if ws.isPrefixOf SS then look TL (z + ws.flatten.length) else 0) = if tkn then look TL (z + (ws.take k).flatten.length) else 0 := by
      cases tkn with
      | true =>
        have h0 : ws.length ≤ k := by
          rcases Nat.lt_or_ge k ws.length with h | h
          · exact absurd ⟨rfl, by rw [List.drop_eq_getElem_cons h]; exact List.cons_ne_nil _ _⟩ hb
          · exact h
        rw [List.take_of_length_le h0] at hpre ⊢
        rw [if_pos hpre, if_pos rfl]
      | false => rw [(hno rfl).2, if_neg (by decide), if_neg (by decide)]
    rw [hsum] at hQ2
    have hsg3 := rd3.sgn
    have hsg4 := rd4.sgn
    have hl4 := rd4.lit
    have hl3 := rd3.lit
    generalize (ws.take k).flatten.length = q0 at tell1 tell2 hQ2
    clear hsum hno hpre hb hpos hpos2 rd3 rd4 hm
    ((try dsimp only); ((with_reducible refine WXs_nil ?_); (try dsimp only)))
    ((try dsimp only); (with_reducible refine WXs_cons ?_))
    refine WX_If ?_
    refine W_at (b := false) (fun Q5 H5 => ?_) ?_
    · show WT _ _ _ _ _
      refine WT_Or2 ?_
      ((try dsimp only); ((with_reducible refine WT_Compare (hm := ?hmz167) ?_); (case hmz167 => with_unfolding_all rfl)))
      refine W_Method (hbase := by intro _; rfl) (hfew := by intro _; rfl) (hline := by rfl) (hplain := by intro _; rfl) okw ?_
      refine W_cell okw (by (have hh := In.scope ‹In _ _ _›; exact kindE hh (by kernel_rfl))) c1 cell ?_ (by decide +kernel)
      refine getm_inst okw tk.inst tk.dict (hK ▸ km_tell _) (by kernel_rfl) ⟨keeps_fn hK (by kernel_rfl), ?_⟩
      refine WA_nil ?_
      refine c_tell (n := n + 3) okw hK tk hsg3 ?_
      rw [tell1]
      ((try dsimp only); (with_reducible refine W_BinOp ?_))
      ((try dsimp only); ((with_reducible refine W_local (d := ?dz170) (by assumption) ?hkz170 ?hlz170 ?qz170 ?hdz170); (case hkz170 => (have hh := In.scope ‹In _ _ _›; exact kindE hh (by kernel_rfl))); (case hlz170 => ((with_reducible assumption))); (case hdz170 => decide +kernel); (try dsimp only)))
      refine W_Method (hbase := by intro _; rfl) (hfew := by intro _; rfl) (hline := by rfl) (hplain := by intro _; rfl) okw ?_
      ((try dsimp only); ((with_reducible refine W_local (d := ?dz171) (by assumption) ?hkz171 ?hlz171 ?qz171 ?hdz171); (case hkz171 => (have hh := In.scope ‹In _ _ _›; exact kindE hh (by kernel_rfl))); (case hlz171 => ((with_reducible assumption))); (case hdz171 => decide +kernel); (try dsimp only)))
      refine getm_inst okw tk'.inst tk'.dict (hK ▸ km_tell _) (by kernel_rfl) ⟨keeps_fn hK (by kernel_rfl), ?_⟩
      refine WA_nil ?_
      refine c_tell (n := n + 3) okw hK tk' hsg4 ?_
      rw [tell2]
      refine o_addi ?_
      refine o_nei (t_bool ?_)
      rw [if_neg (by simp)]
      ((try dsimp only); ((with_reducible refine WT_Compare (hm := ?hmz172) ?_); (case hmz172 => with_unfolding_all rfl)))
      ((try dsimp only); ((with_reducible refine W_local (d := ?dz173) (by assumption) ?hkz173 ?hlz173 ?qz173 ?hdz173); (case hkz173 => (have hh := In.scope ‹In _ _ _›; exact kindE hh (by kernel_rfl))); (case hlz173 => ((with_reducible assumption))); (case hdz173 => decide +kernel); (try dsimp only)))
      ((try dsimp only); ((with_reducible refine W_Compare (hm := ?hmz174) ?_); (case hmz174 => with_unfolding_all rfl)))
      refine W_field (by assumption) ?_ (by decide +kernel) (by ((with_reducible assumption))) tk'.inst tk'.dict (hK ▸ kg_next _) (tok_next _ _ _) hl4 ?_
      · (have hh := In.scope ‹In _ _ _›; exact kindE hh (by kernel_rfl))
      ((try dsimp only); ((with_reducible refine W_none ?_); (try dsimp only)))
      refine o_isnone hk4 ?_
      rw [hiso]
      refine o_isnb (t_bool ?_)
      rw [show (tkn != tkn) = false from by cases tkn <;> rfl]
      exact H5
    rw [if_neg (by decide)]
    ((try dsimp only); ((with_reducible refine WXs_nil ?_); (try dsimp only)))
    ((try dsimp only); (with_reducible refine WXs_cons ?_))
    refine WX_If ?_
    ((try dsimp only); ((with_reducible refine WT_Compare (hm := ?hmz180) ?_); (case hmz180 => with_unfolding_all rfl)))
    refine W_field (by assumption) ?_ (by decide +kernel) (by ((with_reducible assumption))) tk'.inst tk'.dict (hK ▸ kg_next _) (tok_next _ _ _) hl4 ?_
    · (have hh := In.scope ‹In _ _ _›; exact kindE hh (by kernel_rfl))
    ((try dsimp only); ((with_reducible refine W_none ?_); (try dsimp only)))
    refine o_isnone hk4 (t_bool ?_)
    rw [hiso]
    cases tkn with
    | false =>
      rw [if_neg (by decide)]
      rw [if_neg (by decide), Int.add_zero] at hQ2
      ((try dsimp only); ((with_reducible refine WXs_nil ?_); (try dsimp only)))
      ((try dsimp only); ((with_reducible refine WXs_nil ?_); (try dsimp only)))
      exact hQ2 _ _ ⟨⟨sub, cell, j3, d3, tk, hl3⟩, by ((with_reducible assumption)), by ((with_reducible assumption)), by ((with_reducible assumption)), by ((with_reducible assumption))⟩
    | true =>
      rw [if_pos rfl]
      rw [if_pos rfl] at hQ2
      ((try dsimp only); (with_reducible refine WXs_cons ?_))
      ((try dsimp only); (with_reducible refine WX_Aug (d := ?dz191) (by assumption) ?hkz191 ?hlz191 ?_); (case hkz191 => (have hh := In.scope ‹In _ _ _›; exact kindE hh (by kernel_rfl))); (case hlz191 => ((with_reducible assumption))))
      refine W_Call (hplain := by intro _; rfl) (hlit := by intro _ _ _ _ x; cases x; rfl) okw ?_
      refine W_bi (v := .builtin "sum") okw hK (by (have hh := In.scope ‹In _ _ _›; exact kindE hh (by kernel_rfl))) (b_sum _) (by kernel_rfl) (by decide +kernel) (by decide +kernel) ?_
      refine ⟨_, rfl, keeps_builtin, ?_⟩
      refine WA_cons ?_
      refine W_CompT (hs := by intro _ _; rfl) (cl := [(("t" : Str), (L + 1 : Addr))]) okw hc (closL_ok hcl (by kernel_rfl)) (by decide) rfl (by decide +kernel) (by kernel_rfl) (by kernel_rfl) (by decide +kernel) ?_
      refine witT_lst ?_
      ((try dsimp only); ((with_reducible refine W_local (d := ?dz193) (by assumption) ?hkz193 ?hlz193 ?qz193 ?hdz193); (case hkz193 => (have hh := In.scope ‹In _ _ _›; exact kindE hh (by kernel_rfl))); (case hlz193 => ((with_reducible assumption))); (case hdz193 => decide +kernel); (try dsimp only)))
      refine ⟨TL.map fun p => (V.int (p.1 : Nat), V.int p.2), by rw [List.map_map]; rfl, by rw [List.length_map]; omega, by rw [List.length_map]; omega, fun i => (TL.getD i (0, 0)).1 == z + q0, fun i => .int (TL.getD i (0, 0)).2, fun Z D i hi hD inc okZ => ?_, ?_⟩
      · rw [List.length_map] at hi
        replace hD : hp' D = none := hD
        have v1 : ((TL.map fun p => (V.int (p.1 : Nat), V.int p.2)).map (·.1)).getD i .none = .int ((TL.getD i (0, 0)).1 : Nat) := by
          rw [List.map_map, List.getD_eq_getElem?_getD, List.getD_eq_getElem?_getD]; simp [hi]
        have v2 : ((TL.map fun p => (V.int (p.1 : Nat), V.int p.2)).map (·.2)).getD i .none = .int (TL.getD i (0, 0)).2 := by
          rw [List.map_map, List.getD_eq_getElem?_getD, List.getD_eq_getElem?_getD]; simp [hi]
        rw [v1, v2]
        dsimp only
        generalize TL.getD i (0, 0) = pr
        have d1 : Z.env.cells.lookup ("t" : Str) = some (L + 1) := by rw [inc.cells]; kernel_rfl
        have tkZ : ∀ L', Tk (upd hp' D L') a dx l j3 d3 := fun L' => tk.up_ne (fun q => by have := tk.inst; rw [q, hD] at this; cases this) (fun q => by have := tk.dict; rw [q, hD] at this; cases this)
        have cellZ : ∀ L', upd hp' D L' (L + 1) = some (.cell (some (.ref a))) := fun L' => by rw [upd_ne (fun q => by rw [q, hD] at cell; cases cell)]; exact cell
        refine CT_one ?_
        ((try dsimp only); ((with_reducible refine WT_Compare (hm := ?hmz194) ?_); (case hmz194 => with_unfolding_all rfl)))
        ((try dsimp only); ((with_reducible refine W_local (d := ?dz195) (by assumption) ?hkz195 ?hlz195 ?qz195 ?hdz195); (case hkz195 => (have hh := ‹InC _ _ _ _›; have hs := In.scope ‹In _ _ _›; exact InC.kind hh hs (by kernel_rfl))); (case hlz195 => ((with_reducible refine lk_skip ?hne2z195 ?hrest2z195); (case hne2z195 => decide +kernel); (with_reducible exact lk_hit))); (case hdz195 => decide +kernel); (try dsimp only)))
        refine W_Method (hbase := by intro _; rfl) (hfew := by intro _; rfl) (hline := by rfl) (hplain := by intro _; rfl) okZ ?_
        refine W_cell okZ (by (have hh := ‹InC _ _ _ _›; have hs := In.scope ‹In _ _ _›; exact InC.kind hh hs (by kernel_rfl))) d1 (cellZ _) ?_ (by decide +kernel)
        refine getm_inst okZ (tkZ _).inst (tkZ _).dict (((inc.K.trans hK).symm ▸ km_tell _)) (by kernel_rfl) ⟨keeps_fn (inc.K.trans hK) (by kernel_rfl), ?_⟩
        refine WA_nil ?_
        refine c_tell (n := n + 3) okZ (inc.K.trans hK) (tkZ _) hsg3 ?_
        rw [tell1]
        refine o_eqi (t_bool ⟨?_, rfl, fun _ => ?_⟩)
        · exact Bool.eq_iff_iff.mpr (by simp; omega)
        ((try dsimp only); ((with_reducible refine W_local (d := ?dz197) (by assumption) ?hkz197 ?hlz197 ?qz197 ?hdz197); (case hkz197 => (have hh := ‹InC _ _ _ _›; have hs := In.scope ‹In _ _ _›; exact InC.kind hh hs (by kernel_rfl))); (case hlz197 => ((with_reducible exact lk_hit))); (case hdz197 => decide +kernel); (try dsimp only)))
        exact ⟨rfl, rfl⟩
      rw [List.length_map, acc_gen TL (0, 0) (fun p => p.1 == z + q0) (fun p => V.int p.2), show (TL.filter fun p => p.1 == z + q0).map (fun p => V.int p.2) = ((TL.filter fun p => p.1 == z + q0).map (·.2)).map .int from by rw [List.map_map]; rfl]
      refine WA_nil ?_
      refine c_sum okw hc ?_
      refine o_iaddi ?_
      ((try dsimp only); ((with_reducible refine WXs_nil ?_); (try dsimp only)))
      ((try dsimp only); ((with_reducible refine WXs_nil ?_); (try dsimp only)))
      exact hQ2 _ _ ⟨⟨sub, cell, j3, d3, tk, hl3⟩, by ((with_reducible refine lkp_skip ?hne2z200 ?hrest2z200); (case hne2z200 => decide +kernel); (with_reducible assumption)), by show lk _ _ = some (.int (c + look TL (z + q0))); unfold look; ((with_reducible exact lk_put_self)), by ((with_reducible refine lkp_skip ?hne2z202 ?hrest2z202); (case hne2z202 => decide +kernel); (with_reducible assumption)), by ((with_reducible refine lkp_skip ?hne2z203 ?hrest2z203); (case hne2z203 => decide +kernel); (with_reducible assumption))⟩
end Mine
namespace Mine
open PySem PySem.W PySem.Calls PySem.Spec PyProof.Rows
noncomputable def stp (S : List (List Nat)) (k : Nat) : Nat := (S.take k).flatten.length
noncomputable def gcn (SS : List (List Nat)) (z : Nat) (TL : List (Nat × Int)) (ws : List (List Nat)) : Int := if ws.isPrefixOf SS then look TL (z + ws.flatten.length) else 0
theorem cnt4_eq (WS : List (List (List Nat))) (SS : List (List Nat)) (z : Nat) (TL : List (Nat × Int)) : cnt4 WS SS z TL = (WS.map (gcn SS z TL)).sum := rfl
theorem told4_len (WS : List (List (List Nat))) (z : Nat) (S : List (List Nat)) : (told4 WS z S).length = S.length + 1 := by
  induction S generalizing z with
  | nil => rfl
  | cons s S ih => simp [told4, ih]
theorem stp_succ (S : List (List Nat)) (k : Nat) (h : k < S.length) : stp S (k + 1) = stp S k + S[k].length := by
  unfold stp
  rw [List.take_add_one, List.getElem?_eq_getElem h, List.flatten_append, List.length_append]; simp
theorem stp_tot (S : List (List Nat)) (k : Nat) : S.flatten.length = stp S k + (S.drop k).flatten.length := by
  unfold stp
  rw [← List.length_append, ← List.flatten_append, List.take_append_drop]
theorem stp_drop (S : List (List Nat)) (k : Nat) : S.flatten.drop (stp S k) = (S.drop k).flatten := by
  unfold stp
  conv => lhs; arg 2; rw [← List.take_append_drop k S, List.flatten_append]
  rw [List.drop_left]
inductive PInv4 (hp0 : Addr → Option HO) (L : Addr) (l : List Nat) (WS : List (List (List Nat))) (SG : List (List Nat)) (a dx : Addr) (i : Nat) (σ' : S) : Prop
  | mk (kp : Kept hp0 L l a dx σ'.hp) (el : lk σ'.loc "told" = some (.lst ((told4 WS (stp SG (SG.length - i)) (SG.drop (SG.length - i))).map tvN))) (ewd : lk σ'.loc "words" = some (.lst ((WS.map (·.flatten)).map .str)))
structure Wds (WS : List (List (List Nat))) : Prop where
  few : WS.length ≤ 1000
  each : ∀ ws ∈ WS, ws ≠ [] ∧ (∀ s ∈ ws, Gd s) ∧ (∀ s ∈ ws, ∀ c ∈ s, c < 1000) ∧ ws.flatten.length ≤ 1000
set_option maxHeartbeats 8000000 in
theorem w_place {pp : Params} {X : Cx} {n : Nat} {L : Addr} (hK : X.K = KK pp) (hP : X.prog = PySem.Challenge.rw_ij0062_04.row.prog) (hc : X.ctx = none) (hI : In X X (fdAt (KK pp) 147)) (hcl : X.env.cells = [(("t" : Str), (L + 1 : Addr))]) (c1 : X.env.cells.lookup ("t" : Str) = some (L + 1))
    (hp0 : Addr → Option HO) (SG : List (List Nat)) (hl : SG.flatten.length ≤ 1000) (hSl : SG.length ≤ 900) (hS : ∀ s ∈ SG, Gd s) (WS : List (List (List Nat))) (hW : Wds WS) (a dx : Addr) (hdx : hp0 dx = none) (k : Nat) (hk : k < SG.length)
    (loc : List (Str × V)) (hp : Addr → Option HO) (kp : Kept hp0 L SG.flatten a dx hp) (ep : lk loc "place" = some (.int (stp SG k))) (el : lk loc "told" = some (.lst ((told4 WS (stp SG (k + 1)) (SG.drop (k + 1))).map tvN))) (ewd : lk loc "words" = some (.lst ((WS.map (·.flatten)).map .str)))
    (wr : List Addr) (okw : Ok (X.watch wr) (n + 4)) (Q2 : FV → S → Prop) (hQ2 : ∀ fl σ', (match fl with | .next => Kept hp0 L SG.flatten a dx σ'.hp ∧ lk σ'.loc "told" = some (.lst ((told4 WS (stp SG k) (SG.drop k)).map tvN)) ∧ lk σ'.loc "words" = some (.lst ((WS.map (·.flatten)).map .str)) | .cont => False | _ => False) → Q2 fl σ') :
    WXs (X.watch wr) (forAt (bodyAt (KK pp) 147)) ⟨loc, hp⟩ Q2 F0 := by
  conv in forAt _ => whnf
  have hds : SG.drop k = SG[k] :: SG.drop (k + 1) := List.drop_eq_getElem_cons hk
  have hsp := stp_succ SG k hk
  have htt := stp_tot SG k
  have hdr := stp_drop SG k
  have hTLl := told4_len WS (stp SG (k + 1)) (SG.drop (k + 1))
  rw [List.length_drop] at hTLl
  have htold : told4 WS (stp SG k) (SG.drop k) = (stp SG k, (WS.map (gcn (SG.drop k) (stp SG k) (told4 WS (stp SG (k + 1)) (SG.drop (k + 1))))).sum) :: told4 WS (stp SG (k + 1)) (SG.drop (k + 1)) := by
    conv => lhs; rw [hds]
    rw [told4, ← hsp, ← hds, cnt4_eq]
  have hSd : ∀ s ∈ SG.drop k, Gd s := fun s hs => hS s (List.mem_of_mem_drop hs)
  rw [htold] at hQ2
  generalize told4 WS (stp SG (k + 1)) (SG.drop (k + 1)) = TL at *
  generalize stp SG k = z at *
  generalize SG.drop k = SS at *
  clear htold hds hsp
  obtain ⟨hW1, hW2⟩ := hW
  ((try dsimp only); (with_reducible refine WXs_cons ?_))
  ((try dsimp only); (with_reducible refine WX_Assign (hs := ?hsz264) (by assumption) ?hkz264 ?_); (case hsz264 => intro _; rfl); (case hkz264 => (have hh := In.scope ‹In _ _ _›; exact kindE hh (by kernel_rfl))))
  ((try dsimp only); ((with_reducible refine W_int ?_); (try dsimp only)))
  ((try dsimp only); (with_reducible refine WXs_cons ?_))
  refine WX_For (hs := by intro _ _; rfl) okw hc hI.env (by (have hh := In.scope ‹In _ _ _›; exact kindE hh (by kernel_rfl))) (fun i σ' => VInv4 hp0 L SG.flatten a dx z (((WS.take i).map (gcn SS z TL)).sum) TL (.lst ((WS.map (·.flatten)).map .str)) σ') ?_
  refine wit_val ?_
  ((try dsimp only); ((with_reducible refine W_local (d := ?dz268) (by assumption) ?hkz268 ?hlz268 ?qz268 ?hdz268); (case hkz268 => (have hh := In.scope ‹In _ _ _›; exact kindE hh (by kernel_rfl))); (case hlz268 => ((with_reducible refine lkp_skip ?hne2z268 ?hrest2z268); (case hne2z268 => decide +kernel); (with_reducible assumption))); (case hdz268 => decide +kernel); (try dsimp only)))
  refine ⟨_, _, itb_lst, ⟨kp, by dsimp only; ((with_reducible refine lkp_skip ?hne2z269 ?hrest2z269); (case hne2z269 => decide +kernel); (with_reducible assumption)), by show lk _ _ = some (.int 0); dsimp only; ((with_reducible exact lk_put_self)), by dsimp only; ((with_reducible refine lkp_skip ?hne2z271 ?hrest2z271); (case hne2z271 => decide +kernel); (with_reducible assumption)), by dsimp only; ((with_reducible refine lkp_skip ?hne2z272 ?hrest2z272); (case hne2z272 => decide +kernel); (with_reducible assumption))⟩, fun i σ' wr2 hi inv okw2 => ?_, fun σ' inv => ?_⟩
  · rw [List.length_map, List.length_map] at hi
    obtain ⟨loc', hp'⟩ := σ'
    obtain ⟨kp', ep', ec', el', ewd'⟩ := inv
    dsimp only at kp' ep' ec' el' ewd'
    obtain ⟨e1, e2, e3, e4⟩ := hW2 WS[i] (List.getElem_mem hi)
    have hget : ((WS.map (·.flatten)).map V.str).getD i .none = .str WS[i].flatten := by
      rw [List.getD_eq_getElem?_getD]; simp [hi]
    rw [hget]
    have hsum : ((WS.take (i + 1)).map (gcn SS z TL)).sum = ((WS.take i).map (gcn SS z TL)).sum + gcn SS z TL WS[i] := by
      rw [List.take_add_one, List.getElem?_eq_getElem hi, List.map_append, List.sum_append]; simp
    rw [hsum]
    generalize WS[i] = ws at e1 e2 e3 e4 ⊢
    refine W.hideQ fun Q5 hQ5 => ?_
    refine w_word (n := n) hK hP hc hI hcl c1 hp0 SG.flatten hl SS ws hSd e2 e1 e4 e3 a dx hdx z (by omega) hdr _ TL (by omega) _ hp' kp' (by ((with_reducible refine lkp_skip ?hne2z273 ?hrest2z273); (case hne2z273 => decide +kernel); (with_reducible assumption))) (by ((with_reducible refine lkp_skip ?hne2z274 ?hrest2z274); (case hne2z274 => decide +kernel); (with_reducible assumption))) (by ((with_reducible refine lkp_skip ?hne2z275 ?hrest2z275); (case hne2z275 => decide +kernel); (with_reducible assumption))) (by ((with_reducible exact lk_put_self))) (.lst ((WS.map (·.flatten)).map .str)) (by ((with_reducible refine lkp_skip ?hne2z277 ?hrest2z277); (case hne2z277 => decide +kernel); (with_reducible assumption))) wr wr2 okw2 Q5 (fun fl σ' h => hQ5 fl σ' ?_)
    cases fl with
    | next => exact h
    | cont => exact h
    | brk => exact h.elim
    | ret d => exact h.elim
  · obtain ⟨loc', hp'⟩ := σ'
    obtain ⟨kp', ep', ec', el', ewd'⟩ := inv
    dsimp only at kp' ep' ec' el' ewd'
    rw [List.length_map, List.length_map, List.take_of_length_le (Nat.le_refl _)] at ec'
    ((try dsimp only); ((with_reducible refine WXs_nil ?_); (try dsimp only)))
    ((try dsimp only); (with_reducible refine WXs_cons ?_))
    ((try dsimp only); (with_reducible refine WX_Assign (hs := ?hsz280) (by assumption) ?hkz280 ?_); (case hsz280 => intro _; rfl); (case hkz280 => (have hh := In.scope ‹In _ _ _›; exact kindE hh (by kernel_rfl))))
    ((try dsimp only); (with_reducible refine W_BinOp ?_))
    refine W_List ?_
    refine WA_cons ?_
    refine W_Tuple ?_
    refine WA_cons ?_
    ((try dsimp only); ((with_reducible refine W_local (d := ?dz282) (by assumption) ?hkz282 ?hlz282 ?qz282 ?hdz282); (case hkz282 => (have hh := In.scope ‹In _ _ _›; exact kindE hh (by kernel_rfl))); (case hlz282 => ((with_reducible assumption))); (case hdz282 => decide +kernel); (try dsimp only)))
    refine WA_cons ?_
    ((try dsimp only); ((with_reducible refine W_local (d := ?dz283) (by assumption) ?hkz283 ?hlz283 ?qz283 ?hdz283); (case hkz283 => (have hh := In.scope ‹In _ _ _›; exact kindE hh (by kernel_rfl))); (case hlz283 => ((with_reducible assumption))); (case hdz283 => decide +kernel); (try dsimp only)))
    refine WA_nil ⟨by simp, ?_⟩
    refine WA_nil ⟨by simp, ?_⟩
    ((try dsimp only); ((with_reducible refine W_local (d := ?dz284) (by assumption) ?hkz284 ?hlz284 ?qz284 ?hdz284); (case hkz284 => (have hh := In.scope ‹In _ _ _›; exact kindE hh (by kernel_rfl))); (case hlz284 => ((with_reducible assumption))); (case hdz284 => decide +kernel); (try dsimp only)))
    refine o_addl (.val _) (.val _) (by simp; omega) ?_
    ((try dsimp only); ((with_reducible refine WXs_nil ?_); (try dsimp only)))
    refine hQ2 .next _ ⟨kp', ?_, ?_⟩
    · exact lk_put_self
    · dsimp only
      ((with_reducible refine lkp_skip ?hne2z286 ?hrest2z286); (case hne2z286 => decide +kernel); (with_reducible assumption))
inductive QInv4 (hp0 : Addr → Option HO) (L : Addr) (SG : List (List Nat)) (a dx b : Addr) (wv : V) (m : Nat) (σ' : S) : Prop
  | mk (k : Nat) (j : Nat) (d : V) (hm : m = SG.length - k) (hk : k ≤ SG.length) (sub : ∀ c o, hp0 c = some o → σ'.hp c = some o) (cell : σ'.hp (L + 1) = some (.cell (some (.ref a)))) (tk : Tk σ'.hp a dx SG.flatten j d) (rd : Rd SG.flatten j false d (SG.drop k)) (hb : σ'.hp b = some (.lst (((List.range k).map (stp SG)).map fun x => V.int (x : Nat))))
    (ep : lk σ'.loc "places" = some (.ref b)) (ewd : lk σ'.loc "words" = some wv)
set_option maxHeartbeats 8000000 in
theorem c_told {pp : Params} {X : Cx} {n : Nat} {σ : S} {E : Value → S → Prop} {SG : List (List Nat)} {WS : List (List (List Nat))} {Q : V → S → Prop} (ok : Ok X (n + 5)) (hK : X.K = KK pp) (hP : X.prog = PySem.Challenge.rw_ij0062_04.row.prog) (hc : X.ctx = none)
    (hl : SG.flatten.length ≤ 1000) (hSl : SG.length ≤ 900) (hS : ∀ s ∈ SG, Gd s) (hW : Wds WS) (q : Q (.lst ((told4 WS 0 SG).map tvN)) σ) : Call X (.ref 147) [.str SG.flatten, .lst ((WS.map (·.flatten)).map .str)] σ Q E := by
  refine Call.fz ?_
  refine Call.fnC' (names := ["text", "words"]) (loc0 := [("text", .str SG.flatten), ("words", .lst ((WS.map (·.flatten)).map .str))]) (cp := []) (n := n + 4) ok hK (f_told _) (bind2 fun v w _ => by kernel_rfl) (fun m => by kernel_rfl) (by decide +kernel) rfl rfl rfl fun Y L hp0 okY hI hcl hsub hcell => ?_
  have hKY : Y.K = KK pp := hI.K.trans hK
  have hcY : Y.ctx = none := hI.ctx.trans hc
  have hPY := hI.prog.trans hP
  have hIY : In Y Y (fdAt (KK pp) 147) := ⟨rfl, rfl, rfl, rfl, hI.env, hI.scope⟩
  replace hcl : Y.env.cells = [(("t" : Str), (L + 1 : Addr))] := hcl.trans (by kernel_rfl)
  have c1 : Y.env.cells.lookup ("t" : Str) = some (L + 1) := by rw [hcl]; kernel_rfl
  have g1 : hp0 (L + 1) = some (.cell none) := (hcell _ _ c1).1
  have f1 := (hcell _ _ c1).2
  clear hcell
  have hbd : SG.length ≤ SG.flatten.length := by
    clear hl hSl q
    induction SG with
    | nil => simp
    | cons s S ih =>
      have := ih fun x hx => hS x (by simp [hx])
      have := List.length_pos_iff.mpr (hS s (by simp)).len.1
      rw [List.flatten_cons, List.length_append, List.length_cons]; omega
  conv in bodyAt _ _ => whnf
  refine W.hide fun Q1 E1 hQ1 hE1 => ?_
  ((try dsimp only); (with_reducible refine WXs_cons ?_))
  refine WX_AssignC (hs := by intro _; rfl) okY (by (have hh := In.scope ‹In _ _ _›; exact kindE hh (by kernel_rfl))) c1 ?_
  refine W_Call (hplain := by intro _; rfl) (hlit := by intro _ _ _ _ x; cases x; rfl) okY ?_
  refine W_gl okY hKY (by (have hh := In.scope ‹In _ _ _›; exact kindE hh (by kernel_rfl))) (g_tok _) (by decide +kernel) ?_
  refine ⟨_, rfl, keeps_fn hKY (by kernel_rfl), ?_⟩
  refine WA_cons ?_
  ((try dsimp only); ((with_reducible refine W_local (d := ?dz290) (by assumption) ?hkz290 ?hlz290 ?qz290 ?hdz290); (case hkz290 => (have hh := In.scope ‹In _ _ _›; exact kindE hh (by kernel_rfl))); (case hlz290 => ((with_reducible exact lk_hit))); (case hdz290 => decide +kernel); (try dsimp only)))
  refine WA_nil ?_
  refine c_new (n := n + 1) okY hKY hPY hcY (by omega) fun a dx hp' u1 u2 u3 => ?_
  obtain ⟨j, e, hsg, rd⟩ := sg_good (l := SG.flatten) (k := 0) (S := SG) (Nat.zero_le _) rfl hS
  rw [hsg]
  intro tk
  have u1' : hp0 a = none := u1
  have u2' : hp0 dx = none := u2
  have hdx : σ.hp dx = none := by
    cases q : σ.hp dx with
    | none => rfl
    | some o => have := hsub _ _ q; rw [u2'] at this; cases this
  have gc := u3 _ _ g1
  refine ⟨_, gc, ?_⟩
  have na : a ≠ L + 1 := fun q => by rw [q, g1] at u1'; cases u1'
  have nd : dx ≠ L + 1 := fun q => by rw [q, g1] at u2'; cases u2'
  have tk1 : Tk (upd hp' (L + 1) (.cell (some (.ref a)))) a dx SG.flatten j e := tk.up_ne na nd
  have cell1 : upd hp' (L + 1) (.cell (some (.ref a))) (L + 1) = some (.cell (some (.ref a))) := upd_self
  have sub1 : ∀ c o, σ.hp c = some o → upd hp' (L + 1) (.cell (some (.ref a))) c = some o := fun c o eo => by
    rw [upd_ne (fun q => by rw [q, f1] at eo; cases eo)]; exact u3 _ _ (hsub _ _ eo)
  generalize upd hp' (L + 1) (.cell (some (.ref a))) = hp1 at tk1 cell1 sub1 ⊢
  clear tk u1 u2 u3 gc hsg hsub
  ((try dsimp only); (with_reducible refine WXs_cons ?_))
  ((try dsimp only); (with_reducible refine WX_Assign (hs := ?hsz292) (by assumption) ?hkz292 ?_); (case hsz292 => intro _; rfl); (case hkz292 => (have hh := In.scope ‹In _ _ _›; exact kindE hh (by kernel_rfl))))
  refine W_ListO okY ?_
  refine WA_nil ⟨by simp, fun b hb => ?_⟩
  replace hb : hp1 b = none := hb
  have nba : a ≠ b := fun q => by have := tk1.inst; rw [q, hb] at this; cases this
  have nbd : dx ≠ b := fun q => by have := tk1.dict; rw [q, hb] at this; cases this
  have nbc : L + 1 ≠ b := fun q => by rw [q, hb] at cell1; cases cell1
  have nbs : σ.hp b = none := by
    cases q : σ.hp b with
    | none => rfl
    | some o => have := sub1 _ _ q; rw [hb] at this; cases this
  have ncd : L + 1 ≠ dx := fun q => by have := tk1.dict; rw [← q, cell1] at this; cases this
  have tk2 : Tk (upd hp1 b (.lst [])) a dx SG.flatten j e := tk1.up_ne nba nbd
  have cell2 : upd hp1 b (.lst []) (L + 1) = some (.cell (some (.ref a))) := by rw [upd_ne nbc]; exact cell1
  have sub2 : ∀ c o, σ.hp c = some o → upd hp1 b (.lst []) c = some o := fun c o eo => by
    rw [upd_ne (fun q => by rw [q, nbs] at eo; cases eo)]; exact sub1 c o eo
  have hb2 : upd hp1 b (.lst []) b = some (.lst []) := upd_self
  generalize upd hp1 b (.lst []) = hp2 at tk2 cell2 sub2 hb2 ⊢
  clear tk1 cell1 sub1 hb
  ((try dsimp only); (with_reducible refine WXs_cons ?_))
  refine WX_While okY hI.env (QInv4 σ.hp L SG a dx b (.lst ((WS.map (·.flatten)).map .str))) (fun m σ' inv => ?_) SG.length ⟨0, j, e, by simp, Nat.zero_le _, sub2, cell2, tk2, rd, hb2, by ((with_reducible exact lk_put_self)), by ((with_reducible refine lkp_skip ?hne3z295 ?hrest3z295); (case hne3z295 => decide +kernel); (with_reducible refine lk_skip ?hne2z295 ?hrest2z295); (case hne2z295 => decide +kernel); (with_reducible exact lk_hit))⟩
  obtain ⟨loc, hp⟩ := σ'
  obtain ⟨k, j3, d3, hm, hk, sub, cell, tk, rd3, hpb, ep, ewd⟩ := inv
  dsimp only at sub cell tk hpb ep ewd
  have hpos := rd3.pos
  have htt := stp_tot SG k
  have tell1 : (j3 : Int) - (nlen d3 : Nat) = (stp SG k : Nat) := by omega
  have hj3 := rd3.le
  have hsg3 := rd3.sgn
  have hl3 := rd3.lit
  ((try dsimp only); ((with_reducible refine WT_Compare (hm := ?hmz296) ?_); (case hmz296 => with_unfolding_all rfl)))
  refine W_fieldC okY (by (have hh := In.scope ‹In _ _ _›; exact kindE hh (by kernel_rfl))) c1 (by decide +kernel) cell tk.inst tk.dict (hKY ▸ kg_next _) (tok_next _ _ _) hl3 ?_
  ((try dsimp only); ((with_reducible refine W_none ?_); (try dsimp only)))
  rcases Nat.lt_or_ge k SG.length with hlt | hge
  · have hds : SG.drop k = SG[k] :: SG.drop (k + 1) := List.drop_eq_getElem_cons hlt
    rw [hds] at rd3
    generalize SG[k] = s at rd3
    have hd3 : d3 = .str s := by cases rd3; rfl
    subst hd3
    refine o_notnone trivial (t_bool ?_)
    rw [if_pos (by rfl)]
    ((try dsimp only); (with_reducible refine WXs_cons ?_))
    refine WX_Expr (hs := by intro _; rfl) okY ?_
    refine W_Method (hbase := by intro _; rfl) (hfew := by intro _; rfl) (hline := by rfl) (hplain := by intro _; rfl) okY ?_
    ((try dsimp only); ((with_reducible refine W_local (d := ?dz300) (by assumption) ?hkz300 ?hlz300 ?qz300 ?hdz300); (case hkz300 => (have hh := In.scope ‹In _ _ _›; exact kindE hh (by kernel_rfl))); (case hlz300 => ((with_reducible assumption))); (case hdz300 => decide +kernel); (try dsimp only)))
    refine gm_append hpb ⟨keeps_builtin, ?_⟩
    refine WA_cons ?_
    refine W_Method (hbase := by intro _; rfl) (hfew := by intro _; rfl) (hline := by rfl) (hplain := by intro _; rfl) okY ?_
    refine W_cell okY (by (have hh := In.scope ‹In _ _ _›; exact kindE hh (by kernel_rfl))) c1 cell ?_ (by decide +kernel)
    refine getm_inst okY tk.inst tk.dict (hKY ▸ km_tell _) (by kernel_rfl) ⟨keeps_fn hKY (by kernel_rfl), ?_⟩
    refine WA_nil ?_
    refine c_tell (n := n + 3) okY hKY tk hsg3 ?_
    rw [tell1]
    refine WA_nil ?_
    refine c_append okY hpb (by simp; omega) ?_
    have hrow : ((List.range k).map (stp SG)).map (fun x => V.int (x : Nat)) ++ [V.int (stp SG k : Nat)] = ((List.range (k + 1)).map (stp SG)).map fun x => V.int (x : Nat) := by
      rw [List.range_succ, List.map_append, List.map_append]; rfl
    rw [hrow]
    generalize hrw : ((List.range (k + 1)).map (stp SG)).map (fun x => V.int (x : Nat)) = row
    have tkA : Tk (upd hp b (.lst row)) a dx SG.flatten j3 (.str s) := tk.up_ne nba nbd
    have cellA : upd hp b (.lst row) (L + 1) = some (.cell (some (.ref a))) := by rw [upd_ne nbc]; exact cell
    have subA : ∀ c o, σ.hp c = some o → upd hp b (.lst row) c = some o := fun c o eo => by
      rw [upd_ne (fun q => by rw [q, nbs] at eo; cases eo)]; exact sub c o eo
    have hbA : upd hp b (.lst row) b = some (.lst row) := upd_self
    generalize upd hp b (.lst row) = hpA at tkA cellA subA hbA ⊢
    have hsg4 := sg_cons rd3
    ((try dsimp only); (with_reducible refine WXs_cons ?_))
    refine WX_Expr (hs := by intro _; rfl) okY ?_
    refine W_Method (hbase := by intro _; rfl) (hfew := by intro _; rfl) (hline := by rfl) (hplain := by intro _; rfl) okY ?_
    refine W_cell okY (by (have hh := In.scope ‹In _ _ _›; exact kindE hh (by kernel_rfl))) c1 cellA ?_ (by decide +kernel)
    refine getm_inst okY tkA.inst tkA.dict (hKY ▸ km_get _) (by kernel_rfl) ⟨keeps_fn hKY (by kernel_rfl), ?_⟩
    refine WA_nil ?_
    refine c_get (n := n + 1) okY hKY hPY hcY tkA (fun _ e => by cases e) hl (by omega) ?_
    cases hs4 : sg SG.flatten j3 with
    | none => rw [hs4] at hsg4; cases hsg4.2
    | some je =>
      obtain ⟨j6, e6⟩ := je
      rw [hs4] at hsg4
      dsimp only at hsg4 ⊢
      have tkB := tkA.upd j6 e6
      have cellB : upd hpA dx (.dict (tokFs SG.flatten j6 e6)) (L + 1) = some (.cell (some (.ref a))) := by rw [upd_ne ncd]; exact cellA
      have subB : ∀ c o, σ.hp c = some o → upd hpA dx (.dict (tokFs SG.flatten j6 e6)) c = some o := fun c o eo => by
        rw [upd_ne (fun q => by rw [q, hdx] at eo; cases eo)]; exact subA c o eo
      have hbB : upd hpA dx (.dict (tokFs SG.flatten j6 e6)) b = some (.lst row) := by rw [upd_ne nbd.symm]; exact hbA
      generalize upd hpA dx (.dict (tokFs SG.flatten j6 e6)) = hpB at tkB cellB subB hbB ⊢
      ((try dsimp only); ((with_reducible refine WXs_nil ?_); (try dsimp only)))
      exact ⟨SG.length - (k + 1), by omega, k + 1, j6, e6, rfl, hlt, subB, cellB, tkB, hsg4, by rw [hrw]; exact hbB, by ((with_reducible assumption)), by ((with_reducible assumption))⟩
  · have hnil : SG.drop k = [] := List.drop_eq_nil_of_le hge
    have hkk : k = SG.length := by omega
    rw [hnil] at rd3
    have hd3 : d3 = .none := by cases rd3; rfl
    subst hd3
    refine o_notnone trivial (t_bool ?_)
    rw [if_neg (by decide)]
    subst hkk
    rw [show stp SG SG.length = SG.flatten.length from by unfold stp; rw [List.take_length]] at tell1
    ((try dsimp only); ((with_reducible refine WXs_nil ?_); (try dsimp only)))
    ((try dsimp only); (with_reducible refine WXs_cons ?_))
    ((try dsimp only); (with_reducible refine WX_Assign (hs := ?hsz309) (by assumption) ?hkz309 ?_); (case hsz309 => intro _; rfl); (case hkz309 => (have hh := In.scope ‹In _ _ _›; exact kindE hh (by kernel_rfl))))
    refine W_List ?_
    refine WA_cons ?_
    refine W_Tuple ?_
    refine WA_cons ?_
    refine W_Method (hbase := by intro _; rfl) (hfew := by intro _; rfl) (hline := by rfl) (hplain := by intro _; rfl) okY ?_
    refine W_cell okY (by (have hh := In.scope ‹In _ _ _›; exact kindE hh (by kernel_rfl))) c1 cell ?_ (by decide +kernel)
    refine getm_inst okY tk.inst tk.dict (hKY ▸ km_tell _) (by kernel_rfl) ⟨keeps_fn hKY (by kernel_rfl), ?_⟩
    refine WA_nil ?_
    refine c_tell (n := n + 3) okY hKY tk hsg3 ?_
    rw [tell1]
    refine WA_cons ?_
    ((try dsimp only); ((with_reducible refine W_int ?_); (try dsimp only)))
    refine WA_nil ⟨by simp, ?_⟩
    refine WA_nil ⟨by simp, ?_⟩
    ((try dsimp only); (with_reducible refine WXs_cons ?_))
    refine WX_For (hs := by intro _ _; rfl) okY hcY hI.env (by (have hh := In.scope ‹In _ _ _›; exact kindE hh (by kernel_rfl))) (PInv4 σ.hp L SG.flatten WS SG a dx) ?_
    refine wit_val ?_
    refine W_SliceLst3 ?_ (fun _ _ => rfl)
    ((try dsimp only); ((with_reducible refine W_local (d := ?dz314) (by assumption) ?hkz314 ?hlz314 ?qz314 ?hdz314); (case hkz314 => (have hh := In.scope ‹In _ _ _›; exact kindE hh (by kernel_rfl))); (case hlz314 => ((with_reducible refine lkp_skip ?hne2z314 ?hrest2z314); (case hne2z314 => decide +kernel); (with_reducible assumption))); (case hdz314 => decide +kernel); (try dsimp only)))
    refine WP_none ?_
    refine WP_none ?_
    refine W_Unary ?_
    ((try dsimp only); ((with_reducible refine W_int ?_); (try dsimp only)))
    refine o_negi ?_
    refine ⟨_, _, _, _, .own _ _ hpb, by simp; omega, .none, .none, .int _, by decide, ?_⟩
    rw [pick3_rev]
    refine ⟨_, _, itb_lst, ⟨⟨sub, cell, j3, .none, tk, hl3⟩, ?_, by ((with_reducible refine lkp_skip ?hne2z316 ?hrest2z316); (case hne2z316 => decide +kernel); (with_reducible assumption))⟩, fun i σ' wr hi inv okw => ?_, fun σ' inv => ?_⟩
    · show lk _ _ = _
      rw [Nat.sub_zero, hnil, show stp SG SG.length = SG.flatten.length from by unfold stp; rw [List.take_length]]
      exact lk_put_self
    · rw [List.length_reverse, List.length_map, List.length_map, List.length_range] at hi
      obtain ⟨loc2, hp2'⟩ := σ'
      obtain ⟨kp2, el2, ewd2⟩ := inv
      dsimp only at kp2 el2 ewd2
      have e1 : SG.length - i = SG.length - (i + 1) + 1 := by omega
      have hget : ((((List.range SG.length).map (stp SG)).map fun x => V.int (x : Nat)).reverse).getD i .none = .int (stp SG (SG.length - (i + 1)) : Nat) := by
        rw [List.getD_eq_getElem?_getD, List.getElem?_reverse (by simpa using hi)]
        simp only [List.length_map, List.length_range, List.getElem?_map]
        rw [List.getElem?_range (by omega)]
        show V.int _ = V.int _
        rw [show SG.length - 1 - i = SG.length - (i + 1) from by omega]
      rw [hget]
      rw [e1] at el2
      refine W.hideQ fun Q5 hQ5 => ?_
      refine W.mono (E := F0) (Q := Q5) (show WXs (Y.watch wr) (forAt (bodyAt (KK pp) 147)) ⟨put loc2 "place" (.int (stp SG (SG.length - (i + 1)) : Nat)), hp2'⟩ Q5 F0 from w_place (n := n) hKY hPY hcY hIY hcl c1 σ.hp SG hl hSl hS WS hW a dx hdx (SG.length - (i + 1)) (by omega) _ hp2' kp2 (by ((with_reducible exact lk_put_self))) (by ((with_reducible refine lkp_skip ?hne2z318 ?hrest2z318); (case hne2z318 => decide +kernel); (with_reducible assumption))) (by ((with_reducible refine lkp_skip ?hne2z319 ?hrest2z319); (case hne2z319 => decide +kernel); (with_reducible assumption))) wr okw Q5 (fun fl σ' h => hQ5 fl σ' ?_)) (fun _ _ h => h) (fun _ _ h => h.elim)
      cases fl with
      | next => exact ⟨h.1, h.2.1, h.2.2⟩
      | cont => exact h.elim
      | brk => exact h.elim
      | ret d => exact h.elim
    · obtain ⟨loc2, hp2'⟩ := σ'
      obtain ⟨kp2, el2, ewd2⟩ := inv
      dsimp only at kp2 el2 ewd2
      rw [List.length_reverse, List.length_map, List.length_map, List.length_range, Nat.sub_self] at el2
      ((try dsimp only); ((with_reducible refine WXs_nil ?_); (try dsimp only)))
      ((try dsimp only); (with_reducible refine WXs_cons ?_))
      ((try dsimp only); (with_reducible refine WX_Return ?_))
      ((try dsimp only); ((with_reducible refine W_local (d := ?dz323) (by assumption) ?hkz323 ?hlz323 ?qz323 ?hdz323); (case hkz323 => (have hh := In.scope ‹In _ _ _›; exact kindE hh (by kernel_rfl))); (case hlz323 => ((with_reducible assumption))); (case hdz323 => decide +kernel); (try dsimp only)))
      exact hQ1 _ _ ⟨σ.hp, _, kp2.sub, .refl _, q⟩
end Mine
namespace Mine
open PySem PySem.W PySem.Calls PySem.Spec PyProof.Rows
noncomputable def KN : List (List Nat) := [[97], [98], [92, 97], [92, 92]]
noncomputable def kn (i : Nat) : List Nat := KN.getD i []
theorem kn_at {i : Nat} (h : i < 4) : (KN.map V.str)[i]? = some (.str (kn i)) ∧ Gd (kn i) ∧ (∀ c ∈ kn i, c < 1000) ∧ (kn i).length ≤ 2 := by
  have : i = 0 ∨ i = 1 ∨ i = 2 ∨ i = 3 := by omega
  rcases this with rfl | rfl | rfl | rfl
  · exact ⟨rfl, .inl ⟨97, by decide, rfl⟩, by decide, by decide⟩
  · exact ⟨rfl, .inl ⟨98, by decide, rfl⟩, by decide, by decide⟩
  · exact ⟨rfl, .inr ⟨97, rfl⟩, by decide, by decide⟩
  · exact ⟨rfl, .inr ⟨92, rfl⟩, by decide, by decide⟩
theorem s_a : (Str.ofString "a").cps.toList = [97] := by decide +kernel
theorem s_b : (Str.ofString "b").cps.toList = [98] := by decide +kernel
theorem s_ea : (Str.ofString "\\a").cps.toList = [92, 97] := by decide +kernel
theorem s_ee : (Str.ofString "\\\\").cps.toList = [92, 92] := by decide +kernel
theorem fmod_nat (n : Int) (k : Nat) (hk : 0 < k) : n.fmod k = ((n.fmod k).toNat : Int) ∧ (n.fmod k).toNat < k := by
  rw [Int.fmod_eq_emod_of_nonneg n (by omega)]
  have h1 := Int.emod_nonneg n (b := (k : Int)) (by omega)
  have h2 := Int.emod_lt_of_pos n (b := (k : Int)) (by omega)
  omega
theorem lmod4 (n : Int) : n.fmod 4 = ((n.fmod 4).toNat : Int) := (fmod_nat n 4 (by decide)).1
theorem lmod4l (n : Int) : (n.fmod 4).toNat < 4 := (fmod_nat n 4 (by decide)).2
theorem lmod2 (n : Int) : n.fmod 2 = ((n.fmod 2).toNat : Int) := (fmod_nat n 2 (by decide)).1
theorem lmod2l (n : Int) : (n.fmod 2).toNat < 2 := (fmod_nat n 2 (by decide)).2
theorem ints_getD (L : List Int) (i : Nat) (hi : i < L.length) : (L.map V.int).getD i .none = .int (L.getD i 0) := by
  rw [List.getD_eq_getElem?_getD, List.getD_eq_getElem?_getD]; simp [hi]
theorem nats_getD (L : List Nat) (i : Nat) (hi : i < L.length) : (L.map fun k => V.int (k : Nat)).getD i .none = .int (L.getD i 0 : Nat) := by
  rw [List.getD_eq_getElem?_getD, List.getD_eq_getElem?_getD]; simp [hi]
theorem slc_to' {α : Type} (l : List α) (k : Nat) : slc l none (some (k : Int)) = l.take k := by
  unfold slc kms_lo kms_hi
  dsimp only
  rw [if_neg (by omega)]
  simp
noncomputable def sgn4 (x : Int) : List Nat := kn (x.fmod 4).toNat
noncomputable def two4 (x : Int) : List (List Nat) := [kn ((x.fdiv 4).fmod 4).toNat, kn ((x.fdiv 16).fmod 4).toNat]
noncomputable def wrd4 (r : Nat) (xs : List Int) : List (List (List Nat)) := ((KN.take (4 - r)).map fun s => [s]) ++ (xs.take 3).map two4
theorem wrd4_flat (r : Nat) (xs : List Int) : (wrd4 r xs).map (·.flatten) = KN.take (4 - r) ++ (xs.take 3).map fun x => kn ((x.fdiv 4).fmod 4).toNat ++ kn ((x.fdiv 16).fmod 4).toNat := by
  unfold wrd4
  rw [List.map_append, List.map_map, List.map_map]
  congr 1
  · conv => rhs; rw [← List.map_id (KN.take (4 - r))]
    refine List.map_congr_left fun s _ => ?_
    simp
  · refine List.map_congr_left fun x _ => ?_
    simp [two4]
theorem kn_mem {s : List Nat} (h : s ∈ KN) : Gd s ∧ (∀ c ∈ s, c < 1000) ∧ s.length ≤ 2 := by
  simp only [KN, List.mem_cons, List.not_mem_nil, or_false] at h
  rcases h with rfl | rfl | rfl | rfl
  · exact (kn_at (i := 0) (by decide)).2
  · exact (kn_at (i := 1) (by decide)).2
  · exact (kn_at (i := 2) (by decide)).2
  · exact (kn_at (i := 3) (by decide)).2
theorem wrd4_ok (r : Nat) (xs : List Int) : Wds (wrd4 r xs) := by
  refine ⟨?_, fun ws hws => ?_⟩
  · unfold wrd4
    simp [KN]; omega
  · rcases List.mem_append.mp hws with h | h
    · obtain ⟨s, hs, rfl⟩ := List.mem_map.mp h
      obtain ⟨k1, k2, k3⟩ := kn_mem (List.mem_of_mem_take hs)
      refine ⟨by simp, fun z hz => ?_, fun z hz => ?_, by simp; omega⟩
      · rw [List.mem_singleton.mp hz]; exact k1
      · rw [List.mem_singleton.mp hz]; exact k2
    · obtain ⟨x, hx, rfl⟩ := List.mem_map.mp h
      obtain ⟨_, a1, a2, a3⟩ := kn_at (lmod4l (x.fdiv 4))
      obtain ⟨_, b1, b2, b3⟩ := kn_at (lmod4l (x.fdiv 16))
      refine ⟨by simp [two4], fun z hz => ?_, fun z hz => ?_, by simp [two4]; omega⟩
      · simp only [two4, List.mem_cons, List.not_mem_nil, or_false] at hz
        rcases hz with rfl | rfl
        · exact a1
        · exact b1
      · simp only [two4, List.mem_cons, List.not_mem_nil, or_false] at hz
        rcases hz with rfl | rfl
        · exact a2
        · exact b2
theorem shp_pairs (L : List (Nat × Int)) : Shp (.lst (L.map tvN)) := by
  have p1 : V.plains (L.map tvN) = true := by
    induction L with
    | nil => rfl
    | cons k ks ih => simp [V.plains, V.plain, tvN, ih]
  have p2 : PyData.canLayAll0 (V.dats (L.map tvN)) = true ∧ PyData.depthAll (V.dats (L.map tvN)) ≤ 5 := by
    clear p1
    induction L with
    | nil => exact ⟨rfl, by decide⟩
    | cons k ks ih =>
      obtain ⟨i1, i2⟩ := ih
      simp [V.dats, V.dat, tvN, PyData.canLayAll0, PyData.canLay0, PyData.depthAll, PyData.depth, i1]
      omega
  refine ⟨by simp [V.plain, p1], ?_⟩
  obtain ⟨i1, i2⟩ := p2
  simp [V.dat, PyData.canLay0, PyData.depth, i1]
  omega
theorem signs_ok (xs : List Int) : (∀ s ∈ xs.map sgn4, Gd s) ∧ (xs.map sgn4).flatten.length ≤ 2 * xs.length := by
  induction xs with
  | nil => simp
  | cons x xs ih =>
    obtain ⟨h1, h2⟩ := ih
    obtain ⟨_, a1, a2, a3⟩ := kn_at (lmod4l x)
    refine ⟨fun s hs => ?_, ?_⟩
    · rcases List.mem_cons.mp hs with rfl | hs
      · exact a1
      · exact h1 s hs
    · simp only [List.map_cons, List.flatten_cons, List.length_append, List.length_cons]
      have : (sgn4 x).length ≤ 2 := a3
      omega
theorem law4_eq (WS : List (List (List Nat))) (hW : Wds WS) (SG : List (List Nat)) (hS : ∀ s ∈ SG, Gd s) : told4 WS 0 SG = (pls 0 SG).map fun p => (p, (ways (WS.map (·.flatten)) SG.flatten).getD p 0) := by
  rw [told_is WS (fun ws h => ⟨(hW.each ws h).1, (hW.each ws h).2.1⟩) 0 SG hS, exL_pls _ [] SG 0 rfl]; rfl
theorem pls_le (z : Nat) (S : List (List Nat)) : ∀ p ∈ pls z S, p ≤ z + S.flatten.length := by
  induction S generalizing z with
  | nil => intro p hp; rw [List.mem_singleton.mp hp]; simp
  | cons s S ih =>
    intro p hp
    rcases List.mem_cons.mp hp with rfl | hp
    · omega
    · have := ih _ p hp
      rw [List.flatten_cons, List.length_append]; omega
theorem pls_len (z : Nat) (S : List (List Nat)) : (pls z S).length = S.length + 1 := by
  induction S generalizing z with
  | nil => rfl
  | cons s S ih => simp [pls, ih]
theorem acc_pls (S : List (List Nat)) : accOf (fun _ => true) (fun k => V.int ((S.take k).flatten.length : Nat)) (S.length + 1) = (pls 0 S).map fun p => V.int (p : Nat) := by
  unfold accOf
  rw [List.filter_eq_self.mpr (by simp), ← pls_at, List.map_map]
  refine List.map_congr_left fun k _ => ?_
  simp
theorem swaps_no {env : Env} {sc : Scope} {elt : Expr} {gs : List Comprehension} {scope : Scope} {pos py : Pos} {y : Str} {line : Nat} (he : env.scope = sc) (hk : sc.kind = .function) (h : (sc.kind == .function && sc.names.lookup y == some .local && py.line == pos.line && !(scope.names.any fun (n, k) => n == y && (k == .local || k == .cell))) = false) :
    swapsWith (.ListComp elt gs scope pos) (some (.Name y py)) line env = pure false := by
  subst he
  have e : env.blockKind = env.scope.kind := by unfold Env.blockKind; rw [hk]; rfl
  rw [← e] at h
  exact congrArg pure h
theorem WX_AssignCe {X : Cx} {n : Nat} {σ : S} {E : Value → S → Prop} {x : Str} {px pos : Pos} {c : Addr} {e : Expr} {Q : FV → S → Prop} (ok : Ok X n) (hx : X.env.kindOf x = some .cell) (hc : X.env.cells.lookup x = some c)
    (hs : swapsWith e (some (.Name x px)) pos.line X.env = pure false) (h : WE X e σ (fun d σ₁ => ∃ v₀, σ₁.hp c = some (.cell v₀) ∧ Q .next { σ₁ with hp := upd σ₁.hp c (.cell (some d)) }) E) : WX X (.Assign [.Name x px] e pos) σ Q E := fun _ st =>
  wpAny_Assign_Name (h.run (Post.refl st) fun v s₁ d σ₁ _ P₁ vm ⟨v₀, e₀, q⟩ => wpAny_mono (sto_cell ok hx hc e₀ v s₁ P₁.st vm) (fun _ _ ⟨_, σ', P', _, q'⟩ => ⟨.next, σ', P₁.trans P', trivial, q' ▸ q⟩) fun _ _ z => z.elim) hs
end Mine
namespace Mine
open PySem PySem.W PySem.Calls PySem.Spec PyProof.Rows
set_option maxHeartbeats 8000000 in
theorem w_law {pp : Params} {X : Cx} {n : Nat} {ns : List Int} {L : Addr} (ok : Ok X (n + 8)) (hK : X.K = KK pp) (hP : X.prog = PySem.Challenge.rw_ij0062_04.row.prog) (hc : X.ctx = none) (hI : In X X (fdAt (KK pp) 152)) (hcl : X.env.cells = [(("plain" : Str), (L + 3 : Addr)), (("signs" : Str), (L + 2 : Addr)), (("kinds" : Str), (L + 1 : Addr))]) (hns : ns.length ≤ 63) :
    WXs X (bodyAt (KK pp) 152) ⟨[("script", .lst (ns.map .int))], cells0 L 3⟩ (fun fl _ => fl = .ret (.bool true)) F0 := by
  have c1 : X.env.cells.lookup ("kinds" : Str) = some (L + 1) := by rw [hcl]; kernel_rfl
  have c2 : X.env.cells.lookup ("signs" : Str) = some (L + 2) := by rw [hcl]; kernel_rfl
  have c3 : X.env.cells.lookup ("plain" : Str) = some (L + 3) := by rw [hcl]; kernel_rfl
  have h1 : cells0 L 3 (L + 1) = some (.cell none) := cells0_at (Nat.lt_succ_self _) (Nat.add_le_add_left (by decide) L)
  have h2 : cells0 L 3 (L + 2) = some (.cell none) := cells0_at (Nat.lt_add_of_pos_right (by decide)) (Nat.add_le_add_left (by decide) L)
  have h3 : cells0 L 3 (L + 3) = some (.cell none) := cells0_at (Nat.lt_add_of_pos_right (by decide)) (Nat.le_refl _)
  generalize cells0 L 3 = hp0 at h1 h2 h3 ⊢
  have n12 : (L + 1 : Addr) ≠ L + 2 := fun q => absurd (Nat.add_left_cancel (n := L) q) (by decide)
  have n13 : (L + 1 : Addr) ≠ L + 3 := fun q => absurd (Nat.add_left_cancel (n := L) q) (by decide)
  have n23 : (L + 2 : Addr) ≠ L + 3 := fun q => absurd (Nat.add_left_cancel (n := L) q) (by decide)
  conv in bodyAt _ _ => whnf
  refine W.hideQ fun Q1 hQ1 => ?_
  ((try dsimp only); (with_reducible refine WXs_cons ?_))
  ((try dsimp only); (with_reducible refine WX_Assign (hs := ?hsz325) (by assumption) ?hkz325 ?_); (case hsz325 => intro _; rfl); (case hkz325 => (have hh := In.scope ‹In _ _ _›; exact kindE hh (by kernel_rfl))))
  ((try dsimp only); (with_reducible refine W_BinOp ?_))
  refine W_SliceLst (ht := by intro _ _; rfl) ?_
  ((try dsimp only); ((with_reducible refine W_local (d := ?dz327) (by assumption) ?hkz327 ?hlz327 ?qz327 ?hdz327); (case hkz327 => (have hh := In.scope ‹In _ _ _›; exact kindE hh (by kernel_rfl))); (case hlz327 => ((with_reducible exact lk_hit))); (case hdz327 => decide +kernel); (try dsimp only)))
  refine WP_none ?_
  refine WP_some ?_
  ((try dsimp only); ((with_reducible refine W_int ?_); (try dsimp only)))
  refine ⟨_, _, _, .val _, by rw [List.length_map]; omega, .none, .int _, ?_⟩
  rw [show slc (ns.map V.int) none (some 7) = _ from slc_to' _ 7, ← List.map_take]
  refine W_List ?_
  refine WA_cons ?_
  refine W_Call (hplain := by intro _; rfl) (hlit := by intro _ _ _ _ x; cases x; rfl) ok ?_
  refine W_bi (v := .builtin "sum") ok hK (by (have hh := In.scope ‹In _ _ _›; exact kindE hh (by kernel_rfl))) (b_sum _) (by kernel_rfl) (by decide +kernel) (by decide +kernel) ?_
  refine ⟨_, rfl, keeps_builtin, ?_⟩
  refine WA_cons ?_
  ((try dsimp only); ((with_reducible refine W_local (d := ?dz330) (by assumption) ?hkz330 ?hlz330 ?qz330 ?hdz330); (case hkz330 => (have hh := In.scope ‹In _ _ _›; exact kindE hh (by kernel_rfl))); (case hlz330 => ((with_reducible exact lk_hit))); (case hdz330 => decide +kernel); (try dsimp only)))
  refine WA_nil ?_
  refine c_sum ok hc ?_
  refine WA_nil ⟨by simp, ?_⟩
  refine o_addl (.val _) (.val _) (by simp; omega) ?_
  rw [show (ns.take 7).map V.int ++ [V.int ns.sum] = (ns.take 7 ++ [ns.sum]).map V.int from by rw [List.map_append]; rfl]
  have hxl : (ns.take 7 ++ [ns.sum]).length ≤ 8 := by simp; omega
  generalize ns.take 7 ++ [ns.sum] = xs at hxl ⊢
  ((try dsimp only); (with_reducible refine WXs_cons ?_))
  refine WX_AssignC (hs := by intro _; rfl) ok (by (have hh := In.scope ‹In _ _ _›; exact kindE hh (by kernel_rfl))) c1 ?_
  refine W_List ?_
  refine WA_cons ?_
  refine W_str s_a ?_
  refine WA_cons ?_
  refine W_str s_b ?_
  refine WA_cons ?_
  refine W_str s_ea ?_
  refine WA_cons ?_
  refine W_str s_ee ?_
  refine WA_nil ⟨by simp, _, h1, ?_⟩
  have g1 : upd hp0 (L + 1) (.cell (some (.lst (KN.map .str)))) (L + 1) = some (.cell (some (.lst (KN.map .str)))) := upd_self
  have g2 : upd hp0 (L + 1) (.cell (some (.lst (KN.map .str)))) (L + 2) = some (.cell none) := by rw [upd_ne n12.symm]; exact h2
  have g3 : upd hp0 (L + 1) (.cell (some (.lst (KN.map .str)))) (L + 3) = some (.cell none) := by rw [upd_ne n13.symm]; exact h3
  rw [show [V.str [97], V.str [98], V.str [92, 97], V.str [92, 92]] = KN.map .str from rfl]
  generalize upd hp0 (L + 1) (.cell (some (.lst (KN.map .str)))) = hp1 at g1 g2 g3 ⊢
  clear h1 h2 h3
  ((try dsimp only); (with_reducible refine WXs_cons ?_))
  refine WX_AssignCe ok (by (have hh := In.scope ‹In _ _ _›; exact kindE hh (by kernel_rfl))) c2 (swaps_no hI.scope rfl (by kernel_rfl)) ?_
  refine W_Comp (hs := by intro _ _; rfl) (cl := [(("kinds" : Str), (L + 1 : Addr))]) ok hc (closL_ok hcl (by kernel_rfl)) (by decide) rfl (by decide +kernel) (by kernel_rfl) ?_
  refine wit_val ?_
  ((try dsimp only); ((with_reducible refine W_local (d := ?dz335) (by assumption) ?hkz335 ?hlz335 ?qz335 ?hdz335); (case hkz335 => (have hh := In.scope ‹In _ _ _›; exact kindE hh (by kernel_rfl))); (case hlz335 => ((with_reducible exact lk_put_self))); (case hdz335 => decide +kernel); (try dsimp only)))
  refine ⟨_, _, itb_lst, ?_⟩
  rw [List.length_map]
  refine ⟨by omega, fun _ => true, fun i => .str (sgn4 (xs.getD i 0)), fun Z D i hi hD inc okZ => ?_, ?_⟩
  · replace hD : hp1 D = none := hD
    have d1 : Z.env.cells.lookup ("kinds" : Str) = some (L + 1) := by rw [inc.cells]; kernel_rfl
    refine CT_nil ⟨rfl, rfl, fun _ => ?_⟩
    show WE Z _ _ _ _
    rw [ints_getD _ _ hi]
    ((try dsimp only); (with_reducible refine W_Sub ?_))
    refine W_cell okZ (by (have hh := ‹InC _ _ _ _›; have hs := In.scope ‹In _ _ _›; exact InC.kind hh hs (by kernel_rfl))) d1 (by show upd hp1 D _ (L + 1) = _; rw [upd_ne (fun q => by rw [← q, g1] at hD; cases hD)]; exact g1) ?_ (by decide +kernel)
    ((try dsimp only); (with_reducible refine W_BinOp ?_))
    refine W_local (d := _) okZ (inc.kind hI.scope (by kernel_rfl)) lk_hit ?_ (by decide +kernel)
    ((try dsimp only); ((with_reducible refine W_int ?_); (try dsimp only)))
    refine o_modi (by decide) ?_
    rw [lmod4]
    have hl4 := lmod4l (xs.getD i 0)
    refine s_lstItem (hs := by intro _ _ _; with_unfolding_all rfl) (d := .str (sgn4 (xs.getD i 0))) (.val _) (by omega) (kn_at hl4).1 ?_
    exact ⟨rfl, rfl⟩
  rw [acc_all xs 0 (fun z => V.str (sgn4 z)), show xs.map (fun z => V.str (sgn4 z)) = (xs.map sgn4).map .str from by rw [List.map_map]; rfl]
  obtain ⟨hG, hfl⟩ := signs_ok xs
  have hSl : (xs.map sgn4).length ≤ 8 := by rw [List.length_map]; exact hxl
  generalize xs.map sgn4 = SG at hG hfl hSl ⊢
  refine ⟨_, g2, ?_⟩
  have q1 : upd hp1 (L + 2) (.cell (some (.lst (SG.map .str)))) (L + 1) = some (.cell (some (.lst (KN.map .str)))) := by rw [upd_ne n12]; exact g1
  have q2 : upd hp1 (L + 2) (.cell (some (.lst (SG.map .str)))) (L + 2) = some (.cell (some (.lst (SG.map .str)))) := upd_self
  have q3 : upd hp1 (L + 2) (.cell (some (.lst (SG.map .str)))) (L + 3) = some (.cell none) := by rw [upd_ne n23.symm]; exact g3
  generalize upd hp1 (L + 2) (.cell (some (.lst (SG.map .str)))) = hp2 at q1 q2 q3 ⊢
  clear g1 g2 g3
  ((try dsimp only); (with_reducible refine WXs_cons ?_))
  ((try dsimp only); (with_reducible refine WX_Assign (hs := ?hsz341) (by assumption) ?hkz341 ?_); (case hsz341 => intro _; rfl); (case hkz341 => (have hh := In.scope ‹In _ _ _›; exact kindE hh (by kernel_rfl))))
  ((try dsimp only); (with_reducible refine W_BinOp ?_))
  refine W_SliceLst (ht := by intro _ _; rfl) ?_
  refine W_cell ok (by (have hh := In.scope ‹In _ _ _›; exact kindE hh (by kernel_rfl))) c1 q1 ?_ (by decide +kernel)
  refine WP_none ?_
  refine WP_some ?_
  ((try dsimp only); (with_reducible refine W_BinOp ?_))
  ((try dsimp only); ((with_reducible refine W_int ?_); (try dsimp only)))
  ((try dsimp only); (with_reducible refine W_BinOp ?_))
  refine W_Call (hplain := by intro _; rfl) (hlit := by intro _ _ _ _ x; cases x; rfl) ok ?_
  refine W_bi (v := .builtin "len") ok hK (by (have hh := In.scope ‹In _ _ _›; exact kindE hh (by kernel_rfl))) (b_len _) (by kernel_rfl) (by decide +kernel) (by decide +kernel) ?_
  refine ⟨_, rfl, keeps_builtin, ?_⟩
  refine WA_cons ?_
  ((try dsimp only); ((with_reducible refine W_local (d := ?dz348) (by assumption) ?hkz348 ?hlz348 ?qz348 ?hdz348); (case hkz348 => (have hh := In.scope ‹In _ _ _›; exact kindE hh (by kernel_rfl))); (case hlz348 => ((with_reducible refine lkp_skip ?hne2z348 ?hrest2z348); (case hne2z348 => decide +kernel); (with_reducible exact lk_hit))); (case hdz348 => decide +kernel); (try dsimp only)))
  refine WA_nil ?_
  refine c_lenL (.val _) (by rw [List.length_map]; omega) ?_
  ((try dsimp only); ((with_reducible refine W_int ?_); (try dsimp only)))
  refine o_modi (by decide) ?_
  refine o_subi ?_
  rw [List.length_map, lmod2]
  have hr2 := lmod2l (ns.length : Int)
  generalize ((ns.length : Int).fmod 2).toNat = r at hr2 ⊢
  rw [show (4 : Int) - (r : Int) = ((4 - r : Nat) : Int) from by omega]
  refine ⟨_, _, _, .val _, by decide, .none, .int _, ?_⟩
  rw [slc_to', ← List.map_take]
  refine W_Comp (hs := by intro _ _; rfl) (cl := [(("kinds" : Str), (L + 1 : Addr))]) ok hc (closL_ok hcl (by kernel_rfl)) (by decide) rfl (by decide +kernel) (by kernel_rfl) ?_
  refine wit_val ?_
  refine W_SliceLst (ht := by intro _ _; rfl) ?_
  ((try dsimp only); ((with_reducible refine W_local (d := ?dz350) (by assumption) ?hkz350 ?hlz350 ?qz350 ?hdz350); (case hkz350 => (have hh := In.scope ‹In _ _ _›; exact kindE hh (by kernel_rfl))); (case hlz350 => ((with_reducible exact lk_put_self))); (case hdz350 => decide +kernel); (try dsimp only)))
  refine WP_none ?_
  refine WP_some ?_
  ((try dsimp only); ((with_reducible refine W_int ?_); (try dsimp only)))
  refine ⟨_, _, _, .val _, by rw [List.length_map]; omega, .none, .int _, ?_⟩
  rw [show slc (xs.map V.int) none (some 3) = _ from slc_to' _ 3, ← List.map_take]
  refine ⟨_, _, itb_lst, ?_⟩
  rw [List.length_map]
  have hys : (xs.take 3).length ≤ 3 := by rw [List.length_take]; omega
  have hwf := wrd4_flat r xs
  have hwo := wrd4_ok r xs
  generalize wrd4 r xs = WS at hwf hwo
  generalize xs.take 3 = ys at hys hwf ⊢
  refine ⟨by omega, fun _ => true, fun i => .str (kn (((ys.getD i 0).fdiv 4).fmod 4).toNat ++ kn (((ys.getD i 0).fdiv 16).fmod 4).toNat), fun Z D i hi hD inc okZ => ?_, ?_⟩
  · replace hD : hp2 D = none := hD
    have d1 : Z.env.cells.lookup ("kinds" : Str) = some (L + 1) := by rw [inc.cells]; kernel_rfl
    have dd : ∀ L', upd hp2 D L' (L + 1) = some (.cell (some (.lst (KN.map .str)))) := fun L' => by rw [upd_ne (fun q => by rw [← q, q1] at hD; cases hD)]; exact q1
    refine CT_nil ⟨rfl, rfl, fun _ => ?_⟩
    show WE Z _ _ _ _
    rw [ints_getD _ _ hi]
    have hl4 := kn_at (lmod4l ((ys.getD i 0).fdiv 4))
    have hl16 := kn_at (lmod4l ((ys.getD i 0).fdiv 16))
    have hm4 := lmod4l ((ys.getD i 0).fdiv 4)
    have hm16 := lmod4l ((ys.getD i 0).fdiv 16)
    ((try dsimp only); (with_reducible refine W_BinOp ?_))
    ((try dsimp only); (with_reducible refine W_Sub ?_))
    refine W_cell okZ (by (have hh := ‹InC _ _ _ _›; have hs := In.scope ‹In _ _ _›; exact InC.kind hh hs (by kernel_rfl))) d1 (dd _) ?_ (by decide +kernel)
    ((try dsimp only); (with_reducible refine W_BinOp ?_))
    ((try dsimp only); (with_reducible refine W_BinOp ?_))
    refine W_local (d := _) okZ (inc.kind hI.scope (by kernel_rfl)) lk_hit ?_ (by decide +kernel)
    ((try dsimp only); ((with_reducible refine W_int ?_); (try dsimp only)))
    refine o_divi (by decide) (by decide) ?_
    ((try dsimp only); ((with_reducible refine W_int ?_); (try dsimp only)))
    refine o_modi (by decide) ?_
    rw [lmod4]
    refine s_lstItem (hs := by intro _ _ _; with_unfolding_all rfl) (d := .str (kn (((ys.getD i 0).fdiv 4).fmod 4).toNat)) (.val _) (by omega) hl4.1 ?_
    ((try dsimp only); (with_reducible refine W_Sub ?_))
    refine W_cell okZ (by (have hh := ‹InC _ _ _ _›; have hs := In.scope ‹In _ _ _›; exact InC.kind hh hs (by kernel_rfl))) d1 (dd _) ?_ (by decide +kernel)
    ((try dsimp only); (with_reducible refine W_BinOp ?_))
    ((try dsimp only); (with_reducible refine W_BinOp ?_))
    refine W_local (d := _) okZ (inc.kind hI.scope (by kernel_rfl)) lk_hit ?_ (by decide +kernel)
    ((try dsimp only); ((with_reducible refine W_int ?_); (try dsimp only)))
    refine o_divi (by decide) (by decide) ?_
    ((try dsimp only); ((with_reducible refine W_int ?_); (try dsimp only)))
    refine o_modi (by decide) ?_
    rw [lmod4]
    refine s_lstItem (hs := by intro _ _ _; with_unfolding_all rfl) (d := .str (kn (((ys.getD i 0).fdiv 16).fmod 4).toNat)) (.val _) (by omega) hl16.1 ?_
    refine o_adds (by omega) ?_
    exact ⟨rfl, rfl⟩
  rw [acc_all ys 0 (fun z => V.str (kn ((z.fdiv 4).fmod 4).toNat ++ kn ((z.fdiv 16).fmod 4).toNat))]
  refine o_addl (.val _) (.val _) (by simp [KN]; omega) ?_
  rw [show (KN.take (4 - r)).map V.str ++ ys.map (fun z => V.str (kn ((z.fdiv 4).fmod 4).toNat ++ kn ((z.fdiv 16).fmod 4).toNat)) = (WS.map (·.flatten)).map V.str from by rw [hwf, List.map_append, List.map_map]; rfl]
  clear hwf hys hr2
  ((try dsimp only); (with_reducible refine WXs_cons ?_))
  ((try dsimp only); (with_reducible refine WX_Assign (hs := ?hsz366) (by assumption) ?hkz366 ?_); (case hsz366 => intro _; rfl); (case hkz366 => (have hh := In.scope ‹In _ _ _›; exact kindE hh (by kernel_rfl))))
  refine W_Method (hbase := by intro _; rfl) (hfew := by intro _; rfl) (hline := by rfl) (hplain := by intro _; rfl) ok ?_
  refine W_str s_e ?_
  refine gm_str F.slot_str_join F.type_str_join ⟨keeps_builtin, ?_⟩
  refine WA_cons ?_
  refine W_cell ok (by (have hh := In.scope ‹In _ _ _›; exact kindE hh (by kernel_rfl))) c2 q2 ?_ (by decide +kernel)
  refine WA_nil ?_
  refine c_join (ls := SG) (fun l hl => by have := (hG l hl).len.2; omega) (by simp) (by omega) (.val _) ?_
  rw [joinL_eq, jn_nil]
  ((try dsimp only); (with_reducible refine WXs_cons ?_))
  refine WX_AssignC (hs := by intro _; rfl) ok (by (have hh := In.scope ‹In _ _ _›; exact kindE hh (by kernel_rfl))) c3 ?_
  refine W_Call (hplain := by intro _; rfl) (hlit := by intro _ _ _ _ x; cases x; rfl) ok ?_
  refine W_gl ok hK (by (have hh := In.scope ‹In _ _ _›; exact kindE hh (by kernel_rfl))) (g_plain _) (by decide +kernel) ?_
  refine ⟨_, rfl, keeps_fn hK (by kernel_rfl), ?_⟩
  refine WA_cons ?_
  ((try dsimp only); ((with_reducible refine W_local (d := ?dz371) (by assumption) ?hkz371 ?hlz371 ?qz371 ?hdz371); (case hkz371 => (have hh := In.scope ‹In _ _ _›; exact kindE hh (by kernel_rfl))); (case hlz371 => ((with_reducible exact lk_put_self))); (case hdz371 => decide +kernel); (try dsimp only)))
  refine WA_cons ?_
  ((try dsimp only); ((with_reducible refine W_local (d := ?dz372) (by assumption) ?hkz372 ?hlz372 ?qz372 ?hdz372); (case hkz372 => (have hh := In.scope ‹In _ _ _›; exact kindE hh (by kernel_rfl))); (case hlz372 => ((with_reducible refine lkp_skip ?hne2z372 ?hrest2z372); (case hne2z372 => decide +kernel); (with_reducible exact lk_put_self))); (case hdz372 => decide +kernel); (try dsimp only)))
  refine WA_nil ?_
  refine c_plain (n := n + 6) ok hK hP hc (by omega) (by rw [List.length_map]; exact hwo.few) (fun w hw => ?_) ?_
  · obtain ⟨ws, hws, rfl⟩ := List.mem_map.mp hw
    obtain ⟨e1, e2, e3, e4⟩ := hwo.each ws hws
    refine ⟨?_, e4⟩
    cases ws with
    | nil => exact absurd rfl e1
    | cons s r =>
      have := List.length_pos_iff.mpr (e2 s (by simp)).len.1
      rw [List.flatten_cons, List.length_append]; omega
  refine ⟨_, q3, ?_⟩
  have hwl := ways_len (WS.map (·.flatten)) SG.flatten
  have hlaw := law4_eq WS hwo SG hG
  generalize ways (WS.map (·.flatten)) SG.flatten = PL at hwl hlaw ⊢
  have r2 : upd hp2 (L + 3) (.cell (some (.lst (PL.map .int)))) (L + 2) = some (.cell (some (.lst (SG.map .str)))) := by rw [upd_ne n23]; exact q2
  have r3 : upd hp2 (L + 3) (.cell (some (.lst (PL.map .int)))) (L + 3) = some (.cell (some (.lst (PL.map .int)))) := upd_self
  generalize upd hp2 (L + 3) (.cell (some (.lst (PL.map .int)))) = hp3 at r2 r3 ⊢
  clear q1 q2 q3
  ((try dsimp only); (with_reducible refine WXs_cons ?_))
  refine WX_AssignComp (cl := [(("signs" : Str), (L + 2 : Addr))]) ok hc (closL_ok hcl (by kernel_rfl)) (by decide) rfl (by decide +kernel) (by kernel_rfl) (swaps_comp hI.scope rfl (by kernel_rfl)) (by (have hh := In.scope ‹In _ _ _›; exact kindE hh (by kernel_rfl))) ?_ (fun _ _ => rfl)
  refine wit_range1 ok (KB.of hK (by (have hh := In.scope ‹In _ _ _›; exact kindE hh (by kernel_rfl))) (b_range _) (by kernel_rfl)) (fun _ => rfl) ?_
  refine WA_cons ?_
  ((try dsimp only); (with_reducible refine W_BinOp ?_))
  refine W_Call (hplain := by intro _; rfl) (hlit := by intro _ _ _ _ x; cases x; rfl) ok ?_
  refine W_bi (v := .builtin "len") ok hK (by (have hh := In.scope ‹In _ _ _›; exact kindE hh (by kernel_rfl))) (b_len _) (by kernel_rfl) (by decide +kernel) (by decide +kernel) ?_
  refine ⟨_, rfl, keeps_builtin, ?_⟩
  refine WA_cons ?_
  refine W_cell ok (by (have hh := In.scope ‹In _ _ _›; exact kindE hh (by kernel_rfl))) c2 r2 ?_ (by decide +kernel)
  refine WA_nil ?_
  refine c_lenL (.val _) (by rw [List.length_map]; omega) ?_
  ((try dsimp only); ((with_reducible refine W_int ?_); (try dsimp only)))
  refine o_addi ?_
  rw [List.length_map]
  refine WA_nil ⟨SG.length + 1, rfl, by omega, by omega, fun _ => true, fun k => .int ((SG.take k).flatten.length : Nat), fun Z D k hk hD inc okZ => ?_, ?_⟩
  · replace hD : hp3 D = none := hD
    have d2 : Z.env.cells.lookup ("signs" : Str) = some (L + 2) := by rw [inc.cells]; kernel_rfl
    have htk : (SG.take k).flatten.length ≤ 1000 := by
      have e : SG.flatten.length = (SG.take k).flatten.length + (SG.drop k).flatten.length := by
        rw [← List.length_append, ← List.flatten_append, List.take_append_drop]
      omega
    refine CT_nil ⟨rfl, rfl, fun _ => ?_⟩
    show WE Z _ _ _ _
    refine W_Call (hplain := by intro _; rfl) (hlit := by intro _ _ _ _ x; cases x; rfl) okZ ?_
    refine W_bi (v := .builtin "len") okZ (inc.K.trans hK) (inc.kind hI.scope (by kernel_rfl)) (b_len _) (by kernel_rfl) (by decide +kernel) (by decide +kernel) ?_
    refine ⟨_, rfl, keeps_builtin, ?_⟩
    refine WA_cons ?_
    refine W_Method (hbase := by intro _; rfl) (hfew := by intro _; rfl) (hline := by rfl) (hplain := by intro _; rfl) okZ ?_
    refine W_str s_e ?_
    refine gm_str F.slot_str_join F.type_str_join ⟨keeps_builtin, ?_⟩
    refine WA_cons ?_
    refine W_SliceLst (ht := by intro _ _; rfl) ?_
    refine W_cell okZ (by (have hh := ‹InC _ _ _ _›; have hs := In.scope ‹In _ _ _›; exact InC.kind hh hs (by kernel_rfl))) d2 (by show upd hp3 D _ (L + 2) = _; rw [upd_ne (fun q => by rw [← q, r2] at hD; cases hD)]; exact r2) ?_ (by decide +kernel)
    refine WP_none ?_
    refine WP_some ?_
    ((try dsimp only); ((with_reducible refine W_local (d := ?dz381) (by assumption) ?hkz381 ?hlz381 ?qz381 ?hdz381); (case hkz381 => (have hh := ‹InC _ _ _ _›; have hs := In.scope ‹In _ _ _›; exact InC.kind hh hs (by kernel_rfl))); (case hlz381 => ((with_reducible exact lk_hit))); (case hdz381 => decide +kernel); (try dsimp only)))
    refine ⟨_, _, _, .val _, by rw [List.length_map]; omega, .none, .int _, ?_⟩
    rw [slc_to', ← List.map_take]
    refine WA_nil ?_
    refine c_join (ls := SG.take k) (fun l hl => by have := (hG l (List.mem_of_mem_take hl)).len.2; omega) (by simp) (by rw [List.length_take]; omega) (.val _) ?_
    rw [joinL_eq, jn_nil]
    refine WA_nil ?_
    refine c_lens (by omega) ?_
    exact ⟨rfl, rfl⟩
  rw [acc_pls]
  have hpl := pls_len 0 SG
  have hpe := pls_le 0 SG
  have hshp := shp_pairs (told4 WS 0 SG)
  ((try dsimp only); (with_reducible refine WXs_cons ?_))
  ((try dsimp only); (with_reducible refine WX_Return ?_))
  ((try dsimp only); ((with_reducible refine W_Compare (hm := ?hmz384) ?_); (case hmz384 => with_unfolding_all rfl)))
  refine W_Call (hplain := by intro _; rfl) (hlit := by intro _ _ _ _ x; cases x; rfl) ok ?_
  refine W_gl ok hK (by (have hh := In.scope ‹In _ _ _›; exact kindE hh (by kernel_rfl))) (g_told _) (by decide +kernel) ?_
  refine ⟨_, rfl, keeps_fn hK (by kernel_rfl), ?_⟩
  refine WA_cons ?_
  ((try dsimp only); ((with_reducible refine W_local (d := ?dz386) (by assumption) ?hkz386 ?hlz386 ?qz386 ?hdz386); (case hkz386 => (have hh := In.scope ‹In _ _ _›; exact kindE hh (by kernel_rfl))); (case hlz386 => ((with_reducible refine lkp_skip ?hne2z386 ?hrest2z386); (case hne2z386 => decide +kernel); (with_reducible exact lk_put_self))); (case hdz386 => decide +kernel); (try dsimp only)))
  refine WA_cons ?_
  ((try dsimp only); ((with_reducible refine W_local (d := ?dz387) (by assumption) ?hkz387 ?hlz387 ?qz387 ?hdz387); (case hkz387 => (have hh := In.scope ‹In _ _ _›; exact kindE hh (by kernel_rfl))); (case hlz387 => ((with_reducible refine lkp_skip ?hne3z387 ?hrest3z387); (case hne3z387 => decide +kernel); (with_reducible refine lkp_skip ?hne2z387 ?hrest2z387); (case hne2z387 => decide +kernel); (with_reducible exact lk_put_self))); (case hdz387 => decide +kernel); (try dsimp only)))
  refine WA_nil ?_
  refine c_told (n := n + 3) ok hK hP hc (by omega) (by omega) hG hwo ?_
  refine W_Comp (hs := by intro _ _; rfl) (cl := [(("plain" : Str), (L + 3 : Addr))]) ok hc (closL_ok hcl (by kernel_rfl)) (by decide) rfl (by decide +kernel) (by kernel_rfl) ?_
  refine wit_val ?_
  ((try dsimp only); ((with_reducible refine W_local (d := ?dz388) (by assumption) ?hkz388 ?hlz388 ?qz388 ?hdz388); (case hkz388 => (have hh := In.scope ‹In _ _ _›; exact kindE hh (by kernel_rfl))); (case hlz388 => ((with_reducible exact lk_put_self))); (case hdz388 => decide +kernel); (try dsimp only)))
  refine ⟨_, _, itb_lst, ?_⟩
  rw [List.length_map]
  refine ⟨by omega, fun _ => true, fun i => tvN ((pls 0 SG).getD i 0, PL.getD ((pls 0 SG).getD i 0) 0), fun Z D i hi hD inc okZ => ?_, ?_⟩
  · replace hD : hp3 D = none := hD
    have d3 : Z.env.cells.lookup ("plain" : Str) = some (L + 3) := by rw [inc.cells]; kernel_rfl
    refine CT_nil ⟨rfl, rfl, fun _ => ?_⟩
    show WE Z _ _ _ _
    rw [nats_getD _ _ hi]
    have hpi := hpe _ (getD_mem' (pls 0 SG) 0 i hi)
    dsimp only
    generalize (pls 0 SG).getD i 0 = p at hpi ⊢
    refine W_Tuple ?_
    refine WA_cons ?_
    refine W_local (d := _) okZ (inc.kind hI.scope (by kernel_rfl)) lk_hit ?_ (by decide +kernel)
    refine WA_cons ?_
    ((try dsimp only); (with_reducible refine W_Sub ?_))
    refine W_cell okZ (by (have hh := ‹InC _ _ _ _›; have hs := In.scope ‹In _ _ _›; exact InC.kind hh hs (by kernel_rfl))) d3 (by show upd hp3 D _ (L + 3) = _; rw [upd_ne (fun q => by rw [← q, r3] at hD; cases hD)]; exact r3) ?_ (by decide +kernel)
    refine W_local (d := _) okZ (inc.kind hI.scope (by kernel_rfl)) lk_hit ?_ (by decide +kernel)
    refine s_lstItem (hs := by intro _ _ _; with_unfolding_all rfl) (d := .int (PL.getD p 0)) (.val _) (by omega) ?_ ?_
    · rw [List.getElem?_map, List.getD_eq_getElem?_getD, List.getElem?_eq_getElem (by omega)]; rfl
    refine WA_nil ⟨by simp, ?_⟩
    exact ⟨rfl, rfl⟩
  rw [acc_all (pls 0 SG) 0 (fun p => tvN (p, PL.getD p 0))]
  rw [show (pls 0 SG).map (fun p => tvN (p, PL.getD p 0)) = (told4 WS 0 SG).map tvN from by rw [hlaw, List.map_map]; rfl]
  refine o_eqd ok hshp hshp ?_
  rw [eqv_self hshp]
  exact hQ1 _ _ rfl
end Mine
namespace Mine
open PySem PySem.W PyProof.Rows
set_option pp.deepTerms false
set_option maxHeartbeats 8000000 in
theorem tt : PySem.Challenge.rw_ij0062_04.Holds := hd (by
  k_go0
  rename_i hL ra w1 r0 hI hr hcond hc2 K0 hD h₁ tk₁ F o3 o2 o1 d3 d2 d1 N0 X0
  refine wpAny_mono (launchC (k := 3) (K := hd.heap_39 ‹World›.params) (p := hd.view_39) (fd := fdAt (KK ‹World›.params) 152) (body := bodyAt (KK ‹World›.params) 152) (by assumption) (topRead_of (by assumption)) hL hI F (by rfl) rfl N0 (fun c h1 h2 => ?_)
    (fun X ok hK hP hw hc hI hcl => w_law (n := 32) ok hK hP hc hI (hcl.trans (by kernel_rfl)) (by omega))) (fun f s' q => ?_) (fun e s' q => q.elim)
  · rcases Nat.lt_or_eq_of_le h1 with h3 | h3
    · rcases Nat.lt_or_eq_of_le (Nat.succ_le_of_lt h3) with h5 | h5
      · have h4 : c = _ + 1 + 1 + 1 := Nat.le_antisymm h2 h5
        exact ⟨o3, by rw [h4]; exact .head _, d3.trans rfl⟩
      · exact ⟨o2, by rw [← h5]; exact .tail _ (.head _), d2.trans rfl⟩
    · exact ⟨o1, by rw [← h3]; exact .tail _ (.tail _ (.head _)), d1.trans rfl⟩
  obtain ⟨rfl, h', tk', rfl, hs⟩ := q
  exact ⟨.inl ⟨.bool true, .bool true, [], rfl, fun cls => rfl, .bool true, by wrow_post, fun _ => ⟨List.nodup_nil, fun a ha => by cases ha⟩⟩, hs, rfl, by assumption⟩)
end Mine

theorem PySem.Challenge.cw_ij0062_04_holds : PySem.Challenge.rw_ij0062_04.Holds := by
  exact Mine.tt
