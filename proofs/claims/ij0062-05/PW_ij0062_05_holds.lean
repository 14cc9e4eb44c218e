import PyProof.Rows.All
import Wide.All
import OpenK.AllK
import Wide.FinOn
import Lean
import PySem.Challenge.RW_ij0062_05
set_option Elab.async false
set_option genInjectivity false
set_option genSizeOf false
set_option genSizeOfSpec false
set_option maxRecDepth 100000
set_option linter.unusedVariables false
set_option linter.unusedSimpArgs false
namespace Mine
open PySem PySem.W PySem.Calls PySem.Spec PyProof.Rows
inductive V where
  | none
  | bool (b : Bool)
  | int (i : Int)
  | str (l : List Nat)
  | tup (vs : List V)
  | lst (vs : List V)
  | ref (a : Addr)
  | lit (v : Value)
inductive HO where
  | lst (vs : List V)
  | inst (C dx : Addr)
  | dict (fs : List (Str × V))
  | exc (C : Addr) (dx : Option Addr)
  | cell (d : Option V)
  | pair
mutual
inductive VM (mu : Addr → Prop) (h : Heap) : Value → V → Prop
  | none : VM mu h Value.none V.none
  | bool (b : Bool) : VM mu h (Value.bool b) (V.bool b)
  | int (i : Int) (t : Tok) : VM mu h (Value.int i t) (V.int i)
  | str (x : Str) (t : Tok) : VM mu h (Value.str x t) (V.str x.cps.toList)
  | tup {a : Addr} {o : Obj} {vs : List Value} {n : Nat} {ds : List V} : h.get? a = some o → o.cls = .type "tuple" → o.data = .seq vs.toArray n → ¬ mu a → VMs mu h vs ds → VM mu h (Value.ref a) (V.tup ds)
  | lst {a : Addr} {o : Obj} {vs : List Value} {n : Nat} {ds : List V} : h.get? a = some o → o.cls = .type "list" → o.data = .seq vs.toArray n → ¬ mu a → VMs mu h vs ds → VM mu h (Value.ref a) (V.lst ds)
  | ref (a : Addr) : VM mu h (Value.ref a) (V.ref a)
  | lit (v : Value) : VM mu h v (V.lit v)
inductive VMs (mu : Addr → Prop) (h : Heap) : List Value → List V → Prop
  | nil : VMs mu h [] []
  | cons {v : Value} {vs : List Value} {d : V} {ds : List V} : VM mu h v d → VMs mu h vs ds → VMs mu h (v :: vs) (d :: ds)
end
noncomputable def VMo (mu : Addr → Prop) (h : Heap) (v : Value) : V → Prop
  | .none => v = .none
  | .bool b => v = .bool b
  | .int i => ∃ t, v = .int i t
  | .str l => ∃ t, v = .str ⟨l.toArray⟩ t
  | .tup ds => ∃ a o vs n, v = .ref a ∧ h.get? a = some o ∧ o.cls = .type "tuple" ∧ o.data = .seq vs.toArray n ∧ ¬ mu a ∧ VMs mu h vs ds
  | .lst ds => ∃ a o vs n, v = .ref a ∧ h.get? a = some o ∧ o.cls = .type "list" ∧ o.data = .seq vs.toArray n ∧ ¬ mu a ∧ VMs mu h vs ds
  | .ref a => v = .ref a
  | .lit w => v = w
theorem VM.out {mu : Addr → Prop} {h : Heap} {v : Value} {d : V} (x : VM mu h v d) : VMo mu h v d := by
  cases x with
  | none => exact rfl
  | bool b => exact rfl
  | int i t => exact ⟨t, rfl⟩
  | str x t => exact ⟨t, by rw [Array.toArray_toList]⟩
  | tup a b c d e => exact ⟨_, _, _, _, rfl, a, b, c, d, e⟩
  | lst a b c d e => exact ⟨_, _, _, _, rfl, a, b, c, d, e⟩
  | ref a => exact rfl
  | lit v => exact rfl
theorem VM.noneI {mu : Addr → Prop} {h : Heap} {v : Value} (x : VM mu h v .none) : v = .none := x.out
theorem VM.boolI {mu : Addr → Prop} {h : Heap} {v : Value} {b : Bool} (x : VM mu h v (.bool b)) : v = .bool b := x.out
theorem VM.intI {mu : Addr → Prop} {h : Heap} {v : Value} {i : Int} (x : VM mu h v (.int i)) : ∃ t, v = .int i t := x.out
theorem VM.refI {mu : Addr → Prop} {h : Heap} {v : Value} {a : Addr} (x : VM mu h v (.ref a)) : v = .ref a := x.out
theorem VM.litI {mu : Addr → Prop} {h : Heap} {v w : Value} (x : VM mu h v (.lit w)) : v = w := x.out
theorem VM.strI {mu : Addr → Prop} {h : Heap} {v : Value} {l : List Nat} (x : VM mu h v (.str l)) : ∃ t, v = .str ⟨l.toArray⟩ t := x.out
theorem VM.tupI {mu : Addr → Prop} {h : Heap} {v : Value} {ds : List V} (x : VM mu h v (.tup ds)) : ∃ a o vs n, v = .ref a ∧ h.get? a = some o ∧ o.cls = .type "tuple" ∧ o.data = .seq vs.toArray n ∧ ¬ mu a ∧ VMs mu h vs ds := x.out
theorem VM.lstI {mu : Addr → Prop} {h : Heap} {v : Value} {ds : List V} (x : VM mu h v (.lst ds)) : ∃ a o vs n, v = .ref a ∧ h.get? a = some o ∧ o.cls = .type "list" ∧ o.data = .seq vs.toArray n ∧ ¬ mu a ∧ VMs mu h vs ds := x.out
noncomputable def isSeq : Data → Prop
  | .seq _ _ => True
  | _ => False
structure Ext (L : Addr) (prot : List Addr) (mu : Addr → Prop) (h : Heap) (mu' : Addr → Prop) (h' : Heap) : Prop where
  seq : ∀ a o, h.get? a = some o → ¬ mu a → isSeq o.data → h'.get? a = some o ∧ ¬ mu' a
  obj : ∀ a o, h.get? a = some o → ¬ mu a → a ≠ L → (∀ vs, o.data ≠ .fields vs) → ¬ mu' a ∧ ∃ sl, h'.get? a = some { o with slots := sl }
  watch : ∀ a ∈ prot, ∀ o, h.get? a = some o → h'.get? a = some o ∧ ¬ mu' a
noncomputable def SeqX (mu : Addr → Prop) (h : Heap) (mu' : Addr → Prop) (h' : Heap) : Prop := ∀ a o, h.get? a = some o → ¬ mu a → isSeq o.data → h'.get? a = some o ∧ ¬ mu' a
theorem VM.monoS {mu mu' : Addr → Prop} {h h' : Heap} (x : SeqX mu h mu' h') {v : Value} {d : V} (y : VM mu h v d) : VM mu' h' v d :=
  VM.rec (motive_1 := fun v d _ => VM mu' h' v d) (motive_2 := fun vs ds _ => VMs mu' h' vs ds) .none .bool .int .str (fun ho hc hd hn _ r => .tup (x _ _ ho hn (by rw [hd]; trivial)).1 hc hd (x _ _ ho hn (by rw [hd]; trivial)).2 r)
    (fun ho hc hd hn _ r => .lst (x _ _ ho hn (by rw [hd]; trivial)).1 hc hd (x _ _ ho hn (by rw [hd]; trivial)).2 r) .ref .lit .nil (fun _ _ a r => .cons a r) y
theorem VMs.monoS {mu mu' : Addr → Prop} {h h' : Heap} (x : SeqX mu h mu' h') {vs : List Value} {ds : List V} (y : VMs mu h vs ds) : VMs mu' h' vs ds := by
  induction vs generalizing ds with
  | nil => cases y; exact .nil
  | cons v vs ih => cases y with | cons a r => exact .cons (a.monoS x) (ih r)
theorem VM.mono {L : Addr} {prot : List Addr} {mu mu' : Addr → Prop} {h h' : Heap} (x : Ext L prot mu h mu' h') {v : Value} {d : V} (y : VM mu h v d) : VM mu' h' v d := y.monoS x.seq
theorem VMs.mono {L : Addr} {prot : List Addr} {mu mu' : Addr → Prop} {h h' : Heap} (x : Ext L prot mu h mu' h') {vs : List Value} {ds : List V} (y : VMs mu h vs ds) : VMs mu' h' vs ds := y.monoS x.seq
theorem VMs.length {mu : Addr → Prop} {h : Heap} {vs : List Value} {ds : List V} (x : VMs mu h vs ds) : vs.length = ds.length := by
  induction vs generalizing ds with
  | nil => cases x; rfl
  | cons v vs ih => cases x with | cons a r => simp [ih r]
theorem VMs.append {mu : Addr → Prop} {h : Heap} {vs ws : List Value} {ds es : List V} (x : VMs mu h vs ds) (y : VMs mu h ws es) : VMs mu h (vs ++ ws) (ds ++ es) := by
  induction vs generalizing ds with
  | nil => cases x; exact y
  | cons v vs ih => cases x with | cons a r => exact .cons a (ih r)
theorem VMs.get' {mu : Addr → Prop} {h : Heap} {vs : List Value} {ds : List V} (x : VMs mu h vs ds) {k : Nat} {v : Value} (e : vs[k]? = some v) : ∃ d, ds[k]? = some d ∧ VM mu h v d := by
  induction vs generalizing ds k with
  | nil => cases x; simp at e
  | cons w vs ih =>
    cases x with
    | cons a r =>
      cases k with
      | zero => simp at e; subst e; exact ⟨_, rfl, a⟩
      | succ k => simp at e; simpa using ih r e
theorem Ext.refl (L : Addr) (prot : List Addr) (mu : Addr → Prop) (h : Heap) (hp : ∀ a ∈ prot, ¬ mu a) : Ext L prot mu h mu h :=
  ⟨fun _ _ e n _ => ⟨e, n⟩, fun _ o e n _ _ => ⟨n, o.slots, e⟩, fun a ha _ e => ⟨e, hp a ha⟩⟩
theorem Ext.trans {L : Addr} {prot : List Addr} {m₁ m₂ m₃ : Addr → Prop} {h₁ h₂ h₃ : Heap} (x : Ext L prot m₁ h₁ m₂ h₂) (y : Ext L prot m₂ h₂ m₃ h₃) : Ext L prot m₁ h₁ m₃ h₃ := by
  refine ⟨fun a o e n q => ?_, fun a o e n l q => ?_, fun a ha o e => ?_⟩
  · have z := x.seq a o e n q
    exact y.seq a o z.1 z.2 q
  · obtain ⟨n', sl, e'⟩ := x.obj a o e n l q
    obtain ⟨n'', sl', e''⟩ := y.obj a _ e' n' l q
    exact ⟨n'', sl', e''⟩
  · have z := x.watch a ha o e
    exact y.watch a ha o z.1
theorem Ext.keeps {L : Addr} {prot : List Addr} {mu : Addr → Prop} {h h' : Heap} (hp : ∀ a ∈ prot, ¬ mu a) (k : ∀ b o, h.get? b = some o → h'.get? b = some o) : Ext L prot mu h mu h' :=
  ⟨fun a o e n _ => ⟨k a o e, n⟩, fun a o e n _ _ => ⟨n, o.slots, k a o e⟩, fun a ha o e => ⟨k a o e, hp a ha⟩⟩
inductive Ents (mu : Addr → Prop) (h : Heap) : List DictEntry → List (Str × V) → Prop
  | nil : Ents mu h [] []
  | cons {e : DictEntry} {es : List DictEntry} {x : Str} {t : Tok} {d : V} {fs : List (Str × V)} : e.key = .str x t → VM mu h e.val d → Ents mu h es fs → Ents mu h (e :: es) ((x, d) :: fs)
theorem Ents.mono {L : Addr} {prot : List Addr} {mu mu' : Addr → Prop} {h h' : Heap} (x : Ext L prot mu h mu' h') {es : List DictEntry} {fs : List (Str × V)} (y : Ents mu h es fs) : Ents mu' h' es fs := by
  induction y with
  | nil => exact .nil
  | cons a b _ ih => exact .cons a (b.mono x) ih
noncomputable def lk (fs : List (Str × V)) (x : Str) : Option V := fs.lookup x
noncomputable def OM (mu : Addr → Prop) (h : Heap) (a : Addr) : HO → Prop
  | .lst ds => ∃ vs n, h.get? a = some (listOf vs.toArray n) ∧ VMs mu h vs ds
  | .inst C dx => h.get? a = some (instObj C dx)
  | .dict fs => ∃ es n, h.get? a = some (dictOf es n) ∧ Ents mu h es fs ∧ es.length ≤ 100
  | .exc C dx => ∃ vs a0, h.get? a = some { cls := .ref C, dict := dx, data := .fields vs } ∧ vs[0]? = some a0 ∧ vs[1]? = some .none ∧ vs.size = 6
  | .cell d => ∃ o v, h.get? a = some o ∧ o.data = .cell v ∧ (match d with | some d => ∃ w, v = some w ∧ VM mu h w d | none => v = none)
  | .pair => ∃ x y : Value, h.get? a = some { cls := .type "tuple", data := .seq #[x, y] }
theorem OM.mono {L : Addr} {prot : List Addr} {mu mu' : Addr → Prop} {h h' : Heap} {a : Addr} {o : HO} (x : Ext L prot mu h mu' h') (e : h'.get? a = h.get? a) (y : OM mu h a o) : OM mu' h' a o := by
  cases o with
  | lst ds => obtain ⟨vs, n, q, r⟩ := y; exact ⟨vs, n, e.trans q, r.mono x⟩
  | inst C dx => exact e.trans y
  | dict fs => obtain ⟨es, n, q, r, z⟩ := y; exact ⟨es, n, e.trans q, r.mono x, z⟩
  | exc C dx => obtain ⟨vs, a0, q, r⟩ := y; exact ⟨vs, a0, e.trans q, r⟩
  | cell d =>
    obtain ⟨o, v, q, r, z⟩ := y
    refine ⟨o, v, e.trans q, r, ?_⟩
    cases d with
    | none => exact z
    | some d => obtain ⟨w, a, b⟩ := z; exact ⟨w, a, b.mono x⟩
  | pair => obtain ⟨u, v, q⟩ := y; exact ⟨u, v, e.trans q⟩
theorem OM.there {mu : Addr → Prop} {h : Heap} {a : Addr} {o : HO} (y : OM mu h a o) : ∃ ob, h.get? a = some ob := by
  cases o with
  | lst ds => obtain ⟨vs, n, q, r⟩ := y; exact ⟨_, q⟩
  | inst C dx => exact ⟨_, y⟩
  | dict fs => obtain ⟨es, n, q, r, z⟩ := y; exact ⟨_, q⟩
  | exc C dx => obtain ⟨vs, a0, q, r⟩ := y; exact ⟨_, q⟩
  | cell d => obtain ⟨o, v, q, r, z⟩ := y; exact ⟨_, q⟩
  | pair => obtain ⟨u, v, q⟩ := y; exact ⟨_, q⟩
structure S where
  loc : List (Str × V)
  hp : Addr → Option HO
noncomputable def S.mu (σ : S) : Addr → Prop := fun a => σ.hp a ≠ none
structure Cx where
  prog : Program
  w : World
  K : Frag
  p : Program
  loose : List Str
  mg : Str → Option Value
  mb : Str → Option Value
  base : Heap
  A : Around
  env : Env
  fenv : Env
  L : Addr
  outer : List Env
  prot : List Addr
  ctx : Option (Addr × Bool) := none
structure Ok (X : Cx) (n : Nat) : Prop where
  inK : X.K.In X.base
  top : TopRead X.p X.loose X.mg X.mb X.base
  frames : X.A.frames = some (X.fenv :: X.outer)
  frame : X.fenv.frame = some X.L
  eframe : X.env.frame = some X.L
  kind : X.env.scope.kind = .function
  genv : X.env.globals = mainGlobals
  benv : X.env.builtins = builtinsNs
  above : X.base.objs.size ≤ X.env.locals
  locProt : X.env.locals ∉ X.prot
  handled : X.A.handled = X.ctx.map fun p => .ref p.1
  ctxIn : ∀ p, X.ctx = some p → p.1 ∈ X.prot
  depth : X.A.depth + 2 * n + 8 < recursionLimit
  units : X.A.units + 20 * n + 300 < cLine
inductive FrIs (base : Heap) (mu : Addr → Prop) (h : Heap) (e : Env) : Prop
  | mk (k0 : e.scope.kind ≠ .module) (L : Addr) (o : Obj) (es : Array DictEntry) (ep : Nat) (k1 : e.frame = some L) (k2 : base.get? L = none) (k3 : ¬ mu L) (k4 : h.get? L = some o) (k5 : o.data = .dict es ep)
theorem funs_of {base : Heap} {mu : Addr → Prop} {h : Heap} : ∀ {l : List Env}, (∀ e ∈ l, FrIs base mu h e) → h.FunFrames base l
  | [], _ => trivial
  | _ :: _, k =>
    let ⟨a, L, o, es, ep, hf, hn, _, ho, hd⟩ := k _ (.head _)
    ⟨a, ⟨L, o, hf, hn, ho, fun _ e => by rw [hd] at e; cases e⟩, funs_of fun e he => k e (.tail _ he)⟩
structure St (X : Cx) (σ : S) (h : Heap) : Prop where
  base : X.base.StaysIn h
  names : ∃ m, h.Ns X.env.locals m ∧ ∀ x d, lk σ.loc x = some d → ∃ v, m x = some v ∧ VM σ.mu h v d
  own : ∀ a o, σ.hp a = some o → OM σ.mu h a o ∧ X.base.get? a = none
  locOff : ¬ σ.mu X.env.locals
  prot : ∀ a ∈ X.prot, ¬ σ.mu a ∧ ∃ o vs, h.get? a = some o ∧ o.data = .fields vs ∧ (X.ctx = some (a, true) → vs[2]? = some .none)
  frs : ∀ e ∈ X.fenv :: X.outer, FrIs X.base σ.mu h e
theorem St.protOff {X : Cx} {σ : S} {h : Heap} (st : St X σ h) : ∀ a ∈ X.prot, ¬ σ.mu a := fun a ha => (st.prot a ha).1
noncomputable def Ctx0 (cls : Value) (vs : Array Value) : Prop := (∃ T, cls = .type T) → vs[2]? = some .none
inductive ExcAt (X : Cx) (mu : Addr → Prop) (h : Heap) (e : Addr) (cls : Value) : Prop
  | mk (k0 : X.base.get? e = none ∧ ¬ mu e) (k1 : e ∉ X.prot) (oe : Obj) (vs : Array Value) (a0 : Value) (k2 : h.get? e = some oe) (k3 : oe.cls = cls) (k4 : oe.data = .fields vs) (k5 : vs[0]? = some a0 ∧ Ctx0 cls vs)
    (k6 : vs[1]? = some .none ∨ ∃ T oT ts, vs[1]? = some (.ref T) ∧ (X.base.get? T = none ∧ ¬ mu T) ∧ T ∉ X.prot ∧ T ≠ e ∧ h.get? T = some oT ∧ oT.data = .fields ts ∧ (ts[3]? = some .none ∨ ts[3]? = some (rawInt X.L)))
structure Post (X : Cx) (σ : S) (s : Shared) (σ' : S) (s' : Shared) : Prop where
  upd : ∃ h' tk', s' = { s with heap := h', toks := tk' }
  ext : Ext X.env.locals X.prot σ.mu s.heap σ'.mu s'.heap
  st : St X σ' s'.heap
theorem Post.refl {X : Cx} {σ : S} {s : Shared} (st : St X σ s.heap) : Post X σ s σ s := ⟨⟨s.heap, s.toks, rfl⟩, Ext.refl _ _ _ _ st.protOff, st⟩
theorem Post.trans {X : Cx} {σ₁ σ₂ σ₃ : S} {s₁ s₂ s₃ : Shared} (a : Post X σ₁ s₁ σ₂ s₂) (b : Post X σ₂ s₂ σ₃ s₃) : Post X σ₁ s₁ σ₃ s₃ := by
  obtain ⟨h₂, t₂, e₂⟩ := a.upd
  obtain ⟨h₃, t₃, e₃⟩ := b.upd
  exact ⟨⟨h₃, t₃, by rw [e₃, e₂]⟩, a.ext.trans b.ext, b.st⟩
section
variable {α β : Type}
inductive Qw (X : Cx) (σ : S) (s : Shared) (R : (Addr → Prop) → Heap → α → β → Prop) (Q : β → S → Prop) (a : α) (s' : Shared) : Prop
  | mk (b : β) (σ' : S) (P : Post X σ s σ' s') (r : R σ'.mu s'.heap a b) (q : Q b σ')
inductive Ew (X : Cx) (σ : S) (s : Shared) (E : Value → S → Prop) (e : Value) (s' : Shared) : Prop
  | mk (ea : Addr) (cls : Value) (σ' : S) (P : Post X σ s σ' s') (he : e = .ref ea) (x : ExcAt X σ'.mu s'.heap ea cls) (q : E cls σ')
noncomputable def W (X : Cx) (t : Sem α) (R : (Addr → Prop) → Heap → α → β → Prop) (σ : S) (Q : β → S → Prop) (E : Value → S → Prop) : Prop :=
  ∀ s, St X σ s.heap → wpAny (model X.prog X.w) X.A t (Qw X σ s R Q) (Ew X σ s E) s
theorem Ew.after {X : Cx} {σ σ₁ : S} {s s₁ s' : Shared} {E : Value → S → Prop} {e : Value} (P : Post X σ s σ₁ s₁) (h : Ew X σ₁ s₁ E e s') : Ew X σ s E e s' := by
  obtain ⟨ea, cls, σ', q, r1, r2, r3⟩ := h
  exact ⟨ea, cls, σ', P.trans q, r1, r2, r3⟩
theorem Qw.after {X : Cx} {σ σ₁ : S} {s s₁ s' : Shared} {R : (Addr → Prop) → Heap → α → β → Prop} {Q : β → S → Prop} {a : α} (P : Post X σ s σ₁ s₁) (h : Qw X σ₁ s₁ R Q a s') : Qw X σ s R Q a s' := by
  obtain ⟨b, σ', q, r1, r2⟩ := h
  exact ⟨b, σ', P.trans q, r1, r2⟩
theorem W.run {X : Cx} {t : Sem α} {R : (Addr → Prop) → Heap → α → β → Prop} {σ : S} {Q : β → S → Prop} {E : Value → S → Prop} (h : W X t R σ Q E) {σ₀ : S} {s₀ s : Shared} (P : Post X σ₀ s₀ σ s)
    {Q' : α → Shared → Prop} (hq : ∀ a s' b σ', Post X σ s σ' s' → Post X σ₀ s₀ σ' s' → R σ'.mu s'.heap a b → Q b σ' → Q' a s') : wpAny (model X.prog X.w) X.A t Q' (Ew X σ₀ s₀ E) s := by
  refine wpAny_mono (h s P.st) (fun a s' q => ?_) fun e s' q => q.after P
  obtain ⟨b, σ', p, r, q⟩ := q
  exact hq a s' b σ' p (P.trans p) r q
theorem W.hide {X : Cx} {t : Sem α} {R : (Addr → Prop) → Heap → α → β → Prop} {σ : S} {Q : β → S → Prop} {E : Value → S → Prop} (h : ∀ Q' E', (∀ b σ', Q b σ' → Q' b σ') → (∀ c σ', E c σ' → E' c σ') → W X t R σ Q' E') : W X t R σ Q E := h Q E (fun _ _ q => q) fun _ _ q => q
theorem W.hideQ {X : Cx} {t : Sem α} {R : (Addr → Prop) → Heap → α → β → Prop} {σ : S} {Q : β → S → Prop} {E : Value → S → Prop} (h : ∀ Q', (∀ b σ', Q b σ' → Q' b σ') → W X t R σ Q' E) : W X t R σ Q E := h Q fun _ _ q => q
end
noncomputable abbrev RU : (Addr → Prop) → Heap → Unit → Unit → Prop := fun _ _ _ _ => True
noncomputable abbrev RB : (Addr → Prop) → Heap → Bool → Bool → Prop := fun _ _ a b => a = b
inductive FV where
  | next | brk | cont | ret (d : V)
noncomputable def FM (mu : Addr → Prop) (h : Heap) : Flow → FV → Prop
  | .next, .next => True
  | .brk, .brk => True
  | .cont, .cont => True
  | .ret v, .ret d => VM mu h v d
  | _, _ => False
theorem Post.keeps {X : Cx} {σ : S} {s s' : Shared} (st : St X σ s.heap) (h' : Heap) (tk' : Nat) (e : s' = { s with heap := h', toks := tk' }) (k : ∀ b o, s.heap.get? b = some o → h'.get? b = some o) : Post X σ s σ s' := by
  subst e
  have x : Ext X.env.locals X.prot σ.mu s.heap σ.mu h' := Ext.keeps st.protOff k
  refine ⟨⟨h', tk', rfl⟩, x, ⟨fun b o q => k b o (st.base b o q), ?_, ?_, st.locOff, fun a ha => ?_, fun e he => ?_⟩⟩
  · obtain ⟨m, hn, hm⟩ := st.names
    exact ⟨m, hn.keeps k, fun y d q => let ⟨v, a, b⟩ := hm y d q; ⟨v, a, b.mono x⟩⟩
  · intro a o q
    obtain ⟨y, z⟩ := st.own a o q
    obtain ⟨ob, g⟩ := y.there
    exact ⟨y.mono x ((k a ob g).trans g.symm), z⟩
  · obtain ⟨z, o, vs, g, d⟩ := st.prot a ha
    exact ⟨z, o, vs, k a o g, d⟩
  · obtain ⟨z, L, o, es, ep, hf, hn, hm, g, d⟩ := st.frs e he
    exact ⟨z, L, o, es, ep, hf, hn, hm, k L o g, d⟩
theorem St.fr {X : Cx} {n : Nat} (ok : Ok X n) {σ : S} {h : Heap} (st : St X σ h) : ∃ m, Fr X.base X.env.locals h m ∧ ∀ x d, lk σ.loc x = some d → ∃ v, m x = some v ∧ VM σ.mu h v d := by
  obtain ⟨m, hn, hm⟩ := st.names
  exact ⟨m, ⟨hn, st.base, ok.above⟩, hm⟩
theorem St.inK {X : Cx} {n : Nat} (ok : Ok X n) {σ : S} {h : Heap} (st : St X σ h) : X.K.In h := ok.inK.keeps st.base
end Mine
namespace Mine
open PySem PySem.W PySem.Calls PySem.Spec PyProof.Rows
section
variable {X : Cx} {n : Nat} {σ : S} {E : Value → S → Prop}
noncomputable abbrev WE (X : Cx) (e : Expr) (σ : S) (Q : V → S → Prop) (E : Value → S → Prop) : Prop := W X (eval e X.env) VM σ Q E
noncomputable abbrev WX (X : Cx) (st : Stmt) (σ : S) (Q : FV → S → Prop) (E : Value → S → Prop) : Prop := W X (exec st X.env) FM σ Q E
noncomputable abbrev WXs (X : Cx) (st : List Stmt) (σ : S) (Q : FV → S → Prop) (E : Value → S → Prop) : Prop := W X (execs st X.env) FM σ Q E
noncomputable abbrev WT (X : Cx) (e : Expr) (σ : S) (Q : Bool → S → Prop) (E : Value → S → Prop) : Prop := W X (isTrue e X.env (eval e X.env)) RB σ Q E
theorem qw_same {α β : Type} {R : (Addr → Prop) → Heap → α → β → Prop} {s : Shared} {a : α} {b : β} {Q : β → S → Prop} (st : St X σ s.heap) (tk : Nat) (r : R σ.mu s.heap a b) (q : Q b σ) : Qw X σ s R Q a { s with toks := tk } :=
  ⟨b, σ, ⟨⟨s.heap, tk, rfl⟩, Ext.refl _ _ _ _ st.protOff, st⟩, r, q⟩
theorem qw_self {α β : Type} {R : (Addr → Prop) → Heap → α → β → Prop} {s : Shared} {a : α} {b : β} {Q : β → S → Prop} (st : St X σ s.heap) (r : R σ.mu s.heap a b) (q : Q b σ) : Qw X σ s R Q a s :=
  ⟨b, σ, Post.refl st, r, q⟩
theorem W_int {i : Int} {k : Nat} {pos : Pos} {Q : V → S → Prop} (q : Q (.int i) σ) : WE X (.Constant (.int i) k pos) σ Q E := fun _ st =>
  wpAny_Constant_int (qw_same st _ (.int i _) q)
theorem W_str {x : Str} {l : List Nat} {k : Nat} {pos : Pos} {Q : V → S → Prop} (e : x.cps.toList = l) (q : Q (.str l) σ) : WE X (.Constant (.str x) k pos) σ Q E := fun _ st =>
  wpAny_Constant_str (qw_same st _ (.str x _) (e ▸ q))
theorem W_none {k : Nat} {pos : Pos} {Q : V → S → Prop} (q : Q .none σ) : WE X (.Constant .none k pos) σ Q E := fun _ st => wpAny_Constant_none (qw_self st .none q)
theorem W_bool {b : Bool} {k : Nat} {pos : Pos} {Q : V → S → Prop} (q : Q (.bool b) σ) : WE X (.Constant (.bool b) k pos) σ Q E := fun _ st => wpAny_Constant_bool (qw_self st (.bool b) q)
theorem W_local {x : Str} {pos : Pos} {d : V} {Q : V → S → Prop} (ok : Ok X n) (hx : X.env.kindOf x = some .local) (e : lk σ.loc x = some d) (q : Q d σ) (hd : (x == ("__debug__" : Str)) = false) :
    WE X (.Name x pos) σ Q E := fun _ st => by
  obtain ⟨m, hn, hm⟩ := st.names
  obtain ⟨v, hv, vm⟩ := hm x d e
  exact wpAny_Name (wpAny_loadName_local ok.kind hx hn hv (qw_self st vm q)) hd
theorem W_global {x : Str} {pos : Pos} {v : Value} {Q : V → S → Prop} (ok : Ok X n) (hx : X.env.kindOf x = some .globalImplicit) (e : nsIn X.K mainGlobals x = some (some v)) (q : Q (.lit v) σ) (hd : (x == ("__debug__" : Str)) = false) :
    WE X (.Name x pos) σ Q E := fun _ st =>
  Name_function_global ok.kind hx (loadGlobal_global (ok.genv ▸ ok.top.g.keeps st.base) (mg_of ok.inK ok.top.g e) (qw_self st (.lit v) q)) hd
theorem W_builtin {x : Str} {pos : Pos} {v : Value} {Q : V → S → Prop} (ok : Ok X n) (hx : X.env.kindOf x = some .globalImplicit) (e : nsIn X.K mainGlobals x = some none) (hv : bootBuiltins x = some v) (hn : x ≠ "__name__") (q : Q (.lit v) σ) (hd : (x == ("__debug__" : Str)) = false) :
    WE X (.Name x pos) σ Q E := fun _ st =>
  Name_function_global ok.kind hx (loadGlobal_builtin (ok.genv ▸ ok.top.g.keeps st.base) (mg_none_of ok.inK ok.top.g e) (ok.benv ▸ ok.top.b.keeps st.base) ((ok.top.builtins x hn).trans hv) (qw_self st (.lit v) q)) hd
noncomputable def Op2 (X : Cx) (t : Value → Value → Sem Value) (a b : V) (σ : S) (Q : V → S → Prop) (E : Value → S → Prop) : Prop :=
  ∀ v w s, St X σ s.heap → VM σ.mu s.heap v a → VM σ.mu s.heap w b → wpAny (model X.prog X.w) X.A (t v w) (Qw X σ s VM Q) (Ew X σ s E) s
noncomputable def Tr (X : Cx) (a : V) (σ : S) (Q : Bool → S → Prop) (E : Value → S → Prop) : Prop :=
  ∀ v s, St X σ s.heap → VM σ.mu s.heap v a → wpAny (model X.prog X.w) X.A (truthy v) (Qw X σ s RB Q) (Ew X σ s E) s
noncomputable def Op1 (X : Cx) (t : Value → Sem Value) (a : V) (σ : S) (Q : V → S → Prop) (E : Value → S → Prop) : Prop :=
  ∀ v s, St X σ s.heap → VM σ.mu s.heap v a → wpAny (model X.prog X.w) X.A (t v) (Qw X σ s VM Q) (Ew X σ s E) s
theorem Op2.go {t : Value → Value → Sem Value} {a b : V} {Q : V → S → Prop} (h : Op2 X t a b σ Q E) {σ₀ : S} {s₀ s : Shared} (P : Post X σ₀ s₀ σ s) {v w : Value} (va : VM σ.mu s.heap v a) (wb : VM σ.mu s.heap w b) :
    wpAny (model X.prog X.w) X.A (t v w) (Qw X σ₀ s₀ VM Q) (Ew X σ₀ s₀ E) s :=
  wpAny_mono (h v w s P.st va wb) (fun _ _ q => q.after P) fun _ _ q => q.after P
theorem Op1.go {t : Value → Sem Value} {a : V} {Q : V → S → Prop} (h : Op1 X t a σ Q E) {σ₀ : S} {s₀ s : Shared} (P : Post X σ₀ s₀ σ s) {v : Value} (va : VM σ.mu s.heap v a) :
    wpAny (model X.prog X.w) X.A (t v) (Qw X σ₀ s₀ VM Q) (Ew X σ₀ s₀ E) s :=
  wpAny_mono (h v s P.st va) (fun _ _ q => q.after P) fun _ _ q => q.after P
theorem Tr.go {a : V} {Q : Bool → S → Prop} (h : Tr X a σ Q E) {σ₀ : S} {s₀ s : Shared} (P : Post X σ₀ s₀ σ s) {v : Value} (va : VM σ.mu s.heap v a) :
    wpAny (model X.prog X.w) X.A (truthy v) (Qw X σ₀ s₀ RB Q) (Ew X σ₀ s₀ E) s :=
  wpAny_mono (h v s P.st va) (fun _ _ q => q.after P) fun _ _ q => q.after P
theorem W.go {α β : Type} {t : Sem α} {R : (Addr → Prop) → Heap → α → β → Prop} {Q : β → S → Prop} (h : W X t R σ Q E) {σ₀ : S} {s₀ s : Shared} (P : Post X σ₀ s₀ σ s) : wpAny (model X.prog X.w) X.A t (Qw X σ₀ s₀ R Q) (Ew X σ₀ s₀ E) s :=
  wpAny_mono (h s P.st) (fun _ _ q => q.after P) fun _ _ q => q.after P
theorem W_BinOp {l r : Expr} {op : Operator} {pos : Pos} {Q : V → S → Prop} (h : WE X l σ (fun a σ₁ => WE X r σ₁ (fun b σ₂ => Op2 X (binaryOp op) a b σ₂ Q E) E) E) : WE X (.BinOp l op r pos) σ Q E := fun _ st =>
  wpAny_BinOp (h.run (Post.refl st) fun _ _ _ _ _ P₁ va h₁ => h₁.run P₁ fun _ _ _ _ p₂ P₂ vb h₂ => h₂.go P₂ (va.mono p₂.ext) vb)
theorem W_Compare {l r : Expr} {op : CmpOp} {pos : Pos} {Q : V → S → Prop} (h : WE X l σ (fun a σ₁ => WE X r σ₁ (fun b σ₂ => Op2 X (compareOp op) a b σ₂ Q E) E) E) (hm : behindInMarks op r = false) :
    WE X (.Compare l [op] [r] pos) σ Q E := fun _ st =>
  wpAny_Compare1 (h.run (Post.refl st) fun _ _ _ _ _ P₁ va h₁ => h₁.run P₁ fun _ _ _ _ p₂ P₂ vb h₂ => h₂.go P₂ (va.mono p₂.ext) vb) hm
theorem WT_Compare {l r : Expr} {op : CmpOp} {pos : Pos} {Q : Bool → S → Prop} (h : WE X l σ (fun a σ₁ => WE X r σ₁ (fun b σ₂ => Op2 X (compareOp op) a b σ₂ (fun c σ₃ => Tr X c σ₃ Q E) E) E) E) (hm : behindInMarks op r = false) :
    WT X (.Compare l [op] [r] pos) σ Q E := fun _ st =>
  wpAny_isTrue_Compare1 (h.run (Post.refl st) fun _ _ _ _ _ P₁ va h₁ => h₁.run P₁ fun _ _ _ _ p₂ P₂ vb h₂ => wpAny_mono (h₂.go P₂ (va.mono p₂.ext) vb) (fun _ _ q => by
    obtain ⟨c, σ₃, P₃, vc, h₃⟩ := q
    exact h₃.go P₃ vc) fun _ _ e => e) hm
theorem WT_Not {x : Expr} {pos : Pos} {Q : Bool → S → Prop} (h : WT X x σ (fun b σ₁ => Q (!b) σ₁) E) : WT X (.UnaryOp .Not x pos) σ Q E := fun _ st =>
  wpAny_isTrue_Not (h.run (Post.refl st) fun _ _ _ _ _ P₁ e q => by subst e; exact ⟨_, _, P₁, rfl, q⟩)
theorem WT_value {e : Expr} {Q : Bool → S → Prop} (h : WE X e σ (fun a σ₁ => Tr X a σ₁ Q E) E) (he : ∀ env whole, isTrue e env whole = (do let v ← whole; standAt e.pos; holding [v] (truthy v))) : WT X e σ Q E := fun _ st =>
  wpAny_isTrue_value (h.run (Post.refl st) fun _ _ _ _ _ P₁ va h₁ => h₁.go P₁ va) (he _ _)
theorem WT_And2 {x y : Expr} {pos : Pos} {Q : Bool → S → Prop} (h : WT X x σ (fun b σ₁ => if b then WT X y σ₁ Q E else Q false σ₁) E) : WT X (.BoolOp .And [x, y] pos) σ Q E := fun _ st =>
  wpAny_isTrue_BoolOp (wpAny_allTrue_And_cons (h.run (Post.refl st) fun _ _ _ _ _ P₁ e q => by
    subst e
    split at q
    · rename_i e; subst e
      rw [if_pos rfl]
      refine wpAny_allTrue_And_cons (q.run P₁ fun _ _ _ _ _ P₂ e q => ?_)
      subst e
      split
      · rename_i e; subst e; exact wpAny_allTrue_And_nil ⟨_, _, P₂, rfl, q⟩
      · rename_i e; rw [Bool.not_eq_true] at e; subst e; exact ⟨_, _, P₂, rfl, q⟩
    · rename_i e; rw [Bool.not_eq_true] at e; subst e
      exact ⟨_, _, P₁, rfl, q⟩))
theorem W_Or {x y : Expr} {pos : Pos} {Q : V → S → Prop} (h : WE X x σ (fun a σ₁ => Tr X a σ₁ (fun b σ₂ => if b then Q a σ₂ else WE X y σ₂ Q E) E) E) : WE X (.BoolOp .Or [x, y] pos) σ Q E := fun _ st =>
  wpAny_Or2 (h.run (Post.refl st) fun _ s₁ _ _ _ P₁ va h₁ => wpAny_mono (h₁ _ s₁ P₁.st va) (fun b s₂ q => by
    obtain ⟨c, σ₃, p₃, e, h₃⟩ := q
    have P₃ := P₁.trans p₃
    cases e
    cases b
    · simp only [Bool.false_eq_true, if_false] at h₃ ⊢
      exact h₃.go P₃
    · simp only [if_true] at h₃ ⊢
      exact ⟨_, _, P₃, va.mono p₃.ext, h₃⟩) fun _ _ e => e.after P₁)
theorem W_IfExp {t x y : Expr} {pos : Pos} {Q : V → S → Prop} (h : WT X t σ (fun b σ₁ => if b then WE X x σ₁ Q E else WE X y σ₁ Q E) E) : WE X (.IfExp t x y pos) σ Q E := fun _ st =>
  wpAny_IfExp (h.run (Post.refl st) fun b _ _ _ _ P₁ e h₁ => by
    subst e
    cases b
    · simp only [Bool.false_eq_true, if_false] at h₁ ⊢
      exact h₁.go P₁
    · simp only [if_true] at h₁ ⊢
      exact h₁.go P₁)
theorem W_Unary {op : UnaryOp} {x : Expr} {pos : Pos} {Q : V → S → Prop} (h : WE X x σ (fun a σ₁ => Op1 X (unaryOp op) a σ₁ Q E) E) : WE X (.UnaryOp op x pos) σ Q E := fun _ st =>
  wpAny_UnaryOp (h.run (Post.refl st) fun _ _ _ _ _ P₁ va h₁ => h₁.go P₁ va)
theorem WA_nil {Q : List V → S → Prop} (q : Q [] σ) : W X (spliced []) VMs σ Q E := fun _ st => spliced_nil (qw_self st .nil q)
theorem WA_cons {e : Expr} {rest : List (Bool × Sem Value)} {Q : List V → S → Prop} (h : WE X e σ (fun a σ₁ => W X (spliced rest) VMs σ₁ (fun as σ₂ => Q (a :: as) σ₂) E) E) : W X (spliced ((false, eval e X.env) :: rest)) VMs σ Q E := fun _ st =>
  spliced_cons (h.run (Post.refl st) fun _ _ _ _ _ P₁ va h₁ => h₁.run P₁ fun _ _ _ _ p₂ P₂ vs q => ⟨_, _, P₂, .cons (va.mono p₂.ext) vs, q⟩)
theorem st_push {s : Shared} (st : St X σ s.heap) (o : Obj) : Post X σ s σ { s with heap := s.heap.push o } :=
  Post.keeps st _ s.toks rfl fun _ _ e => Heap.get?_push_of_some _ e
theorem new_none {s : Shared} (st : St X σ s.heap) : σ.hp s.heap.objs.size = none := by
  cases e : σ.hp s.heap.objs.size with
  | none => rfl
  | some o =>
    obtain ⟨ob, g⟩ := (st.own _ o e).1.there
    exact absurd (Heap.lt_size g) (Nat.lt_irrefl _)
theorem new_off {s : Shared} (st : St X σ s.heap) : ¬ σ.mu s.heap.objs.size := fun hm => hm (new_none st)
theorem W_Tuple {elts : List Expr} {k : Nat} {pos : Pos} {Q : V → S → Prop} (h : W X (spliced (backTo pos (starEach elts X.env))) VMs σ (fun as σ₁ => as.length ≤ 1000 ∧ Q (.tup as) σ₁) E) : WE X (.Tuple elts k pos) σ Q E := fun _ st =>
  Tuple_ (h.run (Post.refl st) fun vs s₁ as σ₁ _ P₁ va q => wpAny_newObj_type (⟨_, σ₁, P₁.trans (st_push P₁.st _), .tup (Heap.get?_push_size _ rfl) rfl rfl (new_off P₁.st) (va.mono (st_push P₁.st _).ext), q.2⟩)
    (by show vs.toArray.size ≤ sizeLine; rw [List.size_toArray, va.length, sizeLine_eq]; omega))
theorem W_List {elts : List Expr} {pos : Pos} {Q : V → S → Prop} (h : W X (spliced (backTo pos (starEach elts X.env))) VMs σ (fun as σ₁ => as.length ≤ 1000 ∧ Q (.lst as) σ₁) E) : WE X (.List elts pos) σ Q E := fun _ st =>
  List_ (h.run (Post.refl st) fun vs s₁ as σ₁ _ P₁ va q => wpAny_newObj_type (⟨_, σ₁, P₁.trans (st_push P₁.st _), .lst (Heap.get?_push_size _ rfl) rfl rfl (new_off P₁.st) (va.mono (st_push P₁.st _).ext), q.2⟩)
    (by show vs.toArray.size ≤ sizeLine; rw [List.size_toArray, va.length, sizeLine_eq]; omega))
theorem WXs_nil {Q : FV → S → Prop} (q : Q .next σ) : WXs X [] σ Q E := fun _ st => wpAny_execs_nil ⟨.next, σ, Post.refl st, trivial, q⟩
theorem WXs_cons {st : Stmt} {rest : List Stmt} {Q : FV → S → Prop} (h : WX X st σ (fun f σ₁ => match f with | .next => WXs X rest σ₁ Q E | f => Q f σ₁) E) : WXs X (st :: rest) σ Q E := fun _ sst =>
  wpAny_execs_cons (h.run (Post.refl sst) fun f s₁ g σ₁ _ P₁ r q => by
    cases f <;> cases g <;> first | exact r.elim | exact q.go P₁ | exact ⟨_, _, P₁, r, q⟩)
theorem WX_If {test : Expr} {body orelse : List Stmt} {pos : Pos} {Q : FV → S → Prop} (h : WT X test σ (fun b σ₁ => if b then WXs X body σ₁ Q E else WXs X orelse σ₁ Q E) E) : WX X (.If test body orelse pos) σ Q E := fun _ st =>
  wpAny_If (h.run (Post.refl st) fun b _ _ _ _ P₁ e h₁ => by
    subst e
    cases b
    · simp only [Bool.false_eq_true, if_false] at h₁ ⊢
      exact h₁.go P₁
    · simp only [if_true] at h₁ ⊢
      exact h₁.go P₁)
theorem WX_Return {e : Expr} {pos : Pos} {Q : FV → S → Prop} (h : WE X e σ (fun a σ₁ => Q (.ret a) σ₁) E) : WX X (.Return (some e) pos) σ Q E := fun _ st =>
  wpAny_Return_some (h.run (Post.refl st) fun _ _ a _ _ P₁ va q => ⟨.ret a, _, P₁, va, q⟩)
theorem WX_Return0 {pos : Pos} {Q : FV → S → Prop} (q : Q (.ret .none) σ) : WX X (.Return none pos) σ Q E := fun _ st => wpAny_Return_none ⟨.ret .none, _, Post.refl st, VM.none, q⟩
theorem WX_Break {pos : Pos} {Q : FV → S → Prop} (q : Q .brk σ) : WX X (.Break pos) σ Q E := fun _ st => wpAny_Break ⟨.brk, _, Post.refl st, trivial, q⟩
theorem WX_Expr {e : Expr} {pos : Pos} {Q : FV → S → Prop} (ok : Ok X n) (h : WE X e σ (fun _ σ₁ => Q .next σ₁) E) (hs : ∀ env, swapsWith e none pos.line env = pure false) : WX X (.Expr e pos) σ Q E := fun _ st =>
  wpAny_Expr_any (h.run (Post.refl st) fun _ _ a _ _ P₁ va q => ⟨.next, _, P₁, trivial, q⟩) (by unfold interactive; rw [ok.kind]; rfl) (hs _)
noncomputable def put (fs : List (Str × V)) (x : Str) (d : V) : List (Str × V) := (x, d) :: fs.filter (fun p => !(p.1 == x))
theorem lk_put_self {fs : List (Str × V)} {x : Str} {d : V} : lk (put fs x d) x = some d := by simp [lk, put, List.lookup]
theorem lk_put_ne {fs : List (Str × V)} {x y : Str} {d : V} (h : y ≠ x) : lk (put fs x d) y = lk fs y := by
  have e : (y == x) = false := by simpa using h
  unfold lk put
  rw [List.lookup_cons, e]
  dsimp only
  induction fs with
  | nil => rfl
  | cons p r ih =>
    rw [List.filter_cons]
    by_cases q : p.1 = x
    · have e1 : (p.1 == x) = true := by simpa using q
      simp only [e1, Bool.not_true, Bool.false_eq_true, if_false]
      rw [ih, List.lookup_cons]
      have : (y == p.1) = false := by simpa [q] using h
      rw [this]
    · have e1 : (p.1 == x) = false := by simpa using q
      simp only [e1, Bool.not_false, if_true]
      rw [List.lookup_cons, List.lookup_cons, ih]
theorem Post.frame {s : Shared} {h' : Heap} {tk : Nat} {loc : List (Str × V)} {m : Str → Option Value} (ok : Ok X n) (st : St X σ s.heap) (hs : Heap.SameBut X.env.locals s.heap h') (hn : h'.Ns X.env.locals m)
    (hm : ∀ x d, lk loc x = some d → ∃ v, m x = some v ∧ VM σ.mu s.heap v d) : Post X σ s { σ with loc := loc } { s with heap := h', toks := tk } := by
  obtain ⟨m₀, hn₀, _⟩ := st.names
  obtain ⟨oL, esL, epL, gL, dL, _⟩ := hn₀
  have x : Ext X.env.locals X.prot σ.mu s.heap σ.mu h' := by
    refine ⟨fun a o e nm q => ⟨(hs.2 a fun z => ?_).trans e, nm⟩, fun a o e nm l q => ⟨nm, o.slots, (hs.2 a l).trans e⟩, fun a ha o e => ⟨(hs.2 a fun z => ?_).trans e, st.protOff a ha⟩⟩
    · rw [z, gL] at e; cases e; rw [dL] at q; exact q
    · exact ok.locProt (z ▸ ha)
  refine ⟨⟨h', tk, rfl⟩, x, ⟨fun b o e => (hs.2 b (Nat.ne_of_lt (Nat.lt_of_lt_of_le (Heap.lt_size e) ok.above))).trans (st.base b o e), ⟨m, hn, fun y d e => let ⟨v, a, b⟩ := hm y d e; ⟨v, a, b.mono x⟩⟩, fun a o q => ?_, st.locOff, fun a ha => ?_, fun e he => ?_⟩⟩
  · obtain ⟨y, z⟩ := st.own a o q
    exact ⟨y.mono x (hs.2 a fun e => st.locOff (by rw [← e]; show σ.hp a ≠ none; rw [q]; exact Option.some_ne_none o)), z⟩
  · obtain ⟨z, o, vs, g, d⟩ := st.prot a ha
    exact ⟨z, o, vs, (hs.2 a fun e => ok.locProt (e ▸ ha)).trans g, d⟩
  · obtain ⟨z, L, o, es, ep, hf, hnb, hmu, g, d⟩ := st.frs e he
    by_cases q : L = X.env.locals
    · obtain ⟨o', es', ep', g', d', _⟩ := hn
      exact ⟨z, L, o', es', ep', hf, hnb, hmu, q ▸ g', d'⟩
    · exact ⟨z, L, o, es, ep, hf, hnb, hmu, (hs.2 L q).trans g, d⟩
theorem store_local {x : Str} {d : V} {Q : Unit → S → Prop} (ok : Ok X n) (hx : X.env.kindOf x = some .local) (q : Q () { σ with loc := put σ.loc x d }) {σ₀ : S} {s₀ s : Shared} (P : Post X σ₀ s₀ σ s) {v : Value} (vm : VM σ.mu s.heap v d) :
    wpAny (model X.prog X.w) X.A (storeName X.env x v) (Qw X σ₀ s₀ RU Q) (Ew X σ₀ s₀ E) s := by
  obtain ⟨m, hn, hm⟩ := P.st.names
  refine wpAny_storeName_local hx hn (fun h' hn' hs => ⟨(), _, P.trans (Post.frame ok P.st hs hn' fun y e he => ?_), trivial, q⟩) (by rw [ok.kind]; rfl)
  by_cases z : y = x
  · subst z
    rw [lk_put_self] at he
    cases he
    exact ⟨v, if_pos rfl, vm⟩
  · rw [lk_put_ne z] at he
    obtain ⟨w, a, b⟩ := hm y e he
    exact ⟨w, by rw [if_neg z]; exact a, b⟩
theorem WX_Assign {x : Str} {px pos : Pos} {e : Expr} {Q : FV → S → Prop} (ok : Ok X n) (hx : X.env.kindOf x = some .local) (h : WE X e σ (fun d σ₁ => Q .next { σ₁ with loc := put σ₁.loc x d }) E)
    (hs : ∀ env, swapsWith e (some (.Name x px)) pos.line env = pure false) : WX X (.Assign [.Name x px] e pos) σ Q E := fun _ st =>
  wpAny_Assign_Name (h.run (Post.refl st) fun v s₁ d σ₁ _ P₁ vm q => wpAny_mono (store_local (E := E) (Q := fun _ σ' => Q .next σ') ok hx q P₁ vm) (fun _ _ ⟨_, σ', P', _, q'⟩ => ⟨.next, σ', P', trivial, q'⟩) fun _ _ e => e) (hs _)
theorem WX_Aug {x : Str} {px pos : Pos} {e : Expr} {op : Operator} {d : V} {Q : FV → S → Prop} (ok : Ok X n) (hx : X.env.kindOf x = some .local) (hd : lk σ.loc x = some d)
    (h : WE X e σ (fun b σ₁ => Op2 X (inplaceOp op) d b σ₁ (fun r σ₂ => Q .next { σ₂ with loc := put σ₂.loc x r }) E) E) : WX X (.AugAssign (.Name x px) op e pos) σ Q E := fun _ st => by
  obtain ⟨m, hn, hm⟩ := st.names
  obtain ⟨v, hv, vm⟩ := hm x d hd
  refine wpAny_AugAssign_Name (wpAny_loadName_local ok.kind hx hn hv (h.run (Post.refl st) fun w s₁ b σ₁ p₁ P₁ wm h₁ => ?_))
  refine wpAny_mono (h₁.go P₁ (vm.mono p₁.ext) wm) (fun r s₂ q => ?_) fun _ _ e => e
  obtain ⟨c, σ₂, P₂, rm, h₂⟩ := q
  exact wpAny_mono (store_local (E := E) (Q := fun _ σ' => Q .next σ') ok hx h₂ P₂ rm) (fun _ _ ⟨_, σ', P', _, q'⟩ => ⟨.next, σ', P', trivial, q'⟩) fun _ _ e => e
end
end Mine
namespace Mine
open PySem PySem.W PySem.Calls PySem.Spec PyProof.Rows
section
variable {X : Cx} {n : Nat} {σ : S} {E : Value → S → Prop}
noncomputable def upd (hp : Addr → Option HO) (a : Addr) (o : HO) : Addr → Option HO := fun b => if b = a then some o else hp b
theorem upd_self {hp : Addr → Option HO} {a : Addr} {o : HO} : upd hp a o a = some o := if_pos rfl
theorem upd_ne {hp : Addr → Option HO} {a b : Addr} {o : HO} (h : b ≠ a) : upd hp a o b = hp b := if_neg h
noncomputable def V.isLit : V → Bool
  | .lit _ => true
  | _ => false
theorem nl {v : V} (h : v.isLit = false) : ∀ w, v ≠ .lit w := fun w e => Bool.noConfusion ((congrArg V.isLit e).symm.trans h)
theorem upd_upd {hp : Addr → Option HO} {a : Addr} {o o' : HO} : upd (upd hp a o) a o' = upd hp a o' := by
  funext b; unfold upd; split <;> rfl
theorem hp_ne {hp : Addr → Option HO} {a b : Addr} {o : HO} (h1 : hp a = some o) (h2 : hp b = none) : b ≠ a := fun e => by
  rw [e, h1] at h2; cases h2
noncomputable def HO.kd : HO → Nat
  | .inst _ _ => 0
  | .dict _ => 1
  | .cell _ => 2
  | _ => 3
theorem kd_ne {hp : Addr → Option HO} {a b : Addr} {o o' : HO} (h1 : hp a = some o) (h2 : hp b = some o') (k : (o.kd == o'.kd) = false) : a ≠ b := fun e => by
  rw [e, h2] at h1; cases h1
  rw [beq_self_eq_true] at k; cases k
theorem upd_com0 {hp : Addr → Option HO} {a b : Addr} (h : b ≠ a) (D' L : HO) : upd (upd hp b L) a D' = upd (upd hp a D') b L := by
  funext c
  by_cases h1 : c = a
  · rw [h1, upd_self, upd_ne h.symm, upd_self]
  · rw [upd_ne h1]
    by_cases h2 : c = b
    · rw [h2, upd_self, upd_self]
    · rw [upd_ne h2, upd_ne h2, upd_ne h1]
theorem upd_com {hp : Addr → Option HO} {a b : Addr} (h : b ≠ a) (D D' L : HO) : upd (upd (upd hp a D) b L) a D' = upd (upd hp a D') b L := by
  rw [upd_com0 h, upd_upd]
theorem upd_sub {hp : Addr → Option HO} {a b : Addr} (h : b ≠ a) (hb : hp b = none) (D L : HO) (c : Addr) (o : HO) (e : upd hp a D c = some o) : upd (upd hp a D) b L c = some o := by
  by_cases hcb : c = b
  · rw [hcb, upd_ne h, hb] at e; cases e
  · rw [upd_ne hcb]; exact e
theorem post_write {s : Shared} {h' : Heap} {tk : Nat} {a : Addr} {o : HO} (ok : Ok X n) (st : St X σ s.heap) (k : ∀ b o, b ≠ a → b ≠ X.env.locals → s.heap.get? b = some o → h'.get? b = some o)
    (hL : ∃ m, h'.Ns X.env.locals m ∧ ∀ x d, lk σ.loc x = some d → ∃ v, m x = some v ∧ VM σ.mu s.heap v d) (hown : σ.hp a ≠ none ∨ (s.heap.get? a = none))
    (om : (∀ v d, VM σ.mu s.heap v d → VM (S.mu { σ with hp := upd σ.hp a o }) h' v d) → (∀ es fs, Ents σ.mu s.heap es fs → Ents (S.mu { σ with hp := upd σ.hp a o }) h' es fs) → (∀ vs ds, VMs σ.mu s.heap vs ds → VMs (S.mu { σ with hp := upd σ.hp a o }) h' vs ds) → OM (S.mu { σ with hp := upd σ.hp a o }) h' a o) :
    Post X σ s { σ with hp := upd σ.hp a o } { s with heap := h', toks := tk } := by
  obtain ⟨m₀, hn₀, _⟩ := st.names
  obtain ⟨oL, esL, epL, gL, dL, _⟩ := id hn₀
  have hne : ∀ b ob, s.heap.get? b = some ob → ¬ σ.mu b → b ≠ a := fun b ob g nm e => by
    subst e
    rcases hown with q | q
    · exact nm q
    · rw [q] at g; cases g
  have nmu : ∀ b, ¬ σ.mu b → b ≠ a → ¬ S.mu { σ with hp := upd σ.hp a o } b := fun b nm ne q => nm (by
    have : upd σ.hp a o b ≠ none := q
    rwa [upd_ne ne] at this)
  have x : Ext X.env.locals X.prot σ.mu s.heap (S.mu { σ with hp := upd σ.hp a o }) h' := by
    refine ⟨fun b ob g nm q => ⟨k b ob (hne b ob g nm) (fun z => ?_) g, nmu b nm (hne b ob g nm)⟩, fun b ob g nm l q => ⟨nmu b nm (hne b ob g nm), ob.slots, k b ob (hne b ob g nm) l g⟩, fun b hb ob g => ?_⟩
    · rw [z, gL] at g; cases g; rw [dL] at q; exact q
    · have nm := st.protOff b hb
      exact ⟨k b ob (hne b ob g nm) (fun z => ok.locProt (z ▸ hb)) g, nmu b nm (hne b ob g nm)⟩
  have La : X.env.locals ≠ a := hne _ _ gL st.locOff
  have ba : X.base.get? a = none := by
    rcases hown with q | q
    · cases e : σ.hp a with
      | none => exact absurd e q
      | some o' => exact (st.own a o' e).2
    · cases e : X.base.get? a with
      | none => rfl
      | some o' => have := st.base a o' e; rw [q] at this; cases this
  refine ⟨⟨h', tk, rfl⟩, x, ⟨fun b ob e => k b ob (fun z => by rw [z, ba] at e; cases e) (Nat.ne_of_lt (Nat.lt_of_lt_of_le (Heap.lt_size e) ok.above)) (st.base b ob e), ?_, fun b ob e => ?_, nmu _ st.locOff La, fun p hp => ?_, fun e he => ?_⟩⟩
  · obtain ⟨m, hn, hm⟩ := hL
    exact ⟨m, hn, fun y d e => let ⟨v, q, r⟩ := hm y d e; ⟨v, q, r.mono x⟩⟩
  · by_cases z : b = a
    · subst z
      have e' : Mine.upd σ.hp b o b = some ob := e
      rw [upd_self] at e'
      cases e'
      exact ⟨om (fun _ _ q => q.mono x) (fun _ _ q => q.mono x) (fun _ _ q => q.mono x), ba⟩
    · replace e : Mine.upd σ.hp a o b = some ob := e
      rw [upd_ne z] at e
      obtain ⟨y, r⟩ := st.own b ob e
      obtain ⟨oc, g⟩ := y.there
      refine ⟨y.mono x ((k b oc z (fun q => st.locOff (by rw [← q]; show σ.hp b ≠ none; rw [e]; exact Option.some_ne_none ob)) g).trans g.symm), r⟩
  · obtain ⟨z, ob, vs, g, d⟩ := st.prot p hp
    exact ⟨nmu p z (hne p ob g z), ob, vs, k p ob (hne p ob g z) (fun q => ok.locProt (q ▸ hp)) g, d⟩
  · obtain ⟨z, L, ob, es, ep, hf, hn, hm, g, d⟩ := st.frs e he
    by_cases q : L = X.env.locals
    · obtain ⟨m, hnn, _⟩ := hL
      obtain ⟨o', es', ep', g', d', _⟩ := hnn
      exact ⟨z, L, o', es', ep', hf, hn, nmu L hm (hne L ob g hm), q ▸ g', d'⟩
    · exact ⟨z, L, ob, es, ep, hf, hn, nmu L hm (hne L ob g hm), k L ob (hne L ob g hm) q g, d⟩
noncomputable def restOf (base h : Heap) (L a : Addr) : List (Addr × Obj) :=
  (List.range h.objs.size).filterMap fun b => if b = L ∨ b = a ∨ (base.get? b).isSome then none else (h.get? b).map fun o => (b, o)
theorem restOf_mem {base h : Heap} {L a : Addr} {p : Addr × Obj} (hp : p ∈ restOf base h L a) : h.get? p.1 = some p.2 ∧ p.1 ≠ L ∧ p.1 ≠ a ∧ base.get? p.1 = none := by
  obtain ⟨b, _, e⟩ := List.mem_filterMap.mp hp
  split at e
  · cases e
  · rename_i q
    rw [not_or, not_or] at q
    obtain ⟨o, g, rfl⟩ := Option.map_eq_some_iff.mp e
    exact ⟨g, q.1, q.2.1, by simpa using q.2.2⟩
theorem mem_restOf {base h : Heap} {L a b : Addr} {o : Obj} (g : h.get? b = some o) (h1 : b ≠ L) (h2 : b ≠ a) (h3 : base.get? b = none) : (b, o) ∈ restOf base h L a := by
  refine List.mem_filterMap.mpr ⟨b, List.mem_range.mpr (Heap.lt_size g), ?_⟩
  rw [if_neg (by rw [h3]; simp [h1, h2]), g]; rfl
theorem restOf_news {base h : Heap} {L a : Addr} : News base L h (restOf base h L a) := fun p hp =>
  let ⟨g, h1, _, h3⟩ := restOf_mem hp
  ⟨g, h1, h3⟩
theorem kept_of {base h h' : Heap} {L a : Addr} {m : Str → Option Value} (F : Fr base L h' m) (sb : base.StaysIn h) (N : News base L h' (restOf base h L a)) : ∀ b o, b ≠ a → b ≠ L → h.get? b = some o → h'.get? b = some o := fun b o h1 h2 g => by
  cases e : base.get? b with
  | none => exact (N _ (mem_restOf g h2 h1 e)).1
  | some o' =>
    have := sb b o' e
    rw [g] at this
    cases this
    exact F.keep b o e
theorem Ents.getL {mu : Addr → Prop} {h : Heap} {es : List DictEntry} {fs : List (Str × V)} (x : Ents mu h es fs) {name : Str} : (∀ d, lk fs name = some d → ∃ v, PySem.W.getL name es = some (some v) ∧ VM mu h v d) ∧ (lk fs name = none → PySem.W.getL name es = some none) := by
  induction x with
  | nil => exact ⟨fun d e => by simp [lk] at e, fun _ => rfl⟩
  | @cons e es x t d fs hk vm r ih =>
    have ik : e.key.isStr name = (x == name) := by rw [hk]; rfl
    have rk : e.refKey = false := by unfold DictEntry.refKey; rw [hk]
    by_cases q : x = name
    · subst q
      refine ⟨fun d' e' => ⟨e.val, ?_, ?_⟩, fun e' => ?_⟩
      · unfold PySem.W.getL; rw [List.find?_cons, ik]; simp
      · simp [lk, List.lookup] at e'; subst e'; exact vm
      · simp [lk, List.lookup] at e'
    · have q1 : (x == name) = false := by simpa using q
      have q2 : (name == x) = false := by simpa using fun z => q z.symm
      have gl : PySem.W.getL name (e :: es) = PySem.W.getL name es := by
        unfold PySem.W.getL; rw [List.find?_cons, ik, q1]; simp [rk]
      have ll : lk ((x, d) :: fs) name = lk fs name := by unfold lk; rw [List.lookup_cons, q2]
      rw [gl, ll]; exact ih
noncomputable def updF : List (Str × V) → Str → V → List (Str × V)
  | [], x, d => [(x, d)]
  | (y, e) :: r, x, d => if y == x then (y, d) :: r else (y, e) :: updF r x d
theorem Ents.put {mu : Addr → Prop} {h : Heap} {es : List DictEntry} {fs : List (Str × V)} (x : Ents mu h es fs) {name : Str} {hs : Int} {tk : Tok} {v : Value} {d : V} (vm : VM mu h v d) : Ents mu h (putL name hs (.str name tk) v es) (updF fs name d) := by
  induction x with
  | nil => exact .cons rfl vm .nil
  | @cons e es x t d' fs hk vm' r ih =>
    have ik : e.key.isStr name = (x == name) := by rw [hk]; rfl
    unfold putL updF
    rw [ik]
    split
    · exact .cons hk vm r
    · exact .cons hk vm' ih
theorem Ents.length {mu : Addr → Prop} {h : Heap} {es : List DictEntry} {fs : List (Str × V)} (x : Ents mu h es fs) : es.length = fs.length := by
  induction x with
  | nil => rfl
  | cons _ _ _ ih => simp [ih]
theorem updF_length (fs : List (Str × V)) (x : Str) (d : V) : (updF fs x d).length ≤ fs.length + 1 := by
  induction fs with
  | nil => simp [updF]
  | cons p r ih => obtain ⟨y, e⟩ := p; unfold updF; split <;> simp <;> omega
structure KGet (K : Frag) (C : Addr) (name : Str) : Prop where
  get : plainGet K C name = true
  dict : hasDictIn K C = true
  cls : ∃ attr, findIn K (.ref C) name = some attr ∧ noGet K attr = true
structure KSet (K : Frag) (C : Addr) (name : Str) : Prop where
  set : findIn K (.ref C) "__setattr__" = some (some (.builtin "object.__setattr__"))
  plain : plainOver K C = true
  taker : takerIn K C name = some none
  dict : hasDictIn K C = true
structure KMeth (K : Frag) (C : Addr) (name : Str) (f : Addr) : Prop where
  get : plainGet K C name = true
  cls : findIn K (.ref C) name = some (some (.ref f))
  fn : isFn K (.ref f) = true
  keep : keepIn K (.ref f) = true
theorem VM.handed {mu : Addr → Prop} {h : Heap} {v : Value} {d : V} (x : VM mu h v d) (hd : ∀ w, d ≠ .lit w) : handedIn v = true := by
  cases x <;> first | rfl | exact absurd rfl (hd _)
theorem inst_at {a C dx : Addr} {fs : List (Str × V)} {h : Heap} (st : St X σ h) (h1 : σ.hp a = some (.inst C dx)) (h2 : σ.hp dx = some (.dict fs)) : ∃ es k, InstAt h a (instObj C dx) C (some (dictOf es k)) ∧ Ents σ.mu h es fs ∧ es.length ≤ 100 := by
  obtain ⟨g1, _⟩ := st.own a _ h1
  obtain ⟨⟨es, k, g2, en, hl⟩, _⟩ := st.own dx _ h2
  exact ⟨es, k, ⟨g1, rfl, rfl, g2⟩, en, hl⟩
theorem get_field {a C dx : Addr} {fs : List (Str × V)} {name : Str} {d : V} {ex : Bool} {Q : V → S → Prop} (ok : Ok X n) (h1 : σ.hp a = some (.inst C dx)) (h2 : σ.hp dx = some (.dict fs)) (kg : KGet X.K C name)
    (hd : lk fs name = some d) (hl : ∀ w, d ≠ .lit w) (q : Q d σ) : Op1 X (fun v => getAttr v name ex) (.ref a) σ Q E := by
  intro v s st vm
  obtain rfl := vm.refI
  obtain ⟨m, F, _⟩ := st.fr ok
  obtain ⟨es, k, I, en, _⟩ := inst_at st h1 h2
  obtain ⟨w, e, wm⟩ := en.getL.1 d hd
  obtain ⟨attr, c1, c2⟩ := kg.cls
  exact get_own F ok.inK I kg.get kg.dict c1 c2 e (wm.handed hl) (qw_same st _ wm q)
theorem W_Attr {x attr : Str} {xp pos : Pos} {Q : V → S → Prop} (h : WE X (.Name x xp) σ (fun a σ₁ => Op1 X (fun v => getAttr v attr true) a σ₁ Q E) E) : WE X (.Attribute (.Name x xp) attr pos) σ Q E := fun _ st =>
  Attribute_name (h.run (Post.refl st) fun _ _ _ _ _ P₁ va h₁ => h₁.go P₁ va)
theorem set_field {a C dx : Addr} {fs : List (Str × V)} {name : Str} {d : V} {Q : Unit → S → Prop} (ok : Ok X n) (h1 : σ.hp a = some (.inst C dx)) (h2 : σ.hp dx = some (.dict fs)) (ks : KSet X.K C name)
    (hlen : fs.length ≤ 90) (q : Q () { σ with hp := upd σ.hp dx (.dict (updF fs name d)) }) {σ₀ : S} {s₀ s : Shared} (P : Post X σ₀ s₀ σ s) {v : Value} (vm : VM σ.mu s.heap v d) :
    wpAny (model X.prog X.w) X.A (setAttr (.ref a) name v) (Qw X σ₀ s₀ RU Q) (Ew X σ₀ s₀ E) s := by
  have st := P.st
  obtain ⟨m, F, hm⟩ := st.fr ok
  obtain ⟨es, k, I, en, _⟩ := inst_at st h1 h2
  have hl : (PySem.W.getL name es).isSome = true := by
    cases e : lk fs name with
    | none => rw [en.getL.2 e]; rfl
    | some d' => obtain ⟨w, e', _⟩ := en.getL.1 d' e; rw [e']; rfl
  obtain ⟨⟨es₂, k₂, g2, _⟩, nb⟩ := st.own dx _ h2
  have g2' : s.heap.get? dx = some (dictOf es k) := I.dict
  have dL : dx ≠ X.env.locals := fun e => st.locOff (by rw [← e]; show σ.hp dx ≠ none; rw [h2]; exact Option.some_ne_none _)
  have N : News X.base X.env.locals s.heap ((dx, dictOf es k) :: restOf X.base s.heap X.env.locals dx) := fun p hp => by
    rcases List.mem_cons.mp hp with rfl | hp
    · exact ⟨g2', dL, nb⟩
    · exact restOf_news p hp
  have el := en.length
  have en' := en.put (name := name) (hs := PyData.keyHash X.w.params name) (tk := s.toks + 1) vm
  have el' := en'.length
  have ul := updF_length fs name d
  refine set_dict F ok.inK N I rfl ks.set ks.plain ks.taker ks.dict hl rfl (Upd.head fun p hp => (restOf_mem hp).2.2.1) (by omega) fun h' F' N' => ?_
  refine ⟨(), _, P.trans (post_write ok st (kept_of F' st.base (fun p hp => N' p (.tail _ hp))) ⟨m, F'.ns, hm⟩ (.inl (by rw [h2]; exact Option.some_ne_none _)) fun _ me _ => ?_), trivial, q⟩
  exact ⟨_, _, (N' _ (.head _)).1, me _ _ en', by omega⟩
end
end Mine
namespace Mine
open PySem PySem.W PySem.Calls PySem.Spec PyProof.Rows
section
variable {X : Cx} {n : Nat} {σ : S} {E : Value → S → Prop}
noncomputable def Cx.frs (X : Cx) : List Addr := (X.fenv :: X.outer).filterMap (·.frame)
theorem frs_of {h : Heap} (st : St X σ h) {b : Addr} (hb : b ∈ X.frs) : X.base.get? b = none ∧ ¬ σ.mu b ∧ ∃ o es ep, h.get? b = some o ∧ o.data = .dict es ep := by
  obtain ⟨e, he, hf⟩ := List.mem_filterMap.mp hb
  obtain ⟨_, L, o, es, ep, hf', hn, hm, g, d⟩ := st.frs e he
  rw [hf'] at hf
  cases hf
  exact ⟨hn, hm, o, es, ep, g, d⟩
theorem post_slots {s : Shared} {h' : Heap} {tk : Nat} {bad : List Addr} (st : St X σ s.heap) (k1 : ∀ b o, s.heap.get? b = some o → b ∉ X.frs → b ∉ bad → h'.get? b = some o) (k2 : s.heap.UpToSlots h')
    (hb : ∀ b ∈ bad, (X.base.get? b = none ∧ ¬ σ.mu b) ∧ b ∉ X.prot ∧ ∃ o vs, s.heap.get? b = some o ∧ o.data = .fields vs) : Post X σ s σ { s with heap := h', toks := tk } := by
  have nf : ∀ b o, s.heap.get? b = some o → (∀ es ep, o.data ≠ .dict es ep) → b ∉ X.frs := fun b o g q hm => by
    obtain ⟨_, _, o', es, ep, g', d⟩ := frs_of st hm
    rw [g] at g'; cases g'; exact q _ _ d
  have nb : ∀ b o, s.heap.get? b = some o → (∀ vs, o.data ≠ .fields vs) → b ∉ bad := fun b o g q hm => by
    obtain ⟨_, _, o', vs, g', d⟩ := hb b hm
    rw [g] at g'; cases g'; exact q _ d
  have x : Ext X.env.locals X.prot σ.mu s.heap σ.mu h' := by
    refine ⟨fun a o g nm q => ⟨k1 a o g (nf a o g ?_) (nb a o g ?_), nm⟩, fun a o g nm _ q => ⟨nm, k2 a o g q⟩, fun a ha o g => ?_⟩
    · intro es ep d; rw [d] at q; exact q
    · intro vs d; rw [d] at q; exact q
    · obtain ⟨z, o', vs, g', d, _⟩ := st.prot a ha
      rw [g] at g'; cases g'
      exact ⟨k1 a o g (nf a o g fun es ep d' => by rw [d] at d'; cases d') (fun hm => (hb a hm).2.1 ha), z⟩
  refine ⟨⟨h', tk, rfl⟩, x, ⟨fun b o e => k1 b o (st.base b o e) (fun hm => ?_) (fun hm => ?_), ?_, fun a o e => ?_, st.locOff, fun a ha => ?_, fun e he => ?_⟩⟩
  · have := (frs_of st hm).1; rw [e] at this; cases this
  · have := (hb b hm).1.1; rw [e] at this; cases this
  · obtain ⟨m, hn, hm⟩ := st.names
    exact ⟨m, k2.ns hn, fun y d e => let ⟨v, q, r⟩ := hm y d e; ⟨v, q, r.mono x⟩⟩
  · obtain ⟨y, z⟩ := st.own a o e
    obtain ⟨ob, g⟩ := y.there
    exact ⟨y.mono x ((k1 a ob g (fun hm => (frs_of st hm).2.1 (by show σ.hp a ≠ none; rw [e]; exact Option.some_ne_none _)) (fun hm => (hb a hm).1.2 (by show σ.hp a ≠ none; rw [e]; exact Option.some_ne_none _))).trans g.symm), z⟩
  · obtain ⟨z, o', vs, g', d⟩ := st.prot a ha
    exact ⟨z, o', vs, (x.watch a ha o' g').1, d⟩
  · obtain ⟨z, L, o, es, ep, hf, hn, hm, g, d⟩ := st.frs e he
    obtain ⟨sl, g'⟩ := k2 L o g fun vs q => by rw [d] at q; cases q
    exact ⟨z, L, _, es, ep, hf, hn, hm, g', d⟩
noncomputable def ExcTb (X : Cx) (mu : Addr → Prop) (h : Heap) (e : Addr) (cls fl : Value) : Prop :=
  (X.base.get? e = none ∧ ¬ mu e) ∧ e ∉ X.prot ∧ ∃ oe vs a0 T oT ts, h.get? e = some oe ∧ oe.cls = cls ∧ oe.data = .fields vs ∧ (vs[0]? = some a0 ∧ Ctx0 cls vs) ∧ vs[1]? = some (.ref T) ∧ (X.base.get? T = none ∧ ¬ mu T) ∧ T ∉ X.prot ∧ T ≠ e ∧
    h.get? T = some oT ∧ oT.data = .fields ts ∧ ts[3]? = some fl
theorem ExcTb.own {mu : Addr → Prop} {h : Heap} {e : Addr} {cls : Value} (x : ExcTb X mu h e cls (rawInt X.L)) : ExcAt X mu h e cls := by
  obtain ⟨a, b, oe, vs, a0, T, oT, ts, g, c, d, v0, v1, bT, pT, ne, gT, dT, v3⟩ := x
  exact ⟨a, b, oe, vs, a0, g, c, d, v0, .inr ⟨T, oT, ts, v1, bT, pT, ne, gT, dT, .inr v3⟩⟩
theorem set_flight {s : Shared} {e : Addr} {cls fl : Value} {fr : Option Addr} {Q : Unit → Shared → Prop} {E' : Value → Shared → Prop} {A : Around} (st : St X σ s.heap) (x : ExcTb X σ.mu s.heap e cls fl)
    (h : ∀ h', Post X σ s σ { s with heap := h' } → ExcTb X σ.mu h' e cls (fr.elim .none fun f => rawInt f) → Q () { s with heap := h' }) : wpAny (model X.prog X.w) A (setFlight (.ref e) fr) Q E' s := by
  obtain ⟨be, pe, oe, vs, a0, T, oT, ts, g, c, d, v0, v1, bT, pT, ne, gT, dT, v3⟩ := x
  have hsz3 : 3 < ts.size := (Array.getElem?_eq_some_iff.mp v3).1
  have other : ∀ b, b ≠ T → (s.heap.update T (Obj.mapFields (·.setIfInBounds 3 (fr.elim Value.none fun f => rawInt f)))).get? b = s.heap.get? b :=
    fun b hb => Heap.get?_update_other _ _ (Ne.symm hb)
  unfold setFlight
  refine wpAny_bind (wpAny_field g d v1 ?_)
  rw [if_pos (show (Value.ref T != Value.none) = true from by simp)]
  refine wpAny_setField gT dT hsz3 (h _ ?_ ?_)
  · refine post_slots (bad := [T]) st (fun b o g' _ nb => (other b fun q => nb (by simp [q])).trans g') (fun b o g' nf => ⟨o.slots, (other b fun q => ?_).trans g'⟩) fun b hb => ?_
    · rw [q, gT] at g'; cases g'; exact nf _ dT
    · rw [List.mem_singleton.mp hb]; exact ⟨bT, pT, oT, ts, gT, dT⟩
  · exact ⟨be, pe, oe, vs, a0, T, _, _, (other e (Ne.symm ne)).trans g, c, d, v0, v1, bT, pT, ne, Heap.get?_update_self _ gT (Obj.isFreed_of_fields (Obj.data_mapFields dT _)), Obj.data_mapFields dT _, by simp [hsz3]⟩
theorem entry_new {s : Shared} {e : Addr} {oe : Obj} {vs : Array Value} {head : Value} {hadNext : Bool} {Q : Unit → Shared → Prop} {E' : Value → Shared → Prop} {A : Around} (ok : Ok X n) (st : St X σ s.heap) (hA : A.frames = some (X.fenv :: X.outer))
    (he : s.heap.get? e = some oe) (hd : oe.data = .fields vs) (hsz : 1 < vs.size)
    (h : ∀ h' T ts, (∀ b o, b ≠ e → b ∉ X.frs → s.heap.get? b = some o → h'.get? b = some o) → s.heap.UpToSlots h' → s.heap.get? T = none → T ≠ e → h'.get? e = some (oe.mapFields (·.setIfInBounds 1 (.ref T))) →
      (∃ oT, h'.get? T = some oT ∧ oT.data = .fields ts) → ts[3]? = some (rawInt X.L) → Q () { s with heap := h' }) :
    wpAny (model X.prog X.w) A (do let a ← frameOf X.fenv; let pl ← entryPlaceOf X.L hadNext; let b ← EntryCells.newEntry head a .none (rawInt X.L) .none pl; setField (.ref e) 1 b) Q E' s := by
  have hl := funs_of st.frs
  have hene : e ∉ X.frs := fun hm => by
    obtain ⟨_, _, o', es, ep, g', d'⟩ := frs_of st hm
    rw [he] at g'; cases g'; rw [hd] at d'; cases d'
  refine wpAny_bind (wpAny_frameOf_fun hA hl ok.frame fun h₁ hs₁ => ?_)
  refine wpAny_bind (wpAny_entryPlaceOf fun pl hpl => ?_)
  unfold EntryCells.newEntry newFields
  refine wpAny_bind (wpAny_newObj_type ?_ (hpl.sizeOk5 _ _ _ _ _))
  generalize hts : ([head, .ref X.L, .none, rawInt X.L, .none] ++ (if pl.isEmpty then List.replicate 6 Value.none else pl)).toArray = ts
  have he₁ : h₁.get? e = some oe := (hs₁.2.1 e hene).trans he
  have he₂ := Heap.get?_push_of_some (h := h₁) { cls := .type "traceback", dict := none, data := .fields ts } he₁
  have hTe : h₁.objs.size ≠ e := Nat.ne_of_gt (Heap.lt_size he₁)
  have hd₃ := Obj.data_mapFields hd (·.setIfInBounds 1 (Value.ref h₁.objs.size))
  have keep : ∀ b o, b ≠ e → h₁.get? b = some o → ((h₁.push { cls := .type "traceback", dict := none, data := .fields ts }).update e (Obj.mapFields (·.setIfInBounds 1 (Value.ref h₁.objs.size)))).get? b = some o := fun b o hbe hb => by
    rw [Heap.get?_update_other _ _ (Ne.symm hbe)]
    exact Heap.get?_push_of_some _ hb
  refine wpAny_setField he₂ hd hsz (h _ h₁.objs.size ts (fun b o ne nf g => keep b o ne ((hs₁.2.1 b nf).trans g)) (fun b o g nf => ?_) ?_ hTe ?_ ⟨{ cls := .type "traceback", dict := none, data := .fields ts }, ?_, rfl⟩ ?_)
  · obtain ⟨sl, g'⟩ := hs₁.2.2 b o g
    exact ⟨sl, keep b _ (fun q => by rw [q, he] at g; cases g; exact nf _ hd) g'⟩
  · rw [hs₁.1]; exact Heap.get?_none_of_le (Nat.le_refl _)
  · exact Heap.get?_update_self _ he₂ (Obj.isFreed_of_fields hd₃)
  · exact (Heap.get?_update_other _ _ (Ne.symm hTe)).trans (Heap.get?_push_size h₁ rfl)
  · rw [← hts]; simp
theorem note_any {s : Shared} {e : Addr} {cls : Value} {Q : Unit → Shared → Prop} {E' : Value → Shared → Prop} (ok : Ok X n) (he : X.env = X.fenv) (st : St X σ s.heap) (x : ExcAt X σ.mu s.heap e cls)
    (h : ∀ h', Post X σ s σ { s with heap := h' } → ExcTb X σ.mu h' e cls (rawInt X.L) → Q () { s with heap := h' }) {A : Around} (hA : A.frames = some (X.fenv :: X.outer)) : wpAny (model X.prog X.w) A (noteFrame (.ref e) X.env) Q E' s := by
  obtain ⟨be, pe, oe, vs, a0, g, c, d, ⟨v0, c0⟩, hx⟩ := x
  rw [he]
  have fin : ∀ (s₁ : Shared), Post X σ s σ s₁ → s₁.heap.get? e = some oe → ∀ h' T ts, (∀ b o, b ≠ e → b ∉ X.frs → s₁.heap.get? b = some o → h'.get? b = some o) → s₁.heap.UpToSlots h' → s₁.heap.get? T = none → T ≠ e →
      h'.get? e = some (oe.mapFields (·.setIfInBounds 1 (.ref T))) → (∃ oT, h'.get? T = some oT ∧ oT.data = .fields ts) → ts[3]? = some (rawInt X.L) → 1 < vs.size → Post X σ s σ { s₁ with heap := h' } ∧ ExcTb X σ.mu h' e cls (rawInt X.L) := by
    intro s₁ P₁ g₁ h' T ts k1 k2 gT hTe ge ⟨oT, gT', dT⟩ t3 hsz
    refine ⟨P₁.trans (post_slots (bad := [e]) P₁.st (fun b o gb n1 n2 => k1 b o (fun q => n2 (by simp [q])) n1 gb) k2 fun b hb => by rw [List.mem_singleton.mp hb]; exact ⟨be, pe, oe, vs, g₁, d⟩), ?_⟩
    refine ⟨be, pe, _, _, a0, T, oT, ts, ge, (Obj.cls_mapFields _ _).trans c, Obj.data_mapFields d _, ⟨by rw [Array.getElem?_setIfInBounds_ne (by decide)]; exact v0, fun q => by rw [Array.getElem?_setIfInBounds_ne (by decide)]; exact c0 q⟩, by simp [hsz], ?_, fun hp => ?_, hTe, gT', dT, t3⟩
    · refine ⟨?_, fun hm => ?_⟩
      · cases q : X.base.get? T with
        | none => rfl
        | some o => have := P₁.st.base T o q; rw [gT] at this; cases this
      · cases q : σ.hp T with
        | none => exact hm q
        | some o =>
          obtain ⟨ob, g⟩ := (P₁.st.own T o q).1.there
          rw [gT] at g; cases g
    · obtain ⟨_, o, ws, gp, _⟩ := P₁.st.prot T hp
      rw [gT] at gp; cases gp
  rcases hx with v1 | ⟨T, oT, ts, v1, bT, pT, ne, gT, dT, v3 | v3⟩
  · have hsz := (Array.getElem?_eq_some_iff.mp v1).1
    unfold noteFrame
    simp only [ok.frame]
    refine wpAny_bind (wpAny_field g d v1 ?_)
    rw [if_neg (by decide)]
    refine entry_new ok st hA g d hsz fun h' T ts k1 k2 gT hTe ge gT' t3 => ?_
    obtain ⟨P, x⟩ := fin s (Post.refl st) g h' T ts k1 k2 gT hTe ge gT' t3 hsz
    exact h h' P x
  · have hsz := (Array.getElem?_eq_some_iff.mp v1).1
    unfold noteFrame
    simp only [ok.frame]
    refine wpAny_bind (wpAny_field g d v1 ?_)
    rw [if_pos (show (Value.ref T != Value.none) = true from by simp)]
    refine wpAny_bind (wpAny_field gT dT v3 ?_)
    rw [if_neg (show ¬ ((Value.none == rawInt X.L) = true) from by simp [rawInt])]
    have other : ∀ b, b ≠ T → (s.heap.update T (Obj.mapFields (·.setIfInBounds 3 Value.none))).get? b = s.heap.get? b := fun b hb => Heap.get?_update_other _ _ (Ne.symm hb)
    refine wpAny_bind (wpAny_setField gT dT (Array.getElem?_eq_some_iff.mp v3).1 ?_)
    have P₁ : Post X σ s σ { s with heap := s.heap.update T (Obj.mapFields (·.setIfInBounds 3 Value.none)) } :=
      post_slots (tk := s.toks) (bad := [T]) st (fun b o g' _ nb => (other b fun q => nb (by simp [q])).trans g') (fun b o g' nf => ⟨o.slots, (other b fun q => by rw [q, gT] at g'; cases g'; exact nf _ dT).trans g'⟩) fun b hb => by
        rw [List.mem_singleton.mp hb]; exact ⟨bT, pT, oT, ts, gT, dT⟩
    have g₁ := (other e (Ne.symm ne)).trans g
    refine entry_new ok P₁.st hA g₁ d hsz fun h' T' ts' k1 k2 gT₂ hTe ge gT' t3 => ?_
    obtain ⟨P, x⟩ := fin _ P₁ g₁ h' T' ts' k1 k2 gT₂ hTe ge gT' t3 hsz
    exact h h' P x
  · refine wpAny_noteFrame_againW (base := X.base) (cls := cls) (a0 := a0) ok.frame ⟨oe, vs, T, oT, ts, g, ⟨c, v0⟩, d, v1, bT.1, ne, gT, dT, v3⟩ ?_
    exact h s.heap ⟨⟨s.heap, s.toks, rfl⟩, Ext.refl _ _ _ _ st.protOff, st⟩ ⟨be, pe, oe, vs, a0, T, oT, ts, g, c, d, ⟨v0, c0⟩, v1, bT, pT, ne, gT, dT, v3⟩
theorem leave_any {s : Shared} {e : Addr} {cls : Value} {Q : Unit → Shared → Prop} {E' : Value → Shared → Prop} (ok : Ok X n) (he : X.env = X.fenv) (st : St X σ s.heap) (x : ExcAt X σ.mu s.heap e cls)
    (h : ∀ h', Post X σ s σ { s with heap := h' } → ExcTb X σ.mu h' e cls .none → Q () { s with heap := h' }) : wpAny (model X.prog X.w) X.A (leaving X.env (.ref e)) Q E' s := by
  unfold leaving
  refine wpAny_bind (note_any ok he st x (fun h₁ P₁ x₁ => ?_) ok.frames)
  exact set_flight (fr := none) P₁.st x₁ fun h₂ P₂ x₂ => h h₂ (P₁.trans P₂) x₂
end
end Mine
namespace Mine
open PySem PySem.W PySem.Calls PySem.Spec PyProof.Rows
section
variable {X : Cx} {n : Nat} {σ : S} {E : Value → S → Prop}
noncomputable def Cx.into (X : Cx) (A' : Around) (fd : FuncData) (f L : Addr) : Cx :=
  { X with A := A'.deeper (callEnv fd L f), env := callEnv fd L f, fenv := callEnv fd L f, L := L, outer := X.fenv :: X.outer }
structure FnIs (K : Frag) (f : Addr) (fd : FuncData) (body : List Stmt) : Prop where
  at_ : ∃ oc od osl, K.lookup f = some ⟨oc, od, .func fd, osl⟩
  code : codeIn K fd.code fd.qualname = true
  body : fd.body = .stmts body
  glob : fd.globals = mainGlobals
  bult : fd.builtins = builtinsNs
  kind : fd.scope.kind = .function
  co : fd.scope.isCoroutine = false
  gen : fd.scope.isGenerator = false
  cell : ∀ x ∈ fd.scope.names, x.2 ≠ .cell
structure Under (X : Cx) (A' : Around) : Prop where
  frames : A'.frames = X.A.frames
  depth : A'.depth ≤ X.A.depth + 1
  units : A'.units ≤ X.A.units + 10
  handled : A'.handled = X.A.handled
theorem Under.self : Under X X.A := ⟨rfl, Nat.le_succ _, Nat.le_add_right _ _, rfl⟩
theorem ok_into {A' : Around} {fd : FuncData} {f L : Addr} {body : List Stmt} (ok : Ok X (n + 1)) (hf : FnIs X.K f fd body) (hA : Under X A') (hL : X.base.objs.size ≤ L) (hp : L ∉ X.prot) : Ok (X.into A' fd f L) n where
  inK := ok.inK
  top := ok.top
  frames := Around.frames_deeper (hA.frames.trans ok.frames)
  frame := rfl
  eframe := rfl
  kind := hf.kind
  genv := hf.glob
  benv := hf.bult
  above := hL
  locProt := hp
  handled := hA.handled.trans ok.handled
  ctxIn := ok.ctxIn
  depth := by
    have := ok.depth
    have := hA.depth
    show A'.depth + 1 + 2 * n + 8 < _
    omega
  units := by
    have := ok.units
    have := hA.units
    show A'.units + 3 + 20 * n + 300 < _
    omega
theorem enter {A' : Around} {fd : FuncData} {f : Addr} {body : List Stmt} {s : Shared} {h₀ : Heap} {m : Str → Option Value} {loc0 : List (Str × V)} (hf : FnIs X.K f fd body) (st : St X σ s.heap) (hn : h₀.Ns s.heap.objs.size m) (k : ∀ b o, s.heap.get? b = some o → h₀.get? b = some o)
    (hm : ∀ x d, lk loc0 x = some d → ∃ v, m x = some v ∧ VM σ.mu s.heap v d) : St (X.into A' fd f s.heap.objs.size) ⟨loc0, σ.hp⟩ h₀ := by
  have x : Ext X.env.locals X.prot σ.mu s.heap σ.mu h₀ := Ext.keeps st.protOff k
  have bn : X.base.get? s.heap.objs.size = none := by
    cases q : X.base.get? s.heap.objs.size with
    | none => rfl
    | some o => exact absurd (Heap.lt_size (st.base _ o q)) (Nat.lt_irrefl _)
  refine ⟨fun b o e => k b o (st.base b o e), ⟨m, hn, fun y d e => let ⟨v, q, r⟩ := hm y d e; ⟨v, q, r.mono x⟩⟩, fun a o e => ?_, new_off (σ := σ) st, fun a ha => ?_, fun e he => ?_⟩
  · obtain ⟨y, z⟩ := st.own a o e
    obtain ⟨ob, g⟩ := y.there
    exact ⟨y.mono x ((k a ob g).trans g.symm), z⟩
  · obtain ⟨z, o, vs, g, d⟩ := st.prot a ha
    exact ⟨z, o, vs, k a o g, d⟩
  · rcases List.mem_cons.mp he with rfl | he
    · obtain ⟨o, es, ep, g, d, _⟩ := hn
      exact ⟨by show fd.scope.kind ≠ .module; rw [hf.kind]; decide, _, o, es, ep, rfl, bn, new_off (σ := σ) st, g, d⟩
    · obtain ⟨z, L, o, es, ep, hfr, hb, hmu, g, d⟩ := st.frs e he
      exact ⟨z, L, o, es, ep, hfr, hb, hmu, k L o g, d⟩
theorem post_back {A' : Around} {fd : FuncData} {f : Addr} {s s' : Shared} {h₀ : Heap} {loc0 : List (Str × V)} {tk : Nat} {σ' : S} (st : St X σ s.heap) (k : ∀ b o, s.heap.get? b = some o → h₀.get? b = some o)
    (P : Post (X.into A' fd f s.heap.objs.size) ⟨loc0, σ.hp⟩ { s with heap := h₀, toks := tk } σ' s') : Post X σ s ⟨σ.loc, σ'.hp⟩ s' := by
  obtain ⟨h', tk', e⟩ := P.upd
  have lt : ∀ a o, s.heap.get? a = some o → a ≠ s.heap.objs.size := fun a o g => Nat.ne_of_lt (Heap.lt_size g)
  have x : Ext X.env.locals X.prot σ.mu s.heap σ'.mu s'.heap := ⟨fun a o g nm q => P.ext.seq a o (k a o g) nm q, fun a o g nm l q => P.ext.obj a o (k a o g) nm (lt a o g) q, fun a ha o g => P.ext.watch a ha o (k a o g)⟩
  refine ⟨⟨h', tk', e⟩, x, ⟨P.st.base, ?_, P.st.own, ?_, P.st.prot, fun e he => P.st.frs e (.tail _ he)⟩⟩
  · obtain ⟨m, hn, hm⟩ := st.names
    obtain ⟨o, es, ep, g, d, r⟩ := hn
    obtain ⟨_, sl, g'⟩ := P.ext.obj _ o (k _ o g) st.locOff (lt _ o g) fun vs q => by rw [d] at q; cases q
    exact ⟨m, ⟨_, es, ep, g', d, r⟩, fun y d e => let ⟨v, q, r⟩ := hm y d e; ⟨v, q, r.mono x⟩⟩
  · obtain ⟨m, ⟨o, es, ep, g, d, r⟩, hm⟩ := st.names
    exact (P.ext.obj _ o (k _ o g) st.locOff (lt _ o g) fun vs q => by rw [d] at q; cases q).1
noncomputable def retV : FV → V
  | .ret d => d
  | _ => .none
theorem code_fn {fd : FuncData} {f : Addr} {body : List Stmt} {A' : Around} {R : Result → Shared → Prop} {s : Shared} {args : Args} {binds : List (Str × Value)} {loc0 : List (Str × V)} {Qb : FV → S → Prop} {Eb : Value → S → Prop}
    (ok : Ok X (n + 1)) (hf : FnIs X.K f fd body) (hA : Under X A') (st : St X σ s.heap) (hb : BindsTo s fd args binds) (hl : ∀ y ∈ binds, fd.scope.names.lookup y.1 = some .local)
    (hm : ∀ x d, lk loc0 x = some d → ∃ v, binds.reverse.lookup x = some v ∧ VM σ.mu s.heap v d)
    (h : ∀ L, Ok (X.into A' fd f L) n → WXs (X.into A' fd f L) body ⟨loc0, σ.hp⟩ Qb Eb)
    (ret : ∀ v s' fl σ', Post X σ s ⟨σ.loc, σ'.hp⟩ s' → VM σ'.mu s'.heap v (retV fl) → Qb fl σ' → R (.ok (.ret v)) s')
    (exc : ∀ e s' cls σ', Post X σ s ⟨σ.loc, σ'.hp⟩ s' → ExcAt X σ'.mu s'.heap e cls → Eb cls σ' → R (.error (.ref e)) s') : codeAny (model X.prog X.w) A' (.call (.ref f) args) R s := by
  obtain ⟨oc, od, osl, hat⟩ := hf.at_
  have inK := ok.inK.keeps st.base
  have hroom : A'.depth < recursionLimit := by have := ok.depth; have := hA.depth; omega
  refine codeAny_call_def (fd := fd) (body := body) (binds := binds) hroom (inK _ _ hat) rfl (ok.top.nolimit.keeps st.base) (codeRec_of inK hf.code) hf.body hb hf.cell hl (fun h₀ hn hk => ?_) hf.co hf.gen hf.kind
  have bL : X.base.objs.size ≤ s.heap.objs.size := by
    obtain ⟨m, hn, _⟩ := st.names
    exact Nat.le_trans ok.above (Nat.le_of_lt hn.lt)
  have pL : s.heap.objs.size ∉ X.prot := fun hp => by
    obtain ⟨_, o, vs, g, _⟩ := st.prot _ hp
    exact absurd (Heap.lt_size g) (Nat.lt_irrefl _)
  have ok' := ok_into (L := s.heap.objs.size) ok hf hA bL pL
  have st' := enter (A' := A') hf st hn hk hm
  refine wpAny_mono (h s.heap.objs.size ok' _ st') (fun fl s' q => ?_) fun e s' q => ?_
  · obtain ⟨g, σ', P, r, q⟩ := q
    have P' := post_back st hk P
    refine ret _ s' g σ' P' ?_ q
    cases fl <;> cases g <;> first | exact r.elim | exact VM.none | exact r
  · obtain ⟨ea, cls, σ', P, rfl, x, q⟩ := q
    refine leave_any ok' rfl P.st x fun h' P₂ x₂ => ?_
    have P' := post_back st hk (P.trans P₂)
    refine exc ea _ cls σ' P' ?_ q
    obtain ⟨a, b, oe, vs, a0, T, oT, ts, g, c, d, v0, v1, bT, pT, ne, gT, dT, v3⟩ := x₂
    exact ⟨a, b, oe, vs, a0, g, c, d, v0, .inr ⟨T, oT, ts, v1, bT, pT, ne, gT, dT, .inl v3⟩⟩
noncomputable def Call (X : Cx) (f : Value) (ds : List V) (σ : S) (Q : V → S → Prop) (E : Value → S → Prop) : Prop :=
  ∀ vs s, St X σ s.heap → VMs σ.mu s.heap vs ds → wpAny (model X.prog X.w) X.A (call f vs) (Qw X σ s VM Q) (Ew X σ s E) s
theorem Call.fn {fd : FuncData} {f : Addr} {body : List Stmt} {ds : List V} {loc0 : List (Str × V)} {Q : V → S → Prop} (ok : Ok X (n + 1)) (hf : FnIs X.K f fd body)
    (hb : ∀ vs s, St X σ s.heap → VMs σ.mu s.heap vs ds → ∃ binds, BindsTo s fd ⟨vs, []⟩ binds ∧ (∀ y ∈ binds, fd.scope.names.lookup y.1 = some .local) ∧ (∀ x d, lk loc0 x = some d → ∃ v, binds.reverse.lookup x = some v ∧ VM σ.mu s.heap v d))
    (h : ∀ L, Ok (X.into X.A fd f L) n → WXs (X.into X.A fd f L) body ⟨loc0, σ.hp⟩ (fun fl σ' => Q (retV fl) ⟨σ.loc, σ'.hp⟩) (fun c σ' => E c ⟨σ.loc, σ'.hp⟩)) : Call X (.ref f) ds σ Q E := by
  intro vs s st vm
  obtain ⟨binds, h1, h2, h3⟩ := hb vs s st vm
  refine wpAny_call (code_fn ok hf Under.self st h1 h2 h3 h (fun v s' fl σ' P r q => ?_) fun e s' cls σ' P x q => ?_)
  · exact ⟨retV fl, _, P, r, q⟩
  · exact ⟨e, cls, _, P, rfl, x, q⟩
theorem binds_place {fd : FuncData} {names : List Str} {ds : List V} {mu : Addr → Prop} {s : Shared} (hb : ∀ vs : List Value, vs.length = names.length → BindsTo s fd ⟨vs, []⟩ (names.zip vs)) (hl : (names.all fun x => fd.scope.names.lookup x == some .local) = true) (hn : names.Nodup) (hlen : ds.length = names.length)
    {vs : List Value} (vm : VMs mu s.heap vs ds) : ∃ binds, BindsTo s fd ⟨vs, []⟩ binds ∧ (∀ y ∈ binds, fd.scope.names.lookup y.1 = some .local) ∧ (∀ x d, lk (names.zip ds) x = some d → ∃ v, binds.reverse.lookup x = some v ∧ VM mu s.heap v d) := by
  refine ⟨names.zip vs, hb vs (vm.length.trans hlen), fun y hy => ?_, fun x d e => ?_⟩
  · have := List.all_eq_true.mp hl y.1 (List.of_mem_zip hy).1
    simpa using this
  · have rev : ∀ (l : List (Str × Value)), (l.map (·.1)).Nodup → ∀ x v, (x, v) ∈ l → l.reverse.lookup x = some v := by
      intro l hnd x v hm
      have hnd' : ((l.reverse).map (·.1)).Nodup := by rw [List.map_reverse]; exact (List.reverse_perm _).nodup_iff.mpr hnd
      have hm' : (x, v) ∈ l.reverse := List.mem_reverse.mpr hm
      generalize l.reverse = r at hnd' hm'
      induction r with
      | nil => cases hm'
      | cons p r ih =>
        rw [List.map_cons, List.nodup_cons] at hnd'
        rcases List.mem_cons.mp hm' with rfl | hm'
        · simp [List.lookup]
        · have : x ≠ p.1 := fun q => hnd'.1 (q ▸ List.mem_map.mpr ⟨(x, v), hm', rfl⟩)
          rw [List.lookup_cons, show (x == p.1) = false from by simpa using this]
          exact ih hnd'.2 hm'
    have key : ∀ (ns : List Str) (vs : List Value) (ds : List V), VMs mu s.heap vs ds → ns.length = ds.length → lk (ns.zip ds) x = some d → ∃ v, (x, v) ∈ ns.zip vs ∧ VM mu s.heap v d := by
      intro ns
      induction ns with
      | nil => intro vs ds _ _ e; simp [lk] at e
      | cons y ns ih =>
        intro vs ds vm hl e
        cases vm with
        | nil => simp at hl
        | @cons v vs d' ds a r =>
          by_cases q : x = y
          · subst q
            simp [lk, List.lookup] at e
            subst e
            exact ⟨v, by simp, a⟩
          · have e' : lk (ns.zip ds) x = some d := by
              simp only [lk, List.zip_cons_cons, List.lookup_cons, show (x == y) = false from by simpa using q] at e
              exact e
            obtain ⟨w, hm, wm⟩ := ih vs ds r (by simpa using hl) e'
            exact ⟨w, by simp [hm], wm⟩
    obtain ⟨v, hm, wm⟩ := key names vs ds vm hlen.symm e
    refine ⟨v, rev _ ?_ x v hm, wm⟩
    rw [List.map_fst_zip (by rw [vm.length, hlen]; exact Nat.le_refl _)]
    exact hn
noncomputable def Keeps (X : Cx) (f : Value) : Prop := ∀ h, X.K.In h → ∃ k, (k = Keeper.frame ∨ k = Keeper.machine ∨ k = Keeper.boundFrame) ∧ Looks (model X.prog X.w) h (keeperOf f) k
theorem keeps_of {f : Value} (e : keepIn X.K f = true) : Keeps X f := fun h x => keeps_K e h x
theorem keeps_builtin {id : String} : Keeps X (.builtin id) := fun _ _ => ⟨.machine, .inr (.inl rfl), Looks.of_pure rfl⟩
theorem keeps_type {id : String} : Keeps X (.type id) := fun _ _ => ⟨.machine, .inr (.inl rfl), Looks.of_pure rfl⟩
theorem call_with {pos : Pos} {f : Value} {first : List Value} {fd : List V} {trees : List (Bool × Sem Value)} {Q : V → S → Prop} (ok : Ok X n) (hk : Keeps X f) (hplain : trees.any (·.1) = false)
    (h : W X (spliced trees) VMs σ (fun ds σ₂ => Call X f (fd ++ ds) σ₂ Q E) E) {σ₀ : S} {s₀ s : Shared} (P : Post X σ₀ s₀ σ s) (fm : VMs σ.mu s.heap first fd) :
    wpAny (model X.prog X.w) X.A (callWith pos f first trees []) (Qw X σ₀ s₀ VM Q) (Ew X σ₀ s₀ E) s := by
  have fin : ∀ {A : Around}, A = X.A → wpAny (model X.prog X.w) A (evalArgs f true trees []) (fun a s₁ => X.K.In s₁.heap ∧ wpAny (model X.prog X.w) A (call f (first ++ a.pos) a.kw) (Qw X σ₀ s₀ VM Q) (Ew X σ₀ s₀ E) s₁) (Ew X σ₀ s₀ E) s := by
    rintro A rfl
    have main : wpAny (model X.prog X.w) X.A (spliced trees) (fun vs s₁ => X.K.In s₁.heap ∧ wpAny (model X.prog X.w) X.A (call f (first ++ vs) []) (Qw X σ₀ s₀ VM Q) (Ew X σ₀ s₀ E) s₁) (Ew X σ₀ s₀ E) s :=
      h.run P fun vs s₁ ds σ₁ p₁ P₁ vm c => ⟨P₁.st.inK ok, wpAny_mono (c _ s₁ P₁.st ((fm.mono p₁.ext).append vm)) (fun _ _ q => q.after P₁) fun _ _ q => q.after P₁⟩
    cases trees with
    | nil =>
      unfold evalArgs
      show wpAny _ _ (spliced [] >>= _) _ _ s
      refine wpAny_bind (wpAny_mono main (fun vs s' h' => ?_) fun _ _ x => x)
      refine wpAny_holding ?_
      exact wpAny_bind (wpAny_pure (wpAny_bind (wpAny_pure (wpAny_pure h'))))
    | cons t r =>
      obtain ⟨b, t⟩ := t
      cases b
      · exact evalArgs_plain main
      · simp at hplain
  exact callWith_of (P := X.K.In) (by rw [hplain]; rfl) hk (fin rfl)
inductive CallQ (X : Cx) (f : V) (P : Value → Prop) : Prop
  | mk (fv : Value) (e : f = .lit fv) (k : Keeps X fv) (h : P fv)
theorem W_Call {x : Str} {np pos : Pos} {args : List Expr} {Q : V → S → Prop} (ok : Ok X n)
    (h : WE X (.Name x np) σ (fun f σ₁ => CallQ X f fun fv => W X (spliced (backTo pos (starEach args X.env))) VMs σ₁ (fun ds σ₂ => Call X fv ds σ₂ Q E) E) E)
    (hplain : ∀ env, (backTo pos (starEach args env)).any (·.1) = false) : WE X (.Call (.Name x np) args [] pos) σ Q E := fun _ st =>
  wpAny_Call_NameR (h.run (Post.refl st) fun v s₁ f σ₁ _ P₁ vm h₁ => by
    obtain ⟨fv, rfl, hk, h₂⟩ := h₁
    cases vm.litI
    exact call_with (fd := []) ok hk (hplain _) h₂ P₁ .nil)
noncomputable def GetM (X : Cx) (a : V) (name : Str) (σ : S) (Q : Value → List V → S → Prop) (E : Value → S → Prop) : Prop :=
  ∀ v s pl, St X σ s.heap → VM σ.mu s.heap v a → wpAny (model X.prog X.w) X.A (getMethod v name pl) (fun r s' => ∃ ds σ', Post X σ s σ' s' ∧ VMs σ'.mu s'.heap r.2 ds ∧ Q r.1 ds σ') (Ew X σ s E) s
theorem W_Method {o : Expr} {name : Str} {apos pos : Pos} {args : List Expr} {Q : V → S → Prop} (ok : Ok X n)
    (h : WE X o σ (fun a σ₁ => GetM X a name σ₁ (fun f fd σ₂ => Keeps X f ∧ W X (spliced (backTo pos (starEach args X.env))) VMs σ₂ (fun ds σ₃ => Call X f (fd ++ ds) σ₃ Q E) E) E) E)
    (hbase : ∀ env, attributeBase o name env (eval o env) = eval o env)
    (hfew : ∀ env, ((backTo pos (starEach args env)).all (fun x => !x.1) && (backToKw pos (keywordEach [] env)).all (fun x => x.1.isSome)
      && decide (args.length + ([] : List Keyword).length + (if ([] : List Keyword).isEmpty then 0 else 1) < 30)) = true)
    (hline : (apos.endLine == pos.line) = true) (hplain : ∀ env, (backTo pos (starEach args env)).any (·.1) = false) : WE X (.Call (.Attribute o name apos) args [] pos) σ Q E := fun _ st => by
  rw [arm_eval_Call, hbase]
  refine wpAny_bind (h.run (Post.refl st) fun v s₁ a σ₁ _ P₁ vm h₁ => wpAny_bind (wpAny_standAt ?_))
  unfold methodCall calleeOf methodCallPos
  have e : methodCallForm (args.length + ([] : List Keyword).length) (backTo pos (starEach args X.env)) (backToKw pos (keywordEach [] X.env)) = true := hfew X.env
  rw [e]
  rw [if_pos rfl]
  dsimp only
  rw [hline]
  refine wpAny_bind (wpAny_holding (wpAny_mono (h₁ v s₁ _ P₁.st vm) (fun r s₂ q => ?_) fun _ _ q => q.after P₁))
  obtain ⟨ds, σ₂, P₂, rm, hk, h₃⟩ := q
  refine wpAny_bind (wpAny_pure ?_)
  exact call_with ok hk (hplain _) h₃ (P₁.trans P₂) rm
theorem getm_inst {a C dx f : Addr} {fs : List (Str × V)} {name : Str} {Q : Value → List V → S → Prop} (ok : Ok X n) (h1 : σ.hp a = some (.inst C dx)) (h2 : σ.hp dx = some (.dict fs)) (km : KMeth X.K C name f) (hd : lk fs name = none)
    (q : Q (.ref f) [.ref a] σ) : GetM X (.ref a) name σ Q E := by
  intro v s pl st vm
  obtain rfl := vm.refI
  obtain ⟨m, F, _⟩ := st.fr ok
  obtain ⟨es, k, I, en, _⟩ := inst_at st h1 h2
  exact method_inst F ok.inK I km.get km.cls km.fn (en.getL.2 hd) ⟨_, σ, Post.refl st, .cons (.ref a) .nil, q⟩
end
end Mine
namespace Mine
open PySem PySem.W PySem.Calls PySem.Spec PyProof.Rows
section
variable {X : Cx} {n : Nat} {σ : S} {E : Value → S → Prop}
noncomputable def Cx.mark (X : Cx) (e : Addr) (b : Bool) : Cx := { X with A := X.A.mark (some (.ref e)), prot := e :: X.prot, ctx := some (e, b) }
noncomputable def isB : Value → Bool
  | .type _ => true
  | _ => false
theorem st_mark {h : Heap} {e : Addr} {b : Bool} {o : Obj} {vs : Array Value} (st : St X σ h) (g : h.get? e = some o) (d : o.data = .fields vs) (hm : ¬ σ.mu e) (hb : b = true → vs[2]? = some .none) : St (X.mark e b) σ h := by
  refine ⟨st.base, st.names, st.own, st.locOff, fun a ha => ?_, st.frs⟩
  rcases List.mem_cons.mp ha with rfl | ha
  · exact ⟨hm, o, vs, g, d, fun q => hb (by cases q; rfl)⟩
  · obtain ⟨z, o', vs', g', d', c'⟩ := st.prot a ha
    refine ⟨z, o', vs', g', d', fun q => ?_⟩
    have q' : some (e, b) = some (a, true) := q
    cases q'
    rw [g] at g'
    cases g'
    rw [d] at d'
    cases d'
    exact hb rfl
theorem st_unmark {h h₀ : Heap} {e : Addr} {b : Bool} {σ₀ : S} (st : St (X.mark e b) σ h) (st₀ : St X σ₀ h₀) (w : ∀ a ∈ X.prot, ∀ o, h₀.get? a = some o → h.get? a = some o) : St X σ h :=
  ⟨st.base, st.names, st.own, st.locOff, fun a ha => by
    obtain ⟨z, _⟩ := st.prot a (.tail _ ha)
    obtain ⟨_, o, vs, g, r⟩ := st₀.prot a ha
    exact ⟨z, o, vs, w a ha o g, r⟩, st.frs⟩
theorem post_unmark {s s' : Shared} {σ' : S} {e : Addr} {b : Bool} (st : St X σ s.heap) (P : Post (X.mark e b) σ s σ' s') : Post X σ s σ' s' :=
  ⟨P.upd, ⟨P.ext.seq, P.ext.obj, fun a ha => P.ext.watch a (.tail _ ha)⟩, st_unmark P.st st fun a ha o g => (P.ext.watch a (.tail _ ha) o g).1⟩
theorem exc_unmark {mu : Addr → Prop} {h : Heap} {e e' : Addr} {b : Bool} {cls : Value} (x : ExcAt (X.mark e b) mu h e' cls) : ExcAt X mu h e' cls := by
  obtain ⟨a, pe, oe, vs, a0, g, c, d, v0, hx⟩ := x
  refine ⟨a, fun q => pe (.tail _ q), oe, vs, a0, g, c, d, v0, ?_⟩
  rcases hx with v1 | ⟨T, oT, ts, v1, bT, pT, r⟩
  · exact .inl v1
  · exact .inr ⟨T, oT, ts, v1, bT, (fun q => pT (.tail _ q)), r⟩
theorem ok_mark {e : Addr} {b : Bool} (ok : Ok X n) (he : e ≠ X.env.locals) : Ok (X.mark e b) n :=
  ⟨ok.inK, ok.top, ok.frames, ok.frame, ok.eframe, ok.kind, ok.genv, ok.benv, ok.above, (fun q => (List.mem_cons.mp q).elim (fun z => he z.symm) ok.locProt), rfl, (fun p q => by cases q; exact .head _), ok.depth, ok.units⟩
theorem came_back {s : Shared} {e : Addr} {cls : Value} (ok : Ok X n) (st : St X σ s.heap) (x : ExcTb X σ.mu s.heap e cls (rawInt X.L)) {σ₀ : S} {s₀ : Shared} (P : Post X σ₀ s₀ σ s) (q : E cls σ) :
    cameBackBy (model X.prog X.w) X.A X.env (Ew X σ₀ s₀ E) (.ref e) s := by
  have x' := x
  obtain ⟨be, pe, oe, vs, a0, T, oT, ts, g, c, d, v0, v1, bT, pT, ne, gT, dT, v3⟩ := x
  unfold cameBackBy
  refine wpAny_bind (wpAny_field g d v1 ?_)
  rw [if_neg (by simp)]
  rw [ok.eframe]
  exact set_flight (fr := some X.L) st x' fun h' P' x'' => ⟨e, cls, σ, P.trans P', rfl, x''.own, q⟩
theorem noted_back {s : Shared} {e : Addr} {cls : Value} (ok : Ok X n) (he : X.env = X.fenv) (st : St X σ s.heap) (x : ExcAt X σ.mu s.heap e cls) {σ₀ : S} {s₀ : Shared} (P : Post X σ₀ s₀ σ s) (q : E cls σ) {A : Around} (hA : A.frames = some (X.fenv :: X.outer)) :
    notedBy (model X.prog X.w) A X.env (cameBackBy (model X.prog X.w) X.A X.env (Ew X σ₀ s₀ E)) (.ref e) s := by
  unfold notedBy
  exact note_any ok he st x (fun h' P' x' => came_back ok P'.st x' (P.trans P') q) hA
noncomputable def Match (X : Cx) (cls c : Value) (b : Bool) : Prop := ∀ (A : Around) (s : Shared) (e : Addr) (oe : Obj) (Q : Bool → Shared → Prop) (E' : Value → Shared → Prop), X.K.In s.heap → s.heap.get? e = some oe → oe.cls = cls → Q b s → wpAny (model X.prog X.w) A (excMatches (.ref e) c) Q E' s
theorem match_builtin {T U : String} {b : Bool} (hexc : isSubtype (.type U) (.type "BaseException") = pure true) (hnt : isSubtype (.type ((Manifest.find? U).elim "type" fun x => x.metatype)) (.type "tuple") = pure false)
    (hsub : isSubtype (.type T) (.type U) = pure b) : Match X (.type T) (.type U) b := fun A s e oe Q E' _ g c q => wpAny_excMatches_type ⟨oe, g, c⟩ hexc hnt hsub q
theorem match_own {C D : Addr} {b : Bool} {oc : Value} {od : Option Addr} {cd : ClassData} {sl : Array (Option Value)} (ho : X.K.lookup C = some ⟨oc, od, .cls cd, sl⟩) (h1 : instIn X.K (.ref C) (.type "tuple") = some false) (h2 : subIn X.K (.ref C) (.type "BaseException") = some true) (h3 : subIn X.K (.ref D) (.ref C) = some b) :
    Match X (.ref D) (.ref C) b := fun A s e oe Q E' inK g c q => by
  obtain ⟨h, gn, dr, tk, os⟩ := s
  dsimp only at inK g
  have L1 := looks_instIn (M := model X.prog X.w) inK h1
  have L2 := looks_subIn (M := model X.prog X.w) inK h2
  have L3 := looks_subIn (M := model X.prog X.w) inK h3
  have L4 : Looks (model X.prog X.w) h (isType (.ref C)) true := (Looks.ld (inK _ _ ho)).andThen .now
  have L5 : Looks (model X.prog X.w) h (typeOf (.ref e)) (.ref D) := c ▸ (Looks.ld g).andThen .now
  unfold excMatches isExcClass
  cases b <;> (repeat (first | lk | simp only [Bool.not_true, Bool.false_eq_true, if_false, if_true])) <;> exact q
theorem WX_Try {body hbody : List Stmt} {b₀ : Stmt} {t : Expr} {hp pos : Pos} {c : Value} {Q : FV → S → Prop} (ok : Ok X n) (he : X.env = X.fenv)
    (ht : ∀ (A : Around) (σ' : S) (s : Shared) (Q' : Value → Shared → Prop) (E' : Value → Shared → Prop), St X σ' s.heap → Q' c s → wpAny (model X.prog X.w) A (eval t X.env) Q' E' s)
    (h : WXs X body σ Q (fun cls σ' => ∃ b, Match X cls c b ∧ if b then ∀ e, Ok (X.mark e (isB cls)) n → WXs (X.mark e (isB cls)) (b₀ :: hbody) σ' Q E else E cls σ')) :
    WX X (.Try body [.ExceptHandler (some t) none (b₀ :: hbody) hp] [] [] pos) σ Q E := fun s st => by
  refine wpAny_Try_except (wpAny_mono (h s st) (fun f s₁ q => ?_) fun e s₁ q => ?_)
  · obtain ⟨g, σ₁, P₁, r, q⟩ := q
    cases f <;> cases g <;> first | exact r.elim | exact wpAny_execs_nil (⟨FV.next, σ₁, P₁, trivial, q⟩ : Qw X σ s FM Q Flow.next s₁) | exact ⟨_, _, P₁, r, q⟩
  · obtain ⟨ea, cls, σ₁, P₁, rfl, x, b, hm, q⟩ := q
    refine note_any ok he P₁.st x (fun h₂ P₂ x₂ => ?_) ok.frames
    refine set_flight (fr := none) P₂.st x₂ fun h₃ P₃ x₃ => ?_
    have P := (P₁.trans P₂).trans P₃
    have x₃' := x₃
    obtain ⟨be, pe, oe, vs, a0, T, oT, ts, g, cc, d, v0, v1, bT, pT, ne, gT, dT, v3⟩ := x₃
    refine wpAny_handleBy_cons (codeAny_handlers_test (ht _ σ₁ _ _ _ P₃.st ?_)) (by intro q; cases q)
    refine hm _ _ ea oe _ _ (P₃.st.inK ok) g cc ?_
    cases b
    · simp only [Bool.false_eq_true, if_false] at q ⊢
      refine wpAny_handleBy_nil ?_
      unfold PySem.passOn
      refine wpAny_bind (wpAny_field g d v1 ?_)
      rw [if_neg (by simp)]
      rw [ok.eframe]
      refine wpAny_bind (set_flight (fr := some X.L) P₃.st x₃' fun h₄ P₄ x₄ => wpAny_throw ?_)
      exact ⟨ea, cls, σ₁, P.trans P₄, rfl, x₄.own, q⟩
    · simp only [if_true] at q ⊢
      refine codeAny_handlers_suite ?_
      refine set_flight (fr := none) P₃.st x₃' fun h₄ P₄ x₄ => ?_
      have PP := P.trans P₄
      obtain ⟨bm', _, oe', vs', _, T', _, _, g', _, d', ⟨_, c0⟩, _⟩ := x₄
      have eL : ea ≠ X.env.locals := fun z => by
        obtain ⟨m, ⟨oL, es, ep, gL, dL, _⟩, _⟩ := P₄.st.names
        rw [← z] at gL
        have : some oe' = some oL := g'.symm.trans gL
        cases this
        rw [d'] at dL; cases dL
      refine wpAny_mono (q ea (ok_mark ok eL) _ (st_mark P₄.st g' d' bm'.2 fun z => c0 (by cases cls <;> first | exact ⟨_, rfl⟩ | cases z))) (fun f s₅ q => ?_) fun e' s₅ q => ?_
      · obtain ⟨gv, σ₅, P₅, r, q⟩ := q
        exact ⟨gv, σ₅, PP.trans (post_unmark P₄.st P₅), r, q⟩
      · obtain ⟨e₅, cls₅, σ₅, P₅, rfl, x₅, q⟩ := q
        exact noted_back ok he (post_unmark P₄.st P₅).st (exc_unmark x₅) (PP.trans (post_unmark P₄.st P₅)) q ok.frames
end
end Mine
namespace Mine
open PySem PySem.W PySem.Calls PySem.Spec PyProof.Rows
section
variable {X : Cx} {n : Nat} {σ : S} {E : Value → S → Prop}
theorem post_drop {s s' : Shared} {σ' : S} {hp : Addr → Option HO} {loc : List (Str × V)} (P : Post X σ s σ' s') (h : ∀ a o, hp a = some o → σ'.hp a = some o) (hl : ∀ x d, lk loc x = some d → lk σ'.loc x = some d) : Post X σ s ⟨loc, hp⟩ s' := by
  have nm : ∀ a, ¬ σ'.mu a → ¬ S.mu ⟨loc, hp⟩ a := fun a n m => by
    cases q : hp a with
    | none => exact m q
    | some o => exact n (by show σ'.hp a ≠ none; rw [h a o q]; exact Option.some_ne_none _)
  have x : Ext X.env.locals X.prot σ'.mu s'.heap (S.mu ⟨loc, hp⟩) s'.heap := ⟨fun a o e n _ => ⟨e, nm a n⟩, fun a o e n _ _ => ⟨nm a n, o.slots, e⟩, fun a ha _ e => ⟨e, nm a (P.st.protOff a ha)⟩⟩
  refine ⟨P.upd, P.ext.trans x, ⟨P.st.base, ?_, fun a o e => ?_, nm _ P.st.locOff, fun a ha => ⟨nm a (P.st.protOff a ha), (P.st.prot a ha).2⟩, fun e he => ?_⟩⟩
  · obtain ⟨m, hn, hm⟩ := P.st.names
    exact ⟨m, hn, fun y d e => let ⟨v, q, r⟩ := hm y d (hl y d e); ⟨v, q, r.mono x⟩⟩
  · obtain ⟨y, z⟩ := P.st.own a o (h a o e)
    exact ⟨y.mono x rfl, z⟩
  · obtain ⟨z, L, o, es, ep, hf, hn, hm, g, d⟩ := P.st.frs e he
    exact ⟨z, L, o, es, ep, hf, hn, nm L hm, g, d⟩
theorem vm_drop {σ' : S} {hp : Addr → Option HO} {loc : List (Str × V)} {h : Heap} {v : Value} {d : V} (y : VM σ'.mu h v d) (k : ∀ a o, hp a = some o → σ'.hp a = some o) : VM (S.mu ⟨loc, hp⟩) h v d := by
  refine y.mono (L := 0) (prot := []) ⟨fun a o e n _ => ⟨e, fun m => ?_⟩, fun a o e n _ _ => ⟨fun m => ?_, o.slots, e⟩, fun a ha => nomatch ha⟩ <;>
  · cases q : hp a with
    | none => exact m q
    | some o => exact n (by show σ'.hp a ≠ none; rw [k a o q]; exact Option.some_ne_none _)
structure KExc (K : Frag) (C : Addr) : Prop where
  cls : ∃ oc od cd sl, K.lookup C = some ⟨oc, od, .cls cd, sl⟩
  base : subIn K (.ref C) (.type "BaseException") = some true
  type : typeIn K (.ref C) = some (.type "type")
theorem entry_unchain : entryFor table "proto.unchain" = some Builtin.«proto.unchain» := entryFor_of_tree (by kernel_rfl)
theorem upd_same {hp : Addr → Option HO} {a : Addr} {o : HO} (h : hp a = some o) : upd hp a o = hp := by
  funext b; unfold upd; split
  · rename_i e; rw [e, h]
  · rfl
theorem exc_field {s : Shared} {a C : Addr} {vs : Array Value} {a0 x : Value} {od : Option Addr} {i : Nat} {Q : Unit → Shared → Prop} {E' : Value → Shared → Prop} {A : Around} (ok : Ok X n) (st : St X σ s.heap) (h1 : σ.hp a = some (.exc C od))
    (g : s.heap.get? a = some { cls := .ref C, dict := od, data := .fields vs }) (v0 : vs[0]? = some a0) (v1 : vs[1]? = some .none) (v6 : vs.size = 6) (hi : i < 6) (hi1 : i ≠ 1)
    (h : ∀ h' b0, Post X σ s σ { s with heap := h' } → h'.get? a = some { cls := .ref C, dict := od, data := .fields (vs.setIfInBounds i x) } → (vs.setIfInBounds i x)[0]? = some b0 → (vs.setIfInBounds i x)[1]? = some .none → (vs.setIfInBounds i x).size = 6 → Q () { s with heap := h' }) :
    wpAny (model X.prog X.w) A (setField (.ref a) i x) Q E' s := by
  have other : ∀ b, b ≠ a → (s.heap.update a (Obj.mapFields (·.setIfInBounds i x))).get? b = s.heap.get? b := fun b hb => Heap.get?_update_other _ _ (Ne.symm hb)
  have g' : (s.heap.update a (Obj.mapFields (·.setIfInBounds i x))).get? a = some { cls := .ref C, dict := od, data := .fields (vs.setIfInBounds i x) } := Heap.get?_update_self _ g rfl
  have w1 : (vs.setIfInBounds i x)[1]? = some .none := by rw [Array.getElem?_setIfInBounds_ne hi1]; exact v1
  have w6 : (vs.setIfInBounds i x).size = 6 := by rw [Array.size_setIfInBounds]; exact v6
  obtain ⟨b0, w0⟩ : ∃ b0, (vs.setIfInBounds i x)[0]? = some b0 := ⟨_, Array.getElem?_eq_getElem (by rw [w6]; decide)⟩
  refine wpAny_setField g rfl (by rw [v6]; exact hi) (h _ b0 ?_ g' w0 w1 w6)
  obtain ⟨m, hn, hm⟩ := st.names
  have aL : X.env.locals ≠ a := fun e => st.locOff (by rw [e]; show σ.hp a ≠ none; rw [h1]; exact Option.some_ne_none _)
  have P := post_write (h' := s.heap.update a (Obj.mapFields (·.setIfInBounds i x))) (tk := s.toks) (a := a) (o := .exc C od) ok st (fun b o n1 _ q => (other b n1).trans q) ⟨m, hn.at' (fun o q => (other _ aL).trans q), hm⟩ (.inl (by rw [h1]; exact Option.some_ne_none _))
    fun _ _ _ => ⟨_, b0, g', w0, w1, w6⟩
  rwa [upd_same h1] at P
theorem raise_new {s : Shared} {a C : Addr} {vs : Array Value} {a0 : Value} {od : Option Addr} {σ₀ : S} {s₀ : Shared} {hp : Addr → Option HO} (ok : Ok X n) (P : Post X σ₀ s₀ σ s) (h1 : σ.hp a = some (.exc C od)) (g : s.heap.get? a = some { cls := .ref C, dict := od, data := .fields vs })
    (v0 : vs[0]? = some a0) (v1 : vs[1]? = some .none) (v6 : vs.size = 6) (hs : ∀ b o, hp b = some o → σ.hp b = some o) (ha : hp a = none) (hctx : ∀ p, X.ctx = some p → p.2 = true) (q : E (.ref C) ⟨σ.loc, hp⟩) :
    wpAny (model X.prog X.w) X.A (raiseNew (.ref a) : Sem Flow) (Qw X σ₀ s₀ FM (fun _ _ => False)) (Ew X σ₀ s₀ E) s := by
  have am : σ.mu a := by show σ.hp a ≠ none; rw [h1]; exact Option.some_ne_none _
  have prot : a ∉ X.prot := fun hp' => P.st.protOff a hp' am
  have bn := (P.st.own a _ h1).2
  have fin : ∀ s₁, Post X σ₀ s₀ σ s₁ → ∀ vs b0, s₁.heap.get? a = some { cls := .ref C, dict := od, data := .fields vs } → vs[0]? = some b0 → vs[1]? = some .none → Ew X σ₀ s₀ E (.ref a) s₁ := fun s₁ P vs b0 g v0 v1 =>
    ⟨a, .ref C, ⟨σ.loc, hp⟩, post_drop P hs fun _ _ e => e, rfl, ⟨⟨bn, fun m => m ha⟩, prot, _, vs, b0, g, rfl, rfl, ⟨v0, fun ⟨T, e⟩ => by cases e⟩, .inl v1⟩, q⟩
  unfold raiseNew
  refine wpAny_bind (wpAny_handled ?_)
  rw [ok.handled]
  cases hc : X.ctx with
  | none => exact wpAny_bind (wpAny_pure (wpAny_throw (fin s P vs a0 g v0 v1)))
  | some p =>
    obtain ⟨hA, b⟩ := p
    obtain rfl : b = true := hctx _ hc
    obtain ⟨nm, o, ws, gh, dh, ch⟩ := P.st.prot hA (ok.ctxIn _ hc)
    have hne : hA ≠ a := fun e => nm (e ▸ am)
    dsimp only [Option.map]
    rw [if_pos (show (Value.ref hA != Value.ref a) = true from by simpa using hne)]
    refine wpAny_bind (wpAny_holding (wpAny_runValue (codeAny_builtin entry_unchain ?_)))
    unfold Builtin.«proto.unchain»
    dsimp only
    refine wpAny_bind (wpAny_field gh dh (ch hc) ?_)
    rw [if_pos (by simp)]
    refine wpAny_pure ?_
    refine wpAny_bind ?_
    show wpAny _ _ (setField (.ref a) 2 (.ref hA)) _ _ _
    refine exc_field ok P.st h1 g v0 v1 v6 (by decide) (by decide) fun h' b0 P' g' w0 w1 _ => wpAny_throw (fin _ (P.trans P') _ b0 g' w0 w1)
inductive RaiseQ (X : Cx) (E : Value → S → Prop) (d : V) (σ₁ : S) : Prop
  | mk (a C : Addr) (od : Option Addr) (hp : Addr → Option HO) (e : d = .ref a) (h1 : σ₁.hp a = some (.exc C od)) (kx : KExc X.K C) (hs : ∀ b o, hp b = some o → σ₁.hp b = some o) (ha : hp a = none) (q : E (.ref C) ⟨σ₁.loc, hp⟩)
theorem WX_RaiseFrom {e : Expr} {k : Nat} {p' pos : Pos} {Q : FV → S → Prop} (ok : Ok X n) (hctx : ∀ p, X.ctx = some p → p.2 = true)
    (h : WE X e σ (RaiseQ X E) E) :
    WX X (.Raise (some e) (some (.Constant .none k p')) pos) σ Q E := fun s st => by
  rw [arm_exec_Raise]
  refine wpAny_bind (wpAny_standAt ?_)
  unfold raiseStmt
  show wpAny _ _ ((do let v ← eval e X.env; standAt pos; pure v) >>= _) _ _ _
  refine wpAny_bind (wpAny_bind (h.run (Post.refl st) fun v s₁ d σ₁ _ P₁ vm h₁ => wpAny_bind (wpAny_standAt (wpAny_pure ?_))))
  obtain ⟨a, C, od, hp, rfl, h1, kx, hs, ha, q⟩ := h₁
  obtain rfl := vm.refI
  obtain ⟨⟨vs, a0, g, v0, v1, v6⟩, _⟩ := P₁.st.own a _ h1
  have inK := P₁.st.inK ok
  obtain ⟨hh, gn, dr, tk, os⟩ := s₁
  dsimp only at inK g
  have L1 : Looks (model X.prog X.w) hh (typeOf (.ref a)) (.ref C) := (Looks.ld g).andThen .now
  have L2 := looks_subIn (M := model X.prog X.w) inK kx.base
  have L3 := looks_typeIn (M := model X.prog X.w) inK kx.type
  have L4 : Looks (model X.prog X.w) hh (isType (.ref a)) false := (Looks.ld g).andThen .now
  have L6 : Looks (model X.prog X.w) hh (isExcClass (.ref a)) false := L4.andThen .now
  have L7 : Looks (model X.prog X.w) hh (isInstance (.ref a) (.type "BaseException")) true := L1.andThen L2
  have L5 : Looks (model X.prog X.w) hh (excFromValue (.ref a) "exceptions must derive from BaseException") (.ref a) := L6.andThen (L7.andThen .now)
  have L8 : Looks (model X.prog X.w) hh (raisedInstance (.ref a)) (.ref a) := L1.andThen (L3.andThen .now)
  refine wpAny_bind (wpAny_holding ?_)
  show wpAny _ _ ((do let v ← eval (.Constant .none k p') X.env; standAt pos; pure v)) _ _ _
  refine wpAny_bind (wpAny_Constant_none (wpAny_bind (wpAny_standAt (wpAny_pure (wpAny_bind (wpAny_pure ?_))))))
  refine wpAny_bind (wpAny_holding (L5.here ?_))
  dsimp only
  rw [if_pos (by rfl)]
  refine wpAny_bind (wpAny_pure ?_)
  refine wpAny_bind (exc_field ok P₁.st h1 g v0 v1 v6 (by decide) (by decide) fun h₂ b0 P₂ g₂ w0 w1 w6 => ?_)
  refine wpAny_bind (exc_field ok P₂.st h1 g₂ w0 w1 w6 (by decide) (by decide) fun h₃ c0 P₃ g₃ x0 x1 x6 => ?_)
  have P := (P₁.trans P₂).trans P₃
  have M1 : Looks (model X.prog X.w) h₃ (typeOf (.ref a)) (.ref C) := (Looks.ld g₃).andThen .now
  have M3 := looks_typeIn (M := model X.prog X.w) (P.st.inK ok) kx.type
  have M4 : Looks (model X.prog X.w) h₃ (isType (.ref a)) false := (Looks.ld g₃).andThen .now
  have M8 : Looks (model X.prog X.w) h₃ (raisedInstance (.ref a)) (.ref a) := M1.andThen (M3.andThen .now)
  refine wpAny_bind (M4.here ?_)
  rw [if_neg (by decide)]
  refine wpAny_bind (M8.here ?_)
  unfold setFlight
  refine wpAny_bind (wpAny_bind (wpAny_field g₃ rfl x1 ?_))
  rw [if_neg (by simp)]
  refine wpAny_pure ?_
  exact wpAny_mono (raise_new ok P h1 g₃ x0 x1 x6 hs ha hctx q) (fun _ _ q => by obtain ⟨_, _, _, _, z⟩ := q; exact z.elim) fun _ _ e => e
end
end Mine
namespace Mine
open PySem PySem.W PySem.Calls PySem.Spec PyProof.Rows Builtin Builtin.ObjectAttr
section
variable {X : Cx} {n : Nat} {σ : S} {E : Value → S → Prop}
theorem exc_core {prog : Program} {w : World} {A : Around} {R : Result → Shared → Prop} {h : Heap} {g : Array GenState} {d : Drawn} {t : Nat} {os : OsState}
    {nm q : Str} {C N fI : Addr} {bs bm : List Value} {hdct : Bool} {sn : List Str} {sub : List Value} {ab : Bool} {col : Option Bool} {dd : Option Addr} {k0 k1 k2 k3 k5 : Option Value} {B newId initId : String} {rest : List Value}
    (F : ExcBaseFacts B newId initId bm) (hC : h.get? C = some (excClassObj nm q C N bs bm hdct sn sub ab col dd k0 k1 k2 k3 k5 newId))
    (hcall : Looks (model prog w) h (specialOf (.ref C) "__call__") (some (.builtin "type.__call__"))) (htyp : Looks (model prog w) h (isInstance (.ref C) (.type "type")) true)
    (hself : Looks (model prog w) h (isSubtype (.ref C) (.ref C)) true)
    (hi : Looks (model prog w) h (typeLookup (.ref C) "__init__") (some (.ref fI))) (hb : ∀ self, Looks (model prog w) h (bindSpecial (.ref fI) self) (.ref fI, [self])) (hrest : rest.length ≤ sizeLine)
    (hq : codeAny (model prog w) (A.under (.builtin "type.__call__" ⟨.ref C :: rest, []⟩)) (.call (.ref fI) ⟨.ref (h.objs.size + 1) :: rest, []⟩) (InitBack (h.objs.size + 1) R)
      ⟨(h.push { cls := .type "tuple", data := .seq rest.toArray }).push { cls := .ref C, data := .fields #[.ref h.objs.size, .none, .none, .none, .bool false, .none] }, g, d, t, os⟩) :
    codeAny (model prog w) A (.call (.ref C) ⟨rest, []⟩) R ⟨h, g, d, t, os⟩ := by
  refine codeAny_of_tree ?_
  show wpAny _ _ (callAny (.ref C) _) _ _ _
  refine nd_load hC ?_
  show wpAny _ _ (callAny.viaDunder (.ref C) _) _ _ _
  unfold callAny.viaDunder
  refine wpAny_bind (hcall.at ?_)
  dsimp only
  rw [tc_bind]
  refine wpAny_bind (wpAny_pure (wpAny_bind (wpAny_pure ?_)))
  refine wpAny_pure (a := Fin.again (.call (.builtin "type.__call__") ⟨.ref C :: rest, []⟩)) (And.intro rfl ?_)
  refine codeAny_call_builtin_at (Code.quiet_builtin _ (by decide +kernel)) entry_typeCall (check_slot tc_kind tc_split htyp (tc_args _ _ _) ?_)
  have hm : Looks (model prog w) h (mroOf (.ref C)) (.ref C :: bm) := ((Looks.ld (part := none) hC).andThen .now).andThen .now
  have hmade : Looks (model prog w) h (Bind.madeBy (.ref C)) (some newId) := fun A Q E s k q => by
    obtain ⟨hh, g, d, t, os⟩ := s
    exact wpAny_madeBy_exc (k _ _ hC) q
  have tcl : (Value.ref C == Value.type "type") = false := rfl
  unfold Builtin.«type.__call__»
  dsimp only
  rw [tcl]
  simp only [Bool.false_eq_true, if_false]
  refine wpAny_bind (hm.here ?_)
  simp only [List.isEmpty_cons, Bool.false_eq_true, if_false]
  refine wpAny_bind (hmade.here ?_)
  refine wpAny_bind (wpAny_pure ?_)
  refine wpAny_bind (wpAny_holding (wpAny_call ?_))
  refine codeAny_call_builtin_code (Code.quiet_builtin _ F.quiet) (wpAny_check_new_sub F hC ?_)
  refine codeAny_exc_new_sub F hC ?_ hrest
  have k : ∀ b o, h.get? b = some o → ((h.push { cls := .type "tuple", data := .seq rest.toArray }).push { cls := .ref C, data := .fields #[.ref h.objs.size, .none, .none, .none, .bool false, .none] }).get? b = some o :=
    fun b o e => Heap.get?_push_of_some _ (Heap.get?_push_of_some _ e)
  have hx : ((h.push { cls := .type "tuple", data := .seq rest.toArray }).push { cls := .ref C, data := .fields #[.ref h.objs.size, .none, .none, .none, .bool false, .none] }).get? (h.objs.size + 1) = some
      { cls := .ref C, data := .fields #[.ref h.objs.size, .none, .none, .none, .bool false, .none] } := by heap_get
  have t1 : Looks (model prog w) ((h.push { cls := .type "tuple", data := .seq rest.toArray }).push { cls := .ref C, data := .fields #[.ref h.objs.size, .none, .none, .none, .bool false, .none] }) (typeOf (.ref (h.objs.size + 1))) (.ref C) := (Looks.ld hx).andThen .now
  have s1 := hself.keeps k
  have i1 := hi.keeps k
  have b1 := (hb (.ref (h.objs.size + 1))).keeps k
  have ii : Looks (model prog w) ((h.push { cls := .type "tuple", data := .seq rest.toArray }).push { cls := .ref C, data := .fields #[.ref h.objs.size, .none, .none, .none, .bool false, .none] }) (isInstance (.ref (h.objs.size + 1)) (.ref C)) true := t1.andThen s1
  refine wpAny_bind (ii.at ?_)
  simp only [Bool.not_true, Bool.false_eq_true, if_false]
  unfold callSpecial? specialOf
  repeat (first | with_reducible refine wpAny_call ?_ | lk)
  refine codeAny_mono hq fun r s' z => ?_
  rcases r with e | (v | _ | _ | _) <;> first | exact z | exact z.elim | skip
  obtain ⟨rfl, z⟩ := z
  exact wpAny_pure (wpAny_pure z)
theorem store_in_dict {prog : Program} {w : World} {A : Around} {s : Shared} {E' : Value → Shared → Prop} {Q : Fin → Shared → Prop} {d : Addr} {es : List DictEntry} {k : Nat} {name : Str} {tk : Tok} {v : Value} (D : s.heap.get? d = some (dictOf es k)) (hl : (PySem.W.getL name es).isSome = true)
    (hz : (putL name (PyData.keyHash w.params name) (.str name s.toks) v es).length ≤ 1000)
    (h : ∀ h', Heap.SameBut d s.heap h' → h'.get? d = some (dictOf (putL name (PyData.keyHash w.params name) (.str name s.toks) v es) (putN name es k)) → Q (.done (.ret .none)) { s with heap := h', toks := s.toks + 1 }) :
    wpAny (model prog w) A (storeInDict d (.str name tk) name v) Q E' s := by
  have D' : (s.heap.update d (Obj.putName name (PyData.keyHash w.params name) (.str name s.toks) v)).get? d = some (dictOf (putL name (PyData.keyHash w.params name) (.str name s.toks) v es) (putN name es k)) := by
    rw [← putName_dict]
    exact Heap.get?_update_self _ D (by rw [putName_dict]; rfl)
  unfold storeInDict
  refine wpAny_bind (wpAny_pure (wpAny_bind ?_))
  unfold nsSet
  refine wpAny_bind (wpAny_bind (wpAny_askSetting (wpAny_pure (wpAny_bind (wpAny_mkText (wpAny_bind (wpAny_loadPart D ?_)))))))
  have hl' := hl
  unfold PySem.W.getL at hl
  have c : (!es.any (·.key.isStr name) && es.any (·.refKey)) = false := by
    split at hl
    · rename_i en he
      rw [List.any_eq_true.mpr ⟨en, List.mem_of_find?_eq_some he, List.find?_some he⟩]; rfl
    · split at hl
      · cases hl
      · rename_i z; rw [Bool.not_eq_true] at z; rw [z, Bool.and_false]
  have c' : (!es.toArray.any (·.key.isStr name) && es.toArray.any (·.refKey)) = false := by
    rw [← Array.any_toList, ← Array.any_toList]; exact c
  dsimp only
  rw [aRefKeyMayBeTheName_at, c']
  refine wpAny_updatePart D ?_
  refine wpAny_bind (wpAny_lookBehind D' (pastItsLine_dict (by rw [List.size_toArray, sizeLine_eq]; omega)) ?_)
  exact wpAny_pure (h _ (Heap.SameBut.update ..) D')
structure KExcSet (K : Frag) (C : Addr) (name : Str) : Prop where
  set : findIn K (.ref C) "__setattr__" = some (some (.builtin "object.__setattr__"))
  cls : ∃ cd, clsIn K C = some cd ∧ cd.hasDict = true ∧ ∀ self, refuseLoop self "__setattr__" cd.mro = pure ()
  obj : mroIn K C (.type "object") = some true
  taker : takerIn K C name = some none
theorem osa_exc {prog : Program} {w : World} {A : Around} {R : Result → Shared → Prop} {s : Shared} {K : Frag} {x C : Addr} {ox : Obj} {od : Option Obj} {name : Str} {tk : Tok} {v : Value} (X : K.In s.heap) (I : InstAt s.heap x ox C od) (k : KExcSet K C name)
    (h : ∀ b, wpAny (model prog w) A.in1 (storeInOwnDict (.ref x) (.ref C) (.str name tk) name v b)
      (fun fin s' => match fin with | .done f => R (.ok f) s' | .again c' => c'.quiet = true ∧ codeAny (model prog w) A c' R s') (fun e s' => R (.error e) s') s) :
    codeAny (model prog w) A (.call (.builtin "object.__setattr__") ⟨[.ref x, .str name tk, v], []⟩) R s := by
  have SF := PySem.F.store_object
  obtain ⟨cd, hc, hdct, ho⟩ := k.cls
  have sub : Looks (model prog w) s.heap (isInstance (.ref x) (.type "object")) true := I.type.andThen (looks_mroIn X k.obj)
  refine codeAny_call_builtin SF.slot.plain SF.entry (@check_slot (model prog w) _ _ s "object.__setattr__" "object" "__setattr__" (.ref x) [.str name tk, v] [] _ SF.kind SF.split sub (SF.args (.ref x) (.str name tk) v) ?_)
  obtain ⟨attr, ha, hr⟩ := Option.bind_eq_some_iff.mp k.taker
  have hm : Looks (model prog w) s.heap (mroOf (.ref C)) cd.mro := (looks_clsIn X hc).andThen .now
  have L3 : Looks (model prog w) s.heap (storeTaker? attr) none := by
    cases attr with
    | none => cases hr; exact .now
    | some a =>
      obtain ⟨b, hb, e⟩ := Option.map_eq_some_iff.mp hr
      refine (looks_takesIn X hb).andThen ?_
      cases b
      · exact .now
      · cases e
  rw [osa_eq, refuse_eq]
  refine wpAny_bind (wpAny_bind (I.type.here (wpAny_bind (hm.here ?_))))
  rw [ho]
  refine wpAny_pure (wpAny_bind (I.type.here (wpAny_bind ((looks_findIn X ha).here (wpAny_bind (L3.here ?_))))))
  exact h _
theorem set_exc1 {a C d : Addr} {fs : List (Str × V)} {name : Str} {dv : V} {Q : Unit → S → Prop} (ok : Ok X n) (h1 : σ.hp a = some (.exc C (some d))) (h2 : σ.hp d = some (.dict fs)) (ks : KExcSet X.K C name)
    (hlen : fs.length ≤ 90) (q : Q () { σ with hp := upd σ.hp d (.dict (updF fs name dv)) }) {σ₀ : S} {s₀ s : Shared} (P : Post X σ₀ s₀ σ s) {v : Value} (vm : VM σ.mu s.heap v dv) :
    wpAny (model X.prog X.w) X.A (setAttr (.ref a) name v) (Qw X σ₀ s₀ RU Q) (Ew X σ₀ s₀ E) s := by
  have st := P.st
  obtain ⟨⟨vs, a0, g1, v0, v1, v6⟩, _⟩ := st.own a _ h1
  obtain ⟨⟨es, k, g2, en, _⟩, _⟩ := st.own d _ h2
  have I : InstAt s.heap a { cls := .ref C, dict := some d, data := .fields vs } C (some (dictOf es k)) := ⟨g1, rfl, rfl, g2⟩
  have inK := st.inK ok
  refine set_plain inK I ks.set ?_
  obtain ⟨cd, hc, hdct, _⟩ := ks.cls
  refine osa_exc (s := { s with toks := s.toks + 1 }) inK I ks fun b => ?_
  have hl : (PySem.W.getL name es).isSome = true := by
    cases e : lk fs name with
    | none => rw [en.getL.2 e]; rfl
    | some d' => obtain ⟨w, e', _⟩ := en.getL.1 d' e; rw [e']; rfl
  have el := en.length
  have en' := en.put (name := name) (hs := PyData.keyHash X.w.params name) (tk := s.toks + 1) vm
  have el' := en'.length
  have ul := updF_length fs name dv
  refine wpAny_bind (wpAny_pure (wpAny_bind (wpAny_bind (wpAny_loadPart (o := { cls := .ref C, dict := some d, data := .fields vs }) g1 ?_))))
  dsimp only
  refine wpAny_bind (looks_clsIn inK hc _ _ _ _ (fun _ _ e => e) ?_)
  rw [hdct]
  refine wpAny_pure (a := some d) ?_
  refine store_in_dict (s := { s with toks := s.toks + 1 }) g2 hl (by show (putL name (PyData.keyHash X.w.params name) (.str name (s.toks + 1)) v es).length ≤ 1000; omega) fun h' hs g' => ?_
  obtain ⟨m, hn, hm⟩ := st.names
  have dL : X.env.locals ≠ d := fun e => st.locOff (by rw [e]; show σ.hp d ≠ none; rw [h2]; exact Option.some_ne_none _)
  exact ⟨(), _, P.trans (post_write (o := .dict (updF fs name dv)) ok st (fun b o n1 _ q => (hs.2 b n1).trans q) ⟨m, hn.at' (fun o q => (hs.2 _ dL).trans q), hm⟩ (.inl (by rw [h2]; exact Option.some_ne_none _)) fun _ me _ => ⟨_, _, g', me _ _ en', Nat.le_trans (Nat.le_of_eq el') (by omega)⟩), trivial, q⟩
theorem set_exc0 {a C : Addr} {name : Str} {dv : V} {Q : Unit → S → Prop} (ok : Ok X n) (h1 : σ.hp a = some (.exc C none)) (ks : KExcSet X.K C name)
    (q : ∀ d, σ.hp d = none → Q () { σ with hp := upd (upd σ.hp a (.exc C (some d))) d (.dict [(name, dv)]) }) {σ₀ : S} {s₀ s : Shared} (P : Post X σ₀ s₀ σ s) {v : Value} (vm : VM σ.mu s.heap v dv) :
    wpAny (model X.prog X.w) X.A (setAttr (.ref a) name v) (Qw X σ₀ s₀ RU Q) (Ew X σ₀ s₀ E) s := by
  have st := P.st
  obtain ⟨⟨vs, a0, g1, v0, v1, v6⟩, _⟩ := st.own a _ h1
  have I : InstAt s.heap a { cls := .ref C, dict := none, data := .fields vs } C none := ⟨g1, rfl, rfl, trivial⟩
  have inK := st.inK ok
  refine set_plain inK I ks.set ?_
  obtain ⟨cd, hc, hdct, _⟩ := ks.cls
  refine osa_exc (s := { s with toks := s.toks + 1 }) inK I ks fun b => ?_
  refine wpAny_bind (wpAny_pure (wpAny_bind (wpAny_bind (wpAny_loadPart (o := { cls := .ref C, dict := none, data := .fields vs }) g1 ?_))))
  dsimp only
  refine wpAny_bind (looks_clsIn inK hc _ _ _ _ (fun _ _ e => e) ?_)
  rw [hdct]
  simp only [Bool.not_true, Bool.false_eq_true, if_false, Bool.or_false]
  have hnew : s.heap.get? s.heap.objs.size = none := Heap.get?_none_of_le (Nat.le_refl _)
  have an : a ≠ s.heap.objs.size := Nat.ne_of_lt (Heap.lt_size g1)
  refine wpAny_bind (wpAny_alloc ?_)
  have g1' := Heap.get?_push_of_some emptyDict g1
  refine wpAny_bind (wpAny_update g1' ?_)
  have g3 : ((s.heap.push emptyDict).update a fun o => { o with dict := some s.heap.objs.size }).get? a = some { cls := .ref C, dict := some s.heap.objs.size, data := .fields vs } := Heap.get?_update_self _ g1' rfl
  have g4 : ((s.heap.push emptyDict).update a fun o => { o with dict := some s.heap.objs.size }).get? s.heap.objs.size = some (dictOf [] 0) := (Heap.get?_update_other _ _ an).trans (Heap.get?_push_size _ rfl)
  refine wpAny_bind (wpAny_pure (wpAny_pure ?_))
  obtain ⟨m, hn, hm⟩ := st.names
  have aL : X.env.locals ≠ a := fun e => st.locOff (by rw [e]; show σ.hp a ≠ none; rw [h1]; exact Option.some_ne_none _)
  have dn := new_none st
  have dL : X.env.locals ≠ s.heap.objs.size := Nat.ne_of_lt hn.lt
  have P₁ := post_write (h' := s.heap.push emptyDict) (tk := s.toks) (a := s.heap.objs.size) (o := .dict []) ok st (fun b o _ _ g => Heap.get?_push_of_some _ g) ⟨m, hn.push _, hm⟩ (.inr hnew) fun _ _ _ => ⟨[], 0, Heap.get?_push_size _ rfl, .nil, by decide⟩
  have h1' : upd σ.hp s.heap.objs.size (.dict []) a = some (.exc C none) := (upd_ne an).trans h1
  obtain ⟨m₁, hn₁, hm₁⟩ := P₁.st.names
  have P₂ := post_write (h' := (s.heap.push emptyDict).update a fun o => { o with dict := some s.heap.objs.size }) (tk := s.toks + 1) (a := a) (o := .exc C (some s.heap.objs.size)) ok P₁.st (fun b o n1 _ g => (Heap.get?_update_other _ _ (Ne.symm n1)).trans g)
    ⟨m₁, hn₁.at' (fun o g => (Heap.get?_update_other _ _ (Ne.symm aL)).trans g), hm₁⟩ (.inl (by show upd σ.hp s.heap.objs.size (.dict []) a ≠ none; rw [h1']; exact Option.some_ne_none _)) fun _ _ _ => ⟨vs, a0, g3, v0, v1, v6⟩
  have P12 := P₁.trans P₂
  have vm₂ := vm.mono P12.ext
  refine store_in_dict (s := { s with heap := (s.heap.push emptyDict).update a fun o => { o with dict := some s.heap.objs.size }, toks := s.toks + 1 }) g4 rfl (by simp [putL]) fun h' hs g' => ?_
  obtain ⟨m₂, hn₂, hm₂⟩ := P₂.st.names
  have en' := (Ents.nil : Ents _ ((s.heap.push emptyDict).update a fun o => { o with dict := some s.heap.objs.size }) [] []).put (name := name) (hs := PyData.keyHash X.w.params name) (tk := s.toks + 1) vm₂
  have P₃ := post_write (h' := h') (tk := s.toks + 1 + 1) (a := s.heap.objs.size) (o := .dict [(name, dv)]) ok P₂.st (fun b o n1 _ g => (hs.2 b n1).trans g) ⟨m₂, hn₂.at' (fun o g => (hs.2 _ dL).trans g), hm₂⟩
    (.inl (by show upd (upd σ.hp s.heap.objs.size (.dict [])) a _ s.heap.objs.size ≠ none; rw [upd_ne (Ne.symm an), upd_self]; exact Option.some_ne_none _)) fun _ me _ => ⟨_, _, g', me _ _ en', by simp [putL]⟩
  have e : upd (upd (upd σ.hp s.heap.objs.size (.dict [])) a (.exc C (some s.heap.objs.size))) s.heap.objs.size (.dict [(name, dv)]) = upd (upd σ.hp a (.exc C (some s.heap.objs.size))) s.heap.objs.size (.dict [(name, dv)]) := by
    funext b; unfold upd; repeat' split
    all_goals rfl
  have PP := P.trans (P12.trans P₃)
  exact ⟨(), _, PP, trivial, by have := q _ dn; rwa [← e] at this⟩
end
end Mine
namespace Mine
open PySem PySem.W PySem.Calls PySem.Spec PyProof.Rows Builtin Builtin.ObjectAttr Builtin.BaseException
theorem own_init : classOwn (.type "Exception") "__init__" = pure (some (.builtin "Exception.__init__")) := by kernel_rfl
theorem slot_wd : Slot "wrapper_descriptor" "__get__" "wrapper_descriptor.__get__" :=
  .of (owner := "wrapper_descriptor") (n := "__get__") (by rw [typeLookup_type, builtinLookup_eq_fast]; kernel_rfl) (by decide +kernel) (by decide +kernel) (by decide +kernel)
    (by first | exact .inl (by decide +kernel) | exact .inr (by decide +kernel)) (by rw [isSubtype_type]; kernel_rfl)
theorem type_init : typeOf (.builtin "Exception.__init__") = pure (.type "wrapper_descriptor") := by show builtinType _ = _; rw [builtinType_eq_fast]; kernel_rfl
theorem entry_wd : entryFor table "wrapper_descriptor.__get__" = some Builtin.«wrapper_descriptor.__get__» := entryFor_of_tree (by kernel_rfl)
theorem args_wd (a b c : Value) : argsOk "wrapper_descriptor.__get__" ⟨[a, b, c], []⟩ := by unfold argsOk; kernel_rfl
theorem wd_get {prog : Program} {w : World} {A : Around} {s : Shared} {K : Frag} {x C : Addr} {R : Result → Shared → Prop} {ox : Obj} (X : K.In s.heap) (hx : s.heap.get? x = some ox) (hcx : ox.cls = .ref C) (hm : mroIn K C (.type "Exception") = some true)
    (h : R (.ok (.ret (.ref s.heap.objs.size))) { s with heap := s.heap.push { cls := .type "method-wrapper", data := .fields #[.builtin "Exception.__init__", .ref x] } }) : codeAny (model prog w) A (.call (.builtin "wrapper_descriptor.__get__") ⟨[.builtin "Exception.__init__", .ref x, .ref C], []⟩) R s := by
  obtain ⟨hh, g, dr, t, os⟩ := s
  have L0 : Looks (model prog w) hh (typeOf (.ref x)) (.ref C) := hcx ▸ (Looks.ld hx).andThen .now
  have L1 := looks_mroIn (M := model prog w) X hm
  refine codeAny_call_builtin slot_wd.plain entry_wd (slot_wd.check _ _ _ _ _ _ _ _ type_init (args_wd _ _ _) ?_)
  unfold Builtin.«wrapper_descriptor.__get__»
  have e : ".".intercalate ("Exception.__init__".cutAt '.').dropLast = "Exception" := by decide +kernel
  have L2 : Looks (model prog w) hh (isSubtype (.ref C) (.type (".".intercalate ("Exception.__init__".cutAt '.').dropLast))) true := by rw [e]; exact L1
  repeat lk
  exact h
theorem super_ga_init {prog : Program} {w : World} {A : Around} {E : Value → Shared → Prop} {h : Heap} {g : Array GenState} {d : Drawn} {t : Nat} {os : OsState} {K : Frag} {so D x C : Addr} {ox : Obj} {l₀ r : List Value} {tk : Tok} {Q : Fin → Shared → Prop}
    (hso : h.get? so = some { cls := .type "super", dict := none, data := .fields #[.ref D, .ref x, .ref C], slots := #[] }) (hno : Looks (model prog w) h (opaqueClassAbove (.ref C)) none)
    (hC : Looks (model prog w) h (mroOf (.ref C)) l₀) (hl : (l₀.dropWhile (· != .ref D)).drop 1 = .type "Exception" :: r) (X : K.In h) (hx : h.get? x = some ox) (hcx : ox.cls = .ref C) (hm : mroIn K C (.type "Exception") = some true) (hxC : x ≠ C)
    (hq : Q (.done (.ret (.ref h.objs.size))) ⟨h.push { cls := .type "method-wrapper", data := .fields #[.builtin "Exception.__init__", .ref x] }, g, d, t, os⟩) :
    wpAny (model prog w) A (Builtin.«super.__getattribute__» ⟨[.ref so, .str "__init__" tk], []⟩) Q E ⟨h, g, d, t, os⟩ := by
  have hne : (Value.ref x == Value.ref C) = false := by simp [hxC]
  have hdt : ({ cls := .type "super", dict := none, data := .fields #[.ref D, .ref x, .ref C], slots := #[] } : Obj).data = .fields #[.ref D, .ref x, .ref C] := rfl
  have f0 : (#[.ref D, .ref x, .ref C] : Array Value)[0]? = some (.ref D) := rfl
  have f1 : (#[.ref D, .ref x, .ref C] : Array Value)[1]? = some (.ref x) := rfl
  have f2 : (#[.ref D, .ref x, .ref C] : Array Value)[2]? = some (.ref C) := rfl
  have hn : (("__init__" : Str) == ("__class__" : Str)) = false := by decide
  have A0 := looks_field (M := model prog w) hso 0 f0
  have A1 := looks_field (M := model prog w) hso 1 f1
  have A2 := looks_field (M := model prog w) hso 2 f2
  have A3 : Looks (model prog w) h (notOfAnOpaqueClass (Str.toString "__init__") "" (.ref C)) () := fun A Q E s k q => by
    obtain ⟨hh, g, d, t, os⟩ := s
    exact ks_wpAny_notOpaque (hno.keeps k) q
  have A4 : Looks (model prog w) h (classOwn (.type "Exception") "__init__") (some (.builtin "Exception.__init__")) := .of_pure own_init
  have A5 : Looks (model prog w) h (typeOf (.builtin "Exception.__init__")) (.type "wrapper_descriptor") := .of_pure type_init
  have A6 : Looks (model prog w) h (typeLookup (.type "wrapper_descriptor") "__get__") (some (.builtin "wrapper_descriptor.__get__")) := .of_pure slot_wd.lookup
  have A7 : Looks (model prog w) h (asStr? (.str "__init__" tk)) (some "__init__") := .of_pure (by kernel_rfl)
  unfold Builtin.«super.__getattribute__»
  dsimp only
  refine wpAny_bind (A7.at ?_)
  simp only [Option.isNone_some, Bool.false_eq_true, if_false]
  refine wpAny_bind (A7.at ?_)
  dsimp only
  refine wpAny_bind (A0.at (wpAny_bind (A1.at (wpAny_bind (A2.at ?_)))))
  rw [if_neg (by simp [hn])]
  refine wpAny_bind (A3.at ?_)
  rw [if_neg (by simp)]
  refine wpAny_bind (hC.at ?_)
  rw [hl, List.forIn_cons]
  refine wpAny_bind (wpAny_bind (wpAny_bind (A4.at ?_)))
  dsimp only
  refine wpAny_bind (A5.at (wpAny_bind (A6.at ?_)))
  dsimp only
  rw [hne]
  simp only [Bool.false_eq_true, if_false]
  refine wpAny_bind (wpAny_holding (wpAny_call (wd_get X hx hcx hm (wpAny_bind (wpAny_pure (wpAny_pure (wpAny_pure (wpAny_pure hq))))))))
theorem getm_super {prog : Program} {w : World} {A : Around} {E : Value → Shared → Prop} {h : Heap} {g : Array GenState} {d : Drawn} {t : Nat} {os : OsState} {K : Frag} {so D x C : Addr} {ox : Obj} {l₀ r : List Value} {pl : Sem Bool} {Q : Value × List Value → Shared → Prop}
    (hso : h.get? so = some { cls := .type "super", dict := none, data := .fields #[.ref D, .ref x, .ref C], slots := #[] }) (hno : Looks (model prog w) h (opaqueClassAbove (.ref C)) none)
    (hC : Looks (model prog w) h (mroOf (.ref C)) l₀) (hl : (l₀.dropWhile (· != .ref D)).drop 1 = .type "Exception" :: r) (X : K.In h) (hx : h.get? x = some ox) (hcx : ox.cls = .ref C) (hm : mroIn K C (.type "Exception") = some true) (hxC : x ≠ C)
    (hq : Q (.ref h.objs.size, []) ⟨h.push { cls := .type "method-wrapper", data := .fields #[.builtin "Exception.__init__", .ref x] }, g, d, t + 1, os⟩) :
    wpAny (model prog w) A (getMethod (.ref so) "__init__" pl) Q E ⟨h, g, d, t, os⟩ := by
  have hlk := F.ks_slot_super_ga.lookup
  have hcan := F.ks_canon_super_ga
  have hT : ∀ t', (⟨h, g, d, t', os⟩ : Shared).TypeIs (.ref so) "super" := fun _ => ⟨_, hso, rfl⟩
  unfold getMethod
  refine wpAny_bind (wpAny_specialOf (hT _) hlk ?_)
  show wpAny _ _ (if (Manifest.canonical "super.__getattribute__" != "object.__getattribute__") = true then _ else _) _ _ _
  rw [if_pos hcan]
  unfold getAttr getAttrBy
  refine wpAny_bind (wpAny_bind (wpAny_mkText (wpAny_holding (wpAny_bind (wpAny_typeOf (hT _) (wpAny_bind (wpAny_of_eq hlk ?_)))))))
  show wpAny _ _ (getAttrByItsOwn (.ref so) (.str "__init__" t) (.type "super") (.builtin "super.__getattribute__") true false) _ _ _
  unfold getAttrByItsOwn hookBefore callGetattribute boundAndCalled
  refine wpAny_bind (wpAny_of_eq (show (if onTheHeap (.type "super") then typeLookup (.type "super") "__getattr__" else pure none) = pure none from rfl) ?_)
  refine wpAny_bind (wpAny_attempt (wpAny_holding ?_))
  show wpAny _ _ (bindSpecial (.builtin "super.__getattribute__") (.ref so) >>= _) _ _ _
  refine wpAny_bind (wpAny_of_eq (F.ks_slot_super_ga.bind _) ?_)
  refine wpAny_mono (Q := fun v s' => v = .ref h.objs.size ∧ s' = ⟨h.push { cls := .type "method-wrapper", data := .fields #[.builtin "Exception.__init__", .ref x] }, g, d, t + 1, os⟩) (E := fun _ _ => False)
    (wpAny_call_entry F.ks_slot_super_ga (hT _) F.ks_entry_super_ga (super_ga_init hso hno hC hl X hx hcx hm hxC ⟨_, rfl, rfl, rfl⟩) (F.ks_gaArgs_super _ _)) (fun v s' hv => ?_) fun _ _ z => z.elim
  obtain ⟨rfl, rfl⟩ := hv
  exact wpAny_pure (wpAny_pure hq)
theorem check_bound {M : Model} {A : Around} {E : Value → Shared → Prop} {h : Heap} {g : Array GenState} {d : Drawn} {t : Nat} {os : OsState} {e C : Addr} {oe : Obj} {v : Value} {Q : Unit → Shared → Prop}
    {nm q : Str} {N : Addr} {bs bm : List Value} {hdct : Bool} {sn : List Str} {sub : List Value} {ab : Bool} {col : Option Bool} {dd : Option Addr} {k0 k1 k2 k3 k5 : Option Value} {newId : String}
    (FB : ExcBaseFacts "Exception" newId "Exception.__init__" bm) (hC : h.get? C = some (excClassObj nm q C N bs bm hdct sn sub ab col dd k0 k1 k2 k3 k5 newId)) (he : h.get? e = some oe) (hcls : oe.cls = .ref C)
    (hq : Q () ⟨h, g, d, t, os⟩) : wpAny M A (checkBoundCall "Exception.__init__" ⟨[.ref e, v], []⟩) Q E ⟨h, g, d, t, os⟩ := by
  have hcB : (Value.ref C :: bm).contains (.type "Exception") = true := by rw [List.contains_cons, FB.hasB, Bool.or_true]
  have hshort := FB.noStar
  simp only [checkBoundCall, FB.initKind, FB.initRow]
  rw [if_pos (by decide)]
  repeat (first | (with_reducible refine wpAny_loadPart_at he ?_; rw [hcls]) | with_reducible refine wpAny_loadPart_at hC ?_ | (with_reducible refine wpAny_isSubtype_exc hC ?_; rw [hcB]) | wp_step)
  exact hq
section
variable {X : Cx} {n : Nat} {σ : S} {E : Value → S → Prop}
theorem call_wrapper {q a C : Addr} {od : Option Addr} {v : Value} {s : Shared} {σ₀ : S} {s₀ : Shared} {Q : V → S → Prop}
    {nm qn : Str} {N : Addr} {bs bm : List Value} {hdct : Bool} {sn : List Str} {sub : List Value} {ab : Bool} {col : Option Bool} {dd : Option Addr} {k0 k1 k2 k3 k5 : Option Value} {newId : String}
    (FB : ExcBaseFacts "Exception" newId "Exception.__init__" bm) (ok : Ok X n) (hC : X.K.lookup C = some (excClassObj nm qn C N bs bm hdct sn sub ab col dd k0 k1 k2 k3 k5 newId)) (P : Post X σ₀ s₀ σ s) (h1 : σ.hp a = some (.exc C od)) (gq : s.heap.get? q = some { cls := .type "method-wrapper", data := .fields #[.builtin "Exception.__init__", .ref a] })
    (qq : Q .none σ) : wpAny (model X.prog X.w) X.A (call (.ref q) [v]) (Qw X σ₀ s₀ VM Q) (Ew X σ₀ s₀ E) s := by
  obtain ⟨⟨vs, a0, g, v0, v1, v6⟩, _⟩ := P.st.own a _ h1
  have hC' := P.st.inK ok _ _ hC
  refine wpAny_call (codeAny_of_tree ?_)
  show wpAny _ _ (callAny (.ref q) _) _ _ _
  refine nd_load gq ?_
  show wpAny _ _ (checkBoundCall "Exception.__init__" ⟨[.ref a, v], []⟩ >>= fun _ => again (.builtin "Exception.__init__" ⟨[.ref a, v], []⟩)) _ _ _
  obtain ⟨hh, gn, dr, tk, os⟩ := s
  refine wpAny_bind (check_bound FB hC' g rfl ?_)
  refine wpAny_pure ⟨Code.quiet_builtin _ (by decide +kernel), ?_⟩
  refine codeAny_builtin FB.initEntry ?_
  unfold Builtin.«BaseException.__init__»
  dsimp only
  rw [if_neg (by decide)]
  unfold newTuple
  refine wpAny_bind (wpAny_newObj_type ?_ (by show [v].toArray.size ≤ sizeLine; rw [sizeLine_eq]; simp))
  have P₁ := st_push P.st { cls := .type "tuple", data := .seq [v].toArray }
  have g₁ := Heap.get?_push_of_some { cls := .type "tuple", data := .seq [v].toArray } g
  unfold bexcPut
  have hA : ∀ {A : Around}, wpAny (model X.prog X.w) A (do setField (.ref a) 0 (.ref hh.objs.size); if let .ref _ := a0 then letGo [a0] []) (fun _ s' => Qw X σ₀ s₀ VM Q .none s') (fun e s' => Ew X σ₀ s₀ E e s') ⟨hh.push { cls := .type "tuple", data := .seq [v].toArray }, gn, dr, tk, os⟩ := by
    intro A
    refine wpAny_bind (exc_field ok P₁.st h1 g₁ v0 v1 v6 (by decide) (by decide) fun h₂ b0 P₂ g₂ w0 w1 w6 => ?_)
    have PP := (P.trans P₁).trans P₂
    split
    · exact wpAny_letGo ⟨.none, σ, PP, .none, qq⟩
    · exact wpAny_pure ⟨.none, σ, PP, .none, qq⟩
  refine wpAny_bind (wpAny_bind (wpAny_field g₁ rfl v0 (wpAny_mono hA (fun _ s' z => ?_) fun _ _ z => z)))
  exact wpAny_pure z
structure KSup (X : Cx) (fI C : Addr) (sf : Str) : Prop where
  func : X.env.func = some fI
  fd : ∃ oc od fd osl ar, X.K.lookup fI = some ⟨oc, od, .func fd, osl⟩ ∧ (fd.params.posonlyargs ++ fd.params.args).head? = some ar ∧ ar.arg = sf
  code : ∃ c oc od vs sl file tf, X.env.code = .ref c ∧ X.K.lookup c = some ⟨oc, od, .fields vs, sl⟩ ∧ vs[2]? = some (.str file tf) ∧ ((X.prog.main.file : Str) == file) = true
  top : (X.prog.main.scope.names.lookup ("super" : Str)).isSome = false
  super : X.env.kindOf "super" = some .globalImplicit
  cls : X.env.kindOf "__class__" = some .free
  cell : ∃ cc oc od sl, X.env.cells.lookup ("__class__" : Str) = some cc ∧ X.K.lookup cc = some ⟨oc, od, .cell (some (.ref C)), sl⟩
  glob : nsIn X.K mainGlobals "super" = some none
  boot : bootBuiltins "super" = some (.type "super")
  sub : mroIn X.K C (.ref C) = some true
  exc : mroIn X.K C (.type "Exception") = some true
  opaq : nsIn X.K cStatics "thirdparty.any" = some none
  selfLoc : X.env.kindOf sf = some .local
theorem super_stmt {fI C a : Addr} {sf y : Str} {od : Option Addr} {body : List Stmt} {p0 p1 ap np pos pos' : Pos} {Q : FV → S → Prop} {dy : V}
    {nm qn : Str} {N : Addr} {bs bm : List Value} {hdct : Bool} {sn : List Str} {sub : List Value} {ab : Bool} {col : Option Bool} {dd : Option Addr} {k0 k1 k2 k3 k5 : Option Value} {newId : String} {r : List Value}
    (FB : ExcBaseFacts "Exception" newId "Exception.__init__" bm) (ok : Ok X n) (hC : X.K.lookup C = some (excClassObj nm qn C N bs bm hdct sn sub ab col dd k0 k1 k2 k3 k5 newId)) (hbm : bm = .type "Exception" :: r)
    (ks : KSup X fI C sf) (hself : lk σ.loc sf = some (.ref a)) (h1 : σ.hp a = some (.exc C od)) (hy : lk σ.loc y = some dy) (hyk : X.env.kindOf y = some .local) (hyd : (y == ("__debug__" : Str)) = false)
    (hline : (ap.endLine == pos.line) = true) (hsw : ∀ env, swapsWith (.Call (.Attribute (.Call (.Name "super" p0) [] [] p1) "__init__" ap) [.Name y np] [] pos) none pos'.line env = pure false) (q : Q .next σ) {σ₀ : S} {s₀ s : Shared} (P : Post X σ₀ s₀ σ s) :
    PySem.wpAt (model X.prog X.w) X.A (.func body X.env) (exec (.Expr (.Call (.Attribute (.Call (.Name "super" p0) [] [] p1) "__init__" ap) [.Name y np] [] pos) pos') X.env) (Qw X σ₀ s₀ FM Q) (Ew X σ₀ s₀ E) s := by
  have st := P.st
  obtain ⟨oc1, od1, fd, osl1, ar, hfd, har, hasf⟩ := ks.fd
  obtain ⟨c, oc2, od2, vs2, sl2, file, tf, hcode, hcl, hv2, hfile⟩ := ks.code
  obtain ⟨cc, oc3, od3, sl3, hcell, hcc⟩ := ks.cell
  obtain ⟨⟨vs, a0, g, v0, v1, v6⟩, _⟩ := st.own a _ h1
  have inK := st.inK ok
  have hCn : a ≠ C := fun e => by
    have gC := inK _ _ hC
    rw [← e, g] at gC
    injection gC with gC
    have := congrArg Obj.data gC
    simp [excClassObj] at this
  refine ks_wpAt_Expr_any ?_ (by unfold interactive; rw [ok.kind]; rfl) (hsw _)
  refine ks_wpAt_MethodCall (pl := do return (← importBound (.Call (.Name "super" p0) [] [] p1) X.env).getD true) ?_ ?_
  · refine ks_wpAt_super_base ks.super ks.cls (by decide) ks.func (inK _ _ hfd) rfl har hcode (inK _ _ hcl) rfl hv2 hfile ks.top ?_
    refine ks_loadName_global ok.kind ks.super (loadGlobal_builtin (ok.genv ▸ ok.top.g.keeps st.base) (mg_none_of ok.inK ok.top.g ks.glob) (ok.benv ▸ ok.top.b.keeps st.base) ((ok.top.builtins _ (by decide)).trans ks.boot) ⟨rfl, ?_⟩)
    have hcc' := inK _ _ hcc
    refine wpAny_loadName_free ok.kind ks.cls hcell ⟨_, hcc', rfl⟩ ?_
    obtain ⟨m, hn, hm⟩ := st.names
    obtain ⟨v, hv, vm⟩ := hm _ _ hself
    obtain rfl := vm.refI
    rw [hasf]
    refine wpAny_loadName_local ok.kind ks.selfLoc hn hv ?_
    obtain ⟨hh, gn, dr, tk, os⟩ := s
    dsimp only at inK g hn hm
    have gC := inK _ _ hC
    refine ks_wpAny_isType_cls gC rfl ⟨rfl, ?_⟩
    refine ks_wpAny_call_super gC rfl g rfl (fun c e => by cases e) (looks_mroIn inK ks.sub) fun h' hso hk => ?_
    have P₁ := Post.keeps (s := ⟨hh, gn, dr, tk, os⟩) st h' tk rfl hk
    have inK₁ := P₁.st.inK ok
    have gC₁ := hk _ _ gC
    have hroC : Looks (model X.prog X.w) h' (mroOf (.ref C)) (.ref C :: bm) := ((Looks.ld (part := none) gC₁).andThen .now).andThen .now
    refine getm_super (l₀ := .ref C :: bm) (r := r) hso (looks_opaque inK₁ ks.opaq) hroC ?_ inK₁ (hk _ _ g) rfl ks.exc hCn ?_
    · rw [hbm, List.dropWhile_cons_of_neg (by simp)]; rfl
    dsimp only
    have hw := Heap.get?_push_size h' (o := { cls := .type "method-wrapper", data := .fields #[.builtin "Exception.__init__", .ref a] }) rfl
    have P₂ := (P₁.trans (st_push P₁.st { cls := .type "method-wrapper", data := .fields #[.builtin "Exception.__init__", .ref a] })).trans (Post.keeps (s' := ⟨h'.push { cls := .type "method-wrapper", data := .fields #[.builtin "Exception.__init__", .ref a] }, gn, dr, tk + 1, os⟩) (st_push P₁.st _).st _ (tk + 1) rfl fun _ _ e => e)
    refine callWith_of (P := fun h => h.get? h'.objs.size = some { cls := .type "method-wrapper", data := .fields #[.builtin "Exception.__init__", .ref a] }) rfl (fun h e => ⟨.machine, .inr (.inl rfl), (Looks.ld e).andThen .now⟩) ?_
    obtain ⟨m₂, hn₂, hm₂⟩ := P₂.st.names
    obtain ⟨vy, hvy, vmy⟩ := hm₂ _ _ hy
    refine evalArgs_plain (spliced_cons (wpAny_Name (wpAny_loadName_local ok.kind hyk hn₂ hvy (spliced_nil ⟨hw, ?_⟩)) hyd))
    exact wpAny_mono (call_wrapper (Q := fun _ σ' => Q .next σ') FB ok hC (P.trans P₂) h1 hw q) (fun _ _ ⟨_, σ', P', _, q'⟩ => ⟨.next, σ', P', trivial, q'⟩) fun _ _ e => e
  · rw [arm_eval_Call]
    unfold methodCall calleeOf methodCallPos
    have e : methodCallForm ([Expr.Name y np].length + ([] : List Keyword).length) (backTo pos (starEach [.Name y np] X.env)) (backToKw pos (keywordEach [] X.env)) = true := rfl
    rw [e, hline]
    rfl
end
end Mine
namespace Mine
open PySem PySem.W PySem.Calls PySem.Spec PyProof.Rows
section
variable {X : Cx} {n : Nat} {σ : S} {E : Value → S → Prop}
theorem VM.strE {mu : Addr → Prop} {h : Heap} {x : Str} {t : Tok} {l : List Nat} (e : x.cps.toList = l) : VM mu h (.str x t) (.str l) := e ▸ .str x t
section ops
variable {a b : Int} {x y : List Nat} {Q : V → S → Prop}
theorem o_addi (q : Q (.int (a + b)) σ) : Op2 X (binaryOp .Add) (.int a) (.int b) σ Q E := fun _ _ _ st va wb => by
  obtain ⟨_, rfl⟩ := va.intI; obtain ⟨_, rfl⟩ := wb.intI; exact PyProof.Rows.add_int (qw_same st _ (.int _ _) q)
theorem o_subi (q : Q (.int (a - b)) σ) : Op2 X (binaryOp .Sub) (.int a) (.int b) σ Q E := fun _ _ _ st va wb => by
  obtain ⟨_, rfl⟩ := va.intI; obtain ⟨_, rfl⟩ := wb.intI; exact PyProof.Rows.sub_int (qw_same st _ (.int _ _) q)
theorem o_negi {Q : V → S → Prop} (q : Q (.int (-a)) σ) : Op1 X (unaryOp .USub) (.int a) σ Q E := fun _ _ st va => by
  obtain ⟨_, rfl⟩ := va.intI; exact PyProof.Rows.neg_int (qw_same st _ (.int _ _) q)
theorem o_modi (hb : b ≠ 0) (q : Q (.int (a.fmod b)) σ) : Op2 X (binaryOp .Mod) (.int a) (.int b) σ Q E := fun _ _ _ st va wb => by
  obtain ⟨_, rfl⟩ := va.intI; obtain ⟨_, rfl⟩ := wb.intI; exact PyProof.Rows.mod_int' hb (qw_same st _ (.int _ _) q)
theorem o_iaddi (q : Q (.int (a + b)) σ) : Op2 X (inplaceOp .Add) (.int a) (.int b) σ Q E := fun _ _ _ st va wb => by
  obtain ⟨_, rfl⟩ := va.intI; obtain ⟨_, rfl⟩ := wb.intI; exact wpAny_iadd_int (qw_same st _ (.int _ _) q)
theorem o_eqi (q : Q (.bool (a == b)) σ) : Op2 X (compareOp .Eq) (.int a) (.int b) σ Q E := fun _ _ _ st va wb => by
  obtain ⟨_, rfl⟩ := va.intI; obtain ⟨_, rfl⟩ := wb.intI; exact PyProof.Rows.eq_int (qw_self st (.bool _) q)
theorem o_gti (q : Q (.bool (decide (b < a))) σ) : Op2 X (compareOp .Gt) (.int a) (.int b) σ Q E := fun _ _ _ st va wb => by
  obtain ⟨_, rfl⟩ := va.intI; obtain ⟨_, rfl⟩ := wb.intI; exact PyProof.Rows.gt_int (qw_self st (.bool _) q)
theorem catLen {x y : List Nat} (h : x.length + y.length ≤ 10000) : (⟨x.toArray⟩ : Str).length + (⟨y.toArray⟩ : Str).length ≤ sizeLine := by
  simp only [Str.length, List.size_toArray]; rw [sizeLine_eq]; omega
theorem cat_cps {x y : List Nat} : ((⟨x.toArray⟩ : Str) ++ (⟨y.toArray⟩ : Str)).cps.toList = x ++ y := by rw [PySem.Str.cps_append]; simp
theorem o_adds (h : x.length + y.length ≤ 10000) (q : Q (.str (x ++ y)) σ) : Op2 X (binaryOp .Add) (.str x) (.str y) σ Q E := fun _ _ _ st va wb => by
  obtain ⟨t, rfl⟩ := va.strI
  obtain ⟨u, rfl⟩ := wb.strI
  exact PyProof.Rows.add_str (fun t' tk => qw_same st _ (.strE cat_cps) q) (catLen h)
theorem o_iadds (h : x.length + y.length ≤ 10000) (q : Q (.str (x ++ y)) σ) : Op2 X (inplaceOp .Add) (.str x) (.str y) σ Q E := fun _ _ _ st va wb => by
  obtain ⟨t, rfl⟩ := va.strI
  obtain ⟨u, rfl⟩ := wb.strI
  exact SB.iadd (fun t' tk => qw_same st _ (.strE cat_cps) q) (catLen h)
theorem str_beq {x y : List Nat} : ((⟨x.toArray⟩ : Str) == ⟨y.toArray⟩) = (x == y) := by
  by_cases h : x = y
  · subst h; simp
  · have : (⟨x.toArray⟩ : Str) ≠ ⟨y.toArray⟩ := fun e => h (by have := congrArg (fun s => s.cps.toList) e; simpa using this)
    rw [beq_eq_false_iff_ne.mpr this, beq_eq_false_iff_ne.mpr h]
theorem o_eqs (q : Q (.bool (x == y)) σ) : Op2 X (compareOp .Eq) (.str x) (.str y) σ Q E := fun _ _ _ st va wb => by
  obtain ⟨t, rfl⟩ := va.strI
  obtain ⟨u, rfl⟩ := wb.strI
  exact PyProof.Rows.eq_str (qw_self st (.bool _) (by rw [str_beq]; exact q))
theorem o_nes (q : Q (.bool (x != y)) σ) : Op2 X (compareOp .NotEq) (.str x) (.str y) σ Q E := fun _ _ _ st va wb => by
  obtain ⟨t, rfl⟩ := va.strI
  obtain ⟨u, rfl⟩ := wb.strI
  refine PyProof.Rows.ne_str (qw_self st (.bool _) ?_)
  rw [bne, str_beq]; exact q
end ops
noncomputable def isN : V → Bool
  | .none => true
  | _ => false
noncomputable def known : V → Prop
  | .lit _ => False
  | _ => True
theorem isN_of {mu : Addr → Prop} {h : Heap} {v : Value} {d : V} (x : VM mu h v d) (k : known d) : (v == Value.none) = isN d := by
  cases x <;> first | rfl | exact k.elim
section ops
variable {d : V} {Q : V → S → Prop}
theorem o_isnone (k : known d) (q : Q (.bool (isN d)) σ) : Op2 X (compareOp .Is) d .none σ Q E := fun _ _ _ st va wb => by
  obtain rfl := wb.noneI
  refine is_none_gen (qw_self st (.bool _) ?_)
  rw [isN_of va k]; exact q
theorem o_notnone (k : known d) (q : Q (.bool (!isN d)) σ) : Op2 X (compareOp .IsNot) d .none σ Q E := fun _ _ _ st va wb => by
  obtain rfl := wb.noneI
  refine isnot_none_gen (qw_self st (.bool _) ?_)
  rw [isN_of va k]; exact q
end ops
section tr
variable {Q : Bool → S → Prop}
theorem t_bool {b : Bool} (q : Q b σ) : Tr X (.bool b) σ Q E := fun _ _ st va => by obtain rfl := va.boolI; exact wpAny_truthy_bool (qw_self st rfl q)
theorem t_none (q : Q false σ) : Tr X .none σ Q E := fun _ _ st va => by obtain rfl := va.noneI; exact wpAny_pure (qw_self st rfl q)
theorem t_str {x : List Nat} (h : x.length ≤ 10000) (q : Q (!x.isEmpty) σ) : Tr X (.str x) σ Q E := fun _ s st va => by
  obtain ⟨t, rfl⟩ := va.strI
  refine P.truthy_str (by simp only [Str.length, List.size_toArray]; omega) (qw_same st _ rfl ?_)
  have : (((⟨x.toArray⟩ : Str).length : Int) != 0) = !x.isEmpty := by cases x <;> simp [Str.length]; omega
  rw [this]; exact q
end tr
end
end Mine
namespace Mine
open PySem PySem.W PySem.Calls PySem.Spec PyProof.Rows
section
variable {X : Cx} {n : Nat} {σ : S} {E : Value → S → Prop}
section
open Builtin Builtin.Str
theorem gives_count4 (x y : Str) (i j : Nat) (t u v w : Tok) : ∃ c : Nat, c ≤ x.length + 1 ∧ Gives («str.count» ⟨[.str x t, .str y u, .int i v, .int j w], []⟩) (.int c) := by
  refine ⟨(occurrences x y (max 0 (if (i : Int) < 0 then (i : Int) + x.length else i)).toNat (min (max 0 (if (j : Int) < 0 then (j : Int) + x.length else j)).toNat x.length) (x.length + 1)).length, StrLaws.occ_length_le _ _ _ _ _, ?_⟩
  exact .of_eq rfl
theorem gives_rfind4 (x y : Str) (i j : Nat) (t u v w : Tok) (hy : 1 ≤ y.length) : ∃ c : Int, c ≤ j ∧ -1 ≤ c ∧ Gives («str.rfind» ⟨[.str x t, .str y u, .int i v, .int j w], []⟩) (.int c) := by
  have key := StrLaws.last_run x y (min (max 0 (if (j : Int) < 0 then (j : Int) + x.length else j)).toNat x.length) (List.range' (max 0 (if (i : Int) < 0 then (i : Int) + x.length else i)).toNat ((min (max 0 (if (j : Int) < 0 then (j : Int) + x.length else j)).toNat x.length) + 1 - (max 0 (if (i : Int) < 0 then (i : Int) + x.length else i)).toNat)) [] none (fun _ h => nomatch h) (fun _ h => nomatch h) (by simpa using List.pairwise_lt_range')
  rw [← StrLaws.last_eq] at key
  cases hr : lastOccurrence x y (max 0 (if (i : Int) < 0 then (i : Int) + x.length else i)).toNat (min (max 0 (if (j : Int) < 0 then (j : Int) + x.length else j)).toNat x.length) with
  | none =>
    refine ⟨-1, by omega, by omega, ?_⟩
    show Gives (match lastOccurrence x y (max 0 (if (i : Int) < 0 then (i : Int) + x.length else i)).toNat (min (max 0 (if (j : Int) < 0 then (j : Int) + x.length else j)).toNat x.length) with | some i => retInt i | none => (do rule "str.rfind.not-found"; retInt (-1))) _
    rw [hr]
    exact .rule (.of_eq rfl)
  | some a =>
    rw [hr] at key
    have h1 := key.1.1
    refine ⟨a, by split at h1 <;> omega, by omega, ?_⟩
    show Gives (match lastOccurrence x y (max 0 (if (i : Int) < 0 then (i : Int) + x.length else i)).toNat (min (max 0 (if (j : Int) < 0 then (j : Int) + x.length else j)).toNat x.length) with | some i => retInt i | none => (do rule "str.rfind.not-found"; retInt (-1))) _
    rw [hr]
    exact .of_eq rfl
end
theorem VMs.consI {mu : Addr → Prop} {h : Heap} {vs : List Value} {d : V} {ds : List V} (x : VMs mu h vs (d :: ds)) : ∃ v ws, vs = v :: ws ∧ VM mu h v d ∧ VMs mu h ws ds := by cases x with | cons a b => exact ⟨_, _, rfl, a, b⟩
theorem VMs.one {mu : Addr → Prop} {h : Heap} {vs : List Value} {d : V} (x : VMs mu h vs [d]) : ∃ v, vs = [v] ∧ VM mu h v d := by
  obtain ⟨v, ws, rfl, a, r⟩ := x.consI; cases r; exact ⟨v, rfl, a⟩
theorem VMs.two {mu : Addr → Prop} {h : Heap} {vs : List Value} {d e : V} (x : VMs mu h vs [d, e]) : ∃ v w, vs = [v, w] ∧ VM mu h v d ∧ VM mu h w e := by
  obtain ⟨v, ws, rfl, a, r⟩ := x.consI; obtain ⟨w, rfl, b⟩ := r.one; exact ⟨v, w, rfl, a, b⟩
theorem VMs.three {mu : Addr → Prop} {h : Heap} {vs : List Value} {d e f : V} (x : VMs mu h vs [d, e, f]) : ∃ v w u, vs = [v, w, u] ∧ VM mu h v d ∧ VM mu h w e ∧ VM mu h u f := by
  obtain ⟨v, ws, rfl, a, r⟩ := x.consI; obtain ⟨w, u, rfl, b, c⟩ := r.two; exact ⟨v, w, u, rfl, a, b, c⟩
theorem VMs.four {mu : Addr → Prop} {h : Heap} {vs : List Value} {d e f g : V} (x : VMs mu h vs [d, e, f, g]) : ∃ v w u z, vs = [v, w, u, z] ∧ VM mu h v d ∧ VM mu h w e ∧ VM mu h u f ∧ VM mu h z g := by
  obtain ⟨v, ws, rfl, a, r⟩ := x.consI; obtain ⟨w, u, z, rfl, b, c, e⟩ := r.three; exact ⟨v, w, u, z, rfl, a, b, c, e⟩
theorem gm_str {l : List Nat} {name : Str} {id : String} {Q : Value → List V → S → Prop} (slot : Slot "str" name id) (ty : typeOf (.builtin id) = pure (.type "method_descriptor")) (q : Q (.builtin id) [.str l] σ) : GetM X (.str l) name σ Q E := by
  intro v s pl st vm
  obtain ⟨t, rfl⟩ := vm.strI
  exact GM.of (.str _ t) (typeIs_str _ _ _) slot ty GM.noRef ⟨[.str l], σ, Post.refl st, .cons vm .nil, q⟩
section
variable {x y : List Nat} {Q : V → S → Prop}
theorem c_count4 {i j : Nat} (q : ∀ c : Nat, c ≤ x.length + 1 → Q (.int c) σ) : Call X (.builtin "str.count") [.str x, .str y, .int i, .int j] σ Q E := fun vs s st vm => by
  obtain ⟨_, _, _, _, rfl, a, b, c, d⟩ := vm.four
  obtain ⟨t, rfl⟩ := a.strI
  obtain ⟨u, rfl⟩ := b.strI
  obtain ⟨_, rfl⟩ := c.intI
  obtain ⟨_, rfl⟩ := d.intI
  obtain ⟨c, hc, g⟩ := gives_count4 ⟨x.toArray⟩ ⟨y.toArray⟩ i j t u _ _
  exact call_gives F.slot_str_count (typeIs_str _ _ _) F.entry_str_count (F.args_str_count_4 _ _ _ _) g (qw_same st _ (.int _ _) (q c (by simpa [Str.length] using hc)))
theorem c_rfind4 {i j : Nat} (hy : y ≠ []) (q : ∀ c : Int, c ≤ j → -1 ≤ c → Q (.int c) σ) : Call X (.builtin "str.rfind") [.str x, .str y, .int i, .int j] σ Q E := fun vs s st vm => by
  obtain ⟨_, _, _, _, rfl, a, b, c, d⟩ := vm.four
  obtain ⟨t, rfl⟩ := a.strI
  obtain ⟨u, rfl⟩ := b.strI
  obtain ⟨_, rfl⟩ := c.intI
  obtain ⟨_, rfl⟩ := d.intI
  obtain ⟨c, c1, c2, g⟩ := gives_rfind4 ⟨x.toArray⟩ ⟨y.toArray⟩ i j t u _ _ (by cases y with | nil => exact absurd rfl hy | cons _ _ => simp [Str.length])
  exact call_gives F.slot_str_rfind (typeIs_str _ _ _) F.entry_str_rfind (F.args_str_rfind_4 _ _ _ _) g (qw_same st _ (.int _ _) (q c c1 c2))
theorem c_isstr (q : Q (.bool true) σ) : Call X (.builtin "isinstance") [.str x, .lit (.type "str")] σ Q E := fun vs s st vm => by
  obtain ⟨_, _, rfl, a, b⟩ := vm.two
  obtain ⟨t, rfl⟩ := a.strI
  obtain rfl := b.litI
  exact call_isinstance_yes (typeIs_str _ _ _) (by kernel_rfl) (by rw [isSubtype_type]; kernel_rfl) (qw_self st (.bool _) q)
theorem c_lens (h : x.length ≤ 10000) (q : Q (.int x.length) σ) : Call X (.builtin "len") [.str x] σ Q E := fun vs s st vm => by
  obtain ⟨_, rfl, a⟩ := vm.one
  obtain ⟨t, rfl⟩ := a.strI
  refine PyProof.Rows.len_str (by simp only [Str.length, List.size_toArray]; omega) (qw_same st _ ?_ q)
  have : ((⟨x.toArray⟩ : Str).length) = x.length := by simp [Str.length]
  rw [this]; exact .int _ _
end
end
end Mine
namespace Mine
open PySem PySem.W PySem.Calls PySem.Spec PyProof.Rows
section
variable {X : Cx} {n : Nat} {σ : S} {E : Value → S → Prop}
set_option maxHeartbeats 8000000 in
theorem meets_pos (y : Str) (hy : y.length ≤ 1000000) (i : Int) (h0 : 0 ≤ i) (h1 : i < 10 ^ 10) (t u v : Tok) (b : Addr) :
    Meets (Builtin.«str.__mod__» ⟨[.str "%s at position %d" t, .ref b], []⟩) (fun _ R s => IsTup s.heap b #[.str y u, .int i v] ∧ ∀ t' k, R (.ok (.ret (.str (y ++ Str.ofString " at position " ++ Str.ofString (toString i)) t'))) { s with toks := k }) := by
  have hd : i.natAbs.log2 < 1920 := shown (N := 2 ^ 1920) (by omega) (by omega) (Int.le_refl _)
  apply KPt.meets_tup
  intro _ _ _ _ _ _ kptH _
  obtain ⟨kptO, kptG, kptC, kptN, kptD⟩ := kptH
  rw [KPt.entry_is_r]
  unfold Builtin.Str.percentFormat
  refine wpAny_bind (wpAny_isInstance (T := "tuple") ⟨kptO, kptG, kptC⟩ KPt.sub_tt ?_)
  refine wpAny_bind (KPt.asStr_ref kptG kptD ?_)
  refine wpAny_bind (KPt.fills_ref ⟨kptO, kptG, kptC⟩ ?_)
  intro _
  kpc_if
  refine wpAny_bind (wpAny_seqItems kptG kptD ?_)
  refine wpAny_bind (wpAny_pure ?_)
  refine wpAny_bind ?_
  rw [KPc.range_list]
  refine KPc.start ?_
  intro _ _
  refine KPc.turn ?_; kpc_check; (repeat kpc_if); refine wpAny_bind ?_; refine wpAny_holding ?_; (repeat kpc_if); kpt_conv; refine wpAny_pure ?_; refine wpAny_pure ?_; kpt_piece
  refine KPc.turn ?_; kpc_check; (repeat kpc_if); refine wpAny_pure ?_; refine KPc.after_add (y := Str.ofString " at position ") (by kpc_g) (by kernel_rfl) (by kpc_obj) ?_; intro _ _
  refine KPc.turn ?_; kpc_check; (repeat kpc_if); refine wpAny_bind ?_; refine wpAny_holding ?_; (repeat kpc_if); kpt_conv; refine wpAny_pure ?_; refine wpAny_pure ?_; kpt_piece
  refine KPc.turn ?_; kpc_check; (repeat kpc_if); kpc_close
end
end Mine
namespace Mine
open PySem PySem.W PySem.Calls PySem.Spec PyProof.Rows
section
variable {X : Cx} {n : Nat} {σ : S} {E : Value → S → Prop}
structure KExcGet (K : Frag) (C : Addr) (name : Str) : Prop where
  ga : findIn K (.ref C) "__getattribute__" = some (some (.builtin "BaseException.__getattribute__"))
  hook : findIn K (.ref C) "__getattr__" = some none
  base : mroIn K C (.type "BaseException") = some true
  dict : hasDictIn K C = true
  cls : ∃ attr, findIn K (.ref C) name = some attr ∧ noGet K attr = true
noncomputable def SetA (X : Cx) (o : V) (attr : Str) (d : V) (σ : S) (Q : S → Prop) (E : Value → S → Prop) : Prop :=
  ∀ ov v s, St X σ s.heap → VM σ.mu s.heap ov o → VM σ.mu s.heap v d → wpAny (model X.prog X.w) X.A (setAttr ov attr v) (Qw X σ s RU (fun _ => Q)) (Ew X σ s E) s
theorem sa_inst {a C dx : Addr} {fs : List (Str × V)} {name : Str} {d : V} {Q : S → Prop} (ok : Ok X n) (h1 : σ.hp a = some (.inst C dx)) (h2 : σ.hp dx = some (.dict fs)) (ks : KSet X.K C name)
    (hlen : fs.length ≤ 90) (q : Q { σ with hp := upd σ.hp dx (.dict (updF fs name d)) }) : SetA X (.ref a) name d σ Q E := fun _ _ _ st om vm => by
  cases om
  exact set_field (Q := fun _ => Q) ok h1 h2 ks hlen q (Post.refl st) vm
theorem sa_exc1 {a C dx : Addr} {fs : List (Str × V)} {name : Str} {d : V} {Q : S → Prop} (ok : Ok X n) (h1 : σ.hp a = some (.exc C (some dx))) (h2 : σ.hp dx = some (.dict fs)) (ks : KExcSet X.K C name)
    (hlen : fs.length ≤ 90) (q : Q { σ with hp := upd σ.hp dx (.dict (updF fs name d)) }) : SetA X (.ref a) name d σ Q E := fun _ _ _ st om vm => by
  cases om
  exact set_exc1 (Q := fun _ => Q) ok h1 h2 ks hlen q (Post.refl st) vm
theorem sa_exc0 {a C : Addr} {name : Str} {d : V} {Q : S → Prop} (ok : Ok X n) (h1 : σ.hp a = some (.exc C none)) (ks : KExcSet X.K C name)
    (q : ∀ dx, σ.hp dx = none → Q { σ with hp := upd (upd σ.hp a (.exc C (some dx))) dx (.dict [(name, d)]) }) : SetA X (.ref a) name d σ Q E := fun _ _ _ st om vm => by
  cases om
  exact set_exc0 (Q := fun _ => Q) ok h1 ks q (Post.refl st) vm
theorem WX_SetAttr {e : Expr} {x attr : Str} {xp p' pos : Pos} {Q : FV → S → Prop}
    (h : WE X e σ (fun d σ₁ => WE X (.Name x xp) σ₁ (fun od σ₂ => SetA X od attr d σ₂ (Q .next) E) E) E)
    (hs : ∀ env, swapsWith e (some (.Attribute (.Name x xp) attr p')) pos.line env = pure false) : WX X (.Assign [.Attribute (.Name x xp) attr p'] e pos) σ Q E := fun _ st =>
  plainObj_wpAny_Assign_Attribute (h.run (Post.refl st) fun v s₁ d σ₁ _ P₁ vm h₁ => h₁.run P₁ fun ov s₂ od σ₂ p₂ P₂ om h₂ =>
    wpAny_mono (h₂ ov v s₂ P₂.st om (vm.mono p₂.ext)) (fun _ _ ⟨_, σ', P', _, q'⟩ => ⟨.next, σ', P₂.trans P', trivial, q'⟩) fun _ _ e => e.after P₂) (hs _)
noncomputable def WAt {α β : Type} (X : Cx) (body : List Stmt) (t : Sem α) (R : (Addr → Prop) → Heap → α → β → Prop) (σ : S) (Q : β → S → Prop) (E : Value → S → Prop) : Prop :=
  ∀ s, St X σ s.heap → PySem.wpAt (model X.prog X.w) X.A (.func body X.env) t (Qw X σ s R Q) (Ew X σ s E) s
theorem WAt.hide {α β : Type} {body : List Stmt} {t : Sem α} {R : (Addr → Prop) → Heap → α → β → Prop} {Q : β → S → Prop} (h : ∀ Q' E', (∀ b σ', Q b σ' → Q' b σ') → (∀ c σ', E c σ' → E' c σ') → WAt X body t R σ Q' E') : WAt X body t R σ Q E := h Q E (fun _ _ q => q) fun _ _ q => q
theorem WAt_cons {body : List Stmt} {st : Stmt} {rest : List Stmt} {Q : FV → S → Prop} (h : WX X st σ (fun f σ₁ => match f with | .next => WAt X body (execs rest X.env) FM σ₁ Q E | f => Q f σ₁) E) : WAt X body (execs (st :: rest) X.env) FM σ Q E := fun _ sst =>
  ks_wpAt_execs_cons (PySem.wpAt_of_wpAny (h.run (Post.refl sst) fun f s₁ g σ₁ _ P₁ r q => by
    cases f <;> cases g <;> first | exact r.elim | exact ks_wpAt_mono (q s₁ P₁.st) (fun _ _ z => z.after P₁) (fun _ _ z => z.after P₁) | exact ⟨_, _, P₁, r, q⟩))
theorem WAt_last {body : List Stmt} {st : Stmt} {Q : FV → S → Prop} (h : WAt X body (exec st X.env) FM σ Q E) : WAt X body (execs [st] X.env) FM σ Q E := fun s sst =>
  ks_wpAt_execs_cons (ks_wpAt_mono (h s sst) (fun f s₁ z => by
    obtain ⟨g, σ₁, P₁, r, q⟩ := z
    cases f <;> cases g <;> first | exact r.elim | exact PySem.wpAt_of_wpAny (wpAny_execs_nil (⟨FV.next, σ₁, P₁, trivial, q⟩ : Qw X σ s FM Q Flow.next s₁)) | exact ⟨_, _, P₁, r, q⟩) fun _ _ z => z)
theorem code_fnAt {fd : FuncData} {f : Addr} {body : List Stmt} {A' : Around} {R : Result → Shared → Prop} {s : Shared} {args : Args} {binds : List (Str × Value)} {loc0 : List (Str × V)} {Qb : FV → S → Prop} {Eb : Value → S → Prop}
    (ok : Ok X (n + 1)) (hf : FnIs X.K f fd body) (hA : Under X A') (st : St X σ s.heap) (hb : BindsTo s fd args binds) (hl : ∀ y ∈ binds, fd.scope.names.lookup y.1 = some .local)
    (hm : ∀ x d, lk loc0 x = some d → ∃ v, binds.reverse.lookup x = some v ∧ VM σ.mu s.heap v d)
    (h : ∀ L, Ok (X.into A' fd f L) n → WAt (X.into A' fd f L) body (execs body (X.into A' fd f L).env) FM ⟨loc0, σ.hp⟩ Qb Eb)
    (ret : ∀ v s' fl σ', Post X σ s ⟨σ.loc, σ'.hp⟩ s' → VM σ'.mu s'.heap v (retV fl) → Qb fl σ' → R (.ok (.ret v)) s')
    (exc : ∀ e s' cls σ', Post X σ s ⟨σ.loc, σ'.hp⟩ s' → ExcAt X σ'.mu s'.heap e cls → Eb cls σ' → R (.error (.ref e)) s') : codeAny (model X.prog X.w) A' (.call (.ref f) args) R s := by
  obtain ⟨oc, od, osl, hat⟩ := hf.at_
  have inK := ok.inK.keeps st.base
  have hroom : A'.depth < recursionLimit := by have := ok.depth; have := hA.depth; omega
  refine ks_codeAny_call_defAt (fd := fd) (body := body) (binds := binds) hroom (inK _ _ hat) rfl (ok.top.nolimit.keeps st.base) (codeRec_of inK hf.code) hf.body hb hf.cell hl (fun h₀ hn hk => ?_) hf.co hf.gen hf.kind
  have bL : X.base.objs.size ≤ s.heap.objs.size := by
    obtain ⟨m, hn, _⟩ := st.names
    exact Nat.le_trans ok.above (Nat.le_of_lt hn.lt)
  have pL : s.heap.objs.size ∉ X.prot := fun hp => by
    obtain ⟨_, o, vs, g, _⟩ := st.prot _ hp
    exact absurd (Heap.lt_size g) (Nat.lt_irrefl _)
  have ok' := ok_into (L := s.heap.objs.size) ok hf hA bL pL
  have st' := enter (A' := A') hf st hn hk hm
  refine ks_wpAt_mono (h s.heap.objs.size ok' { s with heap := h₀, toks := s.toks + binds.length } st') (fun fl s' q => ?_) fun e s' q => ?_
  · obtain ⟨g, σ', P, r, q⟩ := q
    have P' := post_back st hk P
    refine ret _ s' g σ' P' ?_ q
    cases fl <;> cases g <;> first | exact r.elim | exact VM.none | exact r
  · obtain ⟨ea, cls, σ', P, rfl, x, q⟩ := q
    refine leave_any ok' rfl P.st x fun h' P₂ x₂ => ?_
    have P' := post_back st hk (P.trans P₂)
    refine exc ea _ cls σ' P' ?_ q
    obtain ⟨a, b, oe, vs, a0, T, oT, ts, g, c, d, v0, v1, bT, pT, ne, gT, dT, v3⟩ := x₂
    exact ⟨a, b, oe, vs, a0, g, c, d, v0, .inr ⟨T, oT, ts, v1, bT, pT, ne, gT, dT, .inl v3⟩⟩
end
end Mine
namespace Mine
open PySem PySem.W PySem.Calls PySem.Spec PyProof.Rows
section
variable {X : Cx} {n : Nat} {σ : S} {E : Value → S → Prop}
theorem under_tc (X : Cx) (C : Addr) (rest : List Value) : Under X (X.A.under (.builtin "type.__call__" ⟨.ref C :: rest, []⟩)) where
  frames := by
    show pushEnvs (Code.envs (.builtin "type.__call__" ⟨.ref C :: rest, []⟩)) X.A.frames = X.A.frames
    have e : Code.envs (.builtin "type.__call__" ⟨.ref C :: rest, []⟩) = [] := rfl
    rw [e]; rfl
  depth := by
    show X.A.depth + Code.weight (.builtin "type.__call__" ⟨.ref C :: rest, []⟩) ≤ _
    have e : Code.weight (.builtin "type.__call__" ⟨.ref C :: rest, []⟩) = 1 := rfl
    omega
  units := by
    show X.A.units + Code.cUnits (.builtin "type.__call__" ⟨.ref C :: rest, []⟩) ≤ _
    have e : Code.cUnits (.builtin "type.__call__" ⟨.ref C :: rest, []⟩) = 1 := rfl
    omega
  handled := rfl
structure KMakeExc (K : Frag) (C fI : Addr) : Prop where
  call : specialIn K (.ref C) "__call__" = some (some (.builtin "type.__call__"))
  type : instIn K (.ref C) (.type "type") = some true
  self : subIn K (.ref C) (.ref C) = some true
  init : findIn K (.ref C) "__init__" = some (some (.ref fI))
  fn : typeIn K (.ref fI) = some (.type "function")
theorem Call.exc {fI C : Addr} {fd : FuncData} {body : List Stmt} {ds : List V} {loc0 : Addr → List (Str × V)} {Q : V → S → Prop}
    {nm qn : Str} {N : Addr} {bs bm : List Value} {hdct : Bool} {sn : List Str} {sub : List Value} {ab : Bool} {col : Option Bool} {dd : Option Addr} {k0 k1 k2 k3 k5 : Option Value} {B newId initId : String}
    (FB : ExcBaseFacts B newId initId bm) (ok : Ok X (n + 1)) (hC : X.K.lookup C = some (excClassObj nm qn C N bs bm hdct sn sub ab col dd k0 k1 k2 k3 k5 newId)) (km : KMakeExc X.K C fI) (hf : FnIs X.K fI fd body) (hlen : ds.length ≤ 100)
    (hb : ∀ a vs s (mu : Addr → Prop), X.K.In s.heap → VMs mu s.heap vs (.ref a :: ds) → ∃ binds, BindsTo s fd ⟨vs, []⟩ binds ∧ (∀ y ∈ binds, fd.scope.names.lookup y.1 = some .local) ∧ (∀ x d, lk (loc0 a) x = some d → ∃ v, binds.reverse.lookup x = some v ∧ VM mu s.heap v d))
    (h : ∀ A' a L, Under X A' → σ.hp a = none → Ok (X.into A' fd fI L) n → WAt (X.into A' fd fI L) body (execs body (X.into A' fd fI L).env) FM ⟨loc0 a, upd σ.hp a (.exc C none)⟩ (fun fl σ' => retV fl = .none ∧ Q (.ref a) ⟨σ.loc, σ'.hp⟩) (fun c σ' => E c ⟨σ.loc, σ'.hp⟩)) : Call X (.ref C) ds σ Q E := by
  intro vs s st vm
  obtain ⟨hh, gn, dr, tk, os⟩ := s
  have inK := st.inK ok
  have hC' := inK _ _ hC
  have P₁ := st_push st { cls := .type "tuple", data := .seq vs.toArray }
  have nn := new_none P₁.st
  have P₂ := post_write (h' := (hh.push { cls := .type "tuple", data := .seq vs.toArray }).push { cls := .ref C, data := .fields #[.ref hh.objs.size, .none, .none, .none, .bool false, .none] }) (tk := tk) (a := hh.objs.size + 1) (o := .exc C none) ok P₁.st
    (fun b o _ _ e => Heap.get?_push_of_some _ e) (by obtain ⟨m, hn, hm⟩ := P₁.st.names; exact ⟨m, hn.push _, hm⟩) (.inr (by have := Heap.get?_none_of_le (h := hh.push { cls := .type "tuple", data := .seq vs.toArray }) (Nat.le_refl _); rwa [Heap.size_push] at this))
    fun _ _ _ => ⟨_, _, by heap_get, rfl, rfl, rfl⟩
  have PP := P₁.trans P₂
  refine wpAny_call (exc_core FB hC' (looks_specialIn inK km.call) (looks_instIn inK km.type) (looks_subIn inK km.self) (looks_findIn inK km.init) (fun self => bind_fn inK self km.fn) (by rw [vm.length, sizeLine_eq]; omega) ?_)
  have vm' : VMs (S.mu { σ with hp := upd σ.hp (hh.objs.size + 1) (.exc C none) }) ((hh.push { cls := .type "tuple", data := .seq vs.toArray }).push { cls := .ref C, data := .fields #[.ref hh.objs.size, .none, .none, .none, .bool false, .none] }) (.ref (hh.objs.size + 1) :: vs) (.ref (hh.objs.size + 1) :: ds) := .cons (.ref _) (vm.mono PP.ext)
  obtain ⟨binds, b1, b2, b3⟩ := hb (hh.objs.size + 1) _ ⟨(hh.push { cls := .type "tuple", data := .seq vs.toArray }).push { cls := .ref C, data := .fields #[.ref hh.objs.size, .none, .none, .none, .bool false, .none] }, gn, dr, tk, os⟩ _ (P₂.st.inK ok) vm'
  refine code_fnAt (σ := { σ with hp := upd σ.hp (hh.objs.size + 1) (.exc C none) }) ok hf (under_tc X C vs) P₂.st b1 b2 b3 (fun L ok' => h _ _ L (under_tc X C vs) (by rw [Heap.size_push] at nn; exact nn) ok') (fun v s' fl σ' P r q => ?_) fun e s' cls σ' P x q => ?_
  · rw [q.1] at r
    cases r
    exact ⟨rfl, .ref _, _, PP.trans P, .ref _, q.2⟩
  · exact ⟨e, cls, _, PP.trans P, rfl, x, q⟩
structure KMake (K : Frag) (C fI : Addr) : Prop where
  makes : makesIn K C = true
  init : findIn K (.ref C) "__init__" = some (some (.ref fI))
  fn : typeIn K (.ref fI) = some (.type "function")
theorem Call.make {fI C : Addr} {fd : FuncData} {body : List Stmt} {ds : List V} {loc0 : Addr → List (Str × V)} {Q : V → S → Prop}
    (ok : Ok X (n + 1)) (km : KMake X.K C fI) (hf : FnIs X.K fI fd body)
    (hb : ∀ a vs s (mu : Addr → Prop), X.K.In s.heap → VMs mu s.heap vs (.ref a :: ds) → ∃ binds, BindsTo s fd ⟨vs, []⟩ binds ∧ (∀ y ∈ binds, fd.scope.names.lookup y.1 = some .local) ∧ (∀ x d, lk (loc0 a) x = some d → ∃ v, binds.reverse.lookup x = some v ∧ VM mu s.heap v d))
    (h : ∀ A' a dx L, Under X A' → σ.hp a = none → σ.hp dx = none → a ≠ dx → Ok (X.into A' fd fI L) n → WXs (X.into A' fd fI L) body ⟨loc0 a, upd (upd σ.hp dx (.dict [])) a (.inst C dx)⟩ (fun fl σ' => retV fl = .none ∧ Q (.ref a) ⟨σ.loc, σ'.hp⟩) (fun c σ' => E c ⟨σ.loc, σ'.hp⟩)) : Call X (.ref C) ds σ Q E := by
  intro vs s st vm
  obtain ⟨hh, gn, dr, tk, os⟩ := s
  have inK := st.inK ok
  have n0 := new_none st
  have P₁ := post_write (h' := hh.push emptyDict) (tk := tk) (a := hh.objs.size) (o := .dict []) ok st (fun b o _ _ e => Heap.get?_push_of_some _ e) (by obtain ⟨m, hn, hm⟩ := st.names; exact ⟨m, hn.push _, hm⟩) (.inr (Heap.get?_none_of_le (Nat.le_refl _)))
    fun _ _ _ => ⟨[], 0, Heap.get?_push_size _ rfl, .nil, by decide⟩
  have nn := new_none P₁.st
  have P₂ := post_write (h' := (hh.push emptyDict).push (instObj C hh.objs.size)) (tk := tk) (a := hh.objs.size + 1) (o := .inst C hh.objs.size) ok P₁.st
    (fun b o _ _ e => Heap.get?_push_of_some _ e) (by obtain ⟨m, hn, hm⟩ := P₁.st.names; exact ⟨m, hn.push _, hm⟩) (.inr (by have := Heap.get?_none_of_le (h := hh.push emptyDict) (Nat.le_refl _); rwa [Heap.size_push] at this))
    fun _ _ _ => (by show Heap.get? _ _ = _; heap_get)
  have PP := P₁.trans P₂
  refine wpAny_call (make_core (makes_of inK km.makes) (looks_findIn inK km.init) (fun self => bind_fn inK self km.fn) (.inl rfl) ?_)
  have vm' : VMs (S.mu { σ with hp := upd (upd σ.hp hh.objs.size (.dict [])) (hh.objs.size + 1) (.inst C hh.objs.size) }) ((hh.push emptyDict).push (instObj C hh.objs.size)) (.ref (hh.objs.size + 1) :: vs) (.ref (hh.objs.size + 1) :: ds) := .cons (.ref _) (vm.mono PP.ext)
  obtain ⟨binds, b1, b2, b3⟩ := hb (hh.objs.size + 1) _ ⟨(hh.push emptyDict).push (instObj C hh.objs.size), gn, dr, tk, os⟩ _ (P₂.st.inK ok) vm'
  have nn' : σ.hp (hh.objs.size + 1) = none := by
    rw [Heap.size_push] at nn
    have : upd σ.hp hh.objs.size (.dict []) (hh.objs.size + 1) = none := nn
    rwa [upd_ne (Nat.succ_ne_self _)] at this
  refine code_fn (σ := { σ with hp := upd (upd σ.hp hh.objs.size (.dict [])) (hh.objs.size + 1) (.inst C hh.objs.size) }) ok hf (under_tc X C vs) P₂.st b1 b2 b3 (fun L ok' => h _ _ _ L (under_tc X C vs) nn' n0 (Nat.succ_ne_self _) ok') (fun v s' fl σ' P r q => ?_) fun e s' cls σ' P x q => ?_
  · rw [q.1] at r
    cases r
    exact ⟨rfl, .ref _, _, PP.trans P, .ref _, q.2⟩
  · exact ⟨e, cls, _, PP.trans P, rfl, x, q⟩
end
end Mine
namespace Mine
open PySem PySem.W PySem.Calls PySem.Spec PyProof.Rows
section
variable {X : Cx} {n : Nat} {σ : S} {E : Value → S → Prop}
noncomputable def slc {α : Type} (l : List α) (lo hi : Option Int) : List α := (l.drop (kms_lo lo l.length)).take (kms_hi hi l.length - kms_lo lo l.length)
theorem clamp_neg {x : Int} {n : Nat} (h : x < 0) : max 0 (min (x + n) n) = ((n - (-x).toNat : Nat) : Int) := by
  obtain ⟨k, rfl⟩ : ∃ k : Nat, x = -(k : Int) := ⟨(-x).toNat, by rw [Int.toNat_of_nonneg (Int.neg_nonneg_of_nonpos (Int.le_of_lt h)), Int.neg_neg]⟩
  rw [Int.neg_neg, Int.toNat_natCast, ← Int.toNat_sub, Int.toNat_eq_max, Int.min_eq_left (by omega), Int.max_comm, Int.add_comm]; rfl
theorem clamp_pos {x : Int} {n : Nat} (h : ¬ x < 0) : max 0 (min x n) = ((min x.toNat n : Nat) : Int) := by
  obtain ⟨k, rfl⟩ := Int.eq_ofNat_of_zero_le (Int.not_lt.mp h)
  rw [Int.toNat_natCast]
  rcases Nat.le_total k n with h1 | h1
  · rw [Nat.min_eq_left h1, Int.min_eq_left (Int.ofNat_le.mpr h1), Int.max_eq_right (Int.natCast_nonneg k)]
  · rw [Nat.min_eq_right h1, Int.min_eq_right (Int.ofNat_le.mpr h1), Int.max_eq_right (Int.natCast_nonneg n)]
theorem idx_eq (lo hi : Option Int) (n : Nat) : Builtin.Str.strSliceIndices lo hi 1 n = (List.range (kms_hi hi n - kms_lo lo n)).map (kms_lo lo n + ·) := by
  unfold Builtin.Str.strSliceIndices
  have h1 : (1 : Int) > 0 := by decide
  simp only [h1, if_true]
  rw [← sliceRange_one]
  congr 1
  · cases lo with
    | none => rfl
    | some x =>
      by_cases h : x < 0
      · simp only [kms_lo, if_pos h]; exact clamp_neg h
      · simp only [kms_lo, if_neg h]; exact clamp_pos h
  · cases hi with
    | none => rfl
    | some x =>
      by_cases h : x < 0
      · simp only [kms_hi, if_pos h]; exact clamp_neg h
      · simp only [kms_hi, if_neg h]; exact clamp_pos h
theorem slice_eq (x : Str) (lo hi : Option Int) : (Txt.slice x lo hi).cps.toList = slc x.cps.toList lo hi := by
  unfold Txt.slice
  have hl : (Builtin.Str.strSliceIndices lo hi 1 x.length).length = kms_hi hi x.length - kms_lo lo x.length := by rw [idx_eq]; simp
  have hx : x.length = x.cps.toList.length := by rw [Array.length_toList]; rfl
  split
  · rename_i q
    simp only [beq_self_eq_true, Bool.true_and, beq_iff_eq] at q
    rw [hl] at q
    have hh : kms_hi hi x.length ≤ x.length := by unfold kms_hi; split <;> (try split) <;> omega
    unfold slc
    rw [← hx]
    have e0 : kms_lo lo x.length = 0 ∨ x.length = 0 := by omega
    rcases e0 with e0 | e0
    · rw [e0] at q ⊢
      rw [q, List.drop_zero, List.take_of_length_le (Nat.le_of_eq hx.symm)]
    · have : x.cps.toList = [] := List.length_eq_zero_iff.mp (hx ▸ e0)
      rw [this]; simp
  · show ((Builtin.Str.strSliceIndices lo hi 1 x.length).filterMap (x.cps[·]?)).toArray.toList = _
    rw [idx_eq, List.toList_toArray, pick_run]
    unfold slc
    rw [hx]
theorem slicePick_slc (items : Array Value) (lo hi : Option Int) : slicePick items lo hi none = (slc items.toList lo hi).toArray := kms_pick_eq items lo hi
inductive IsP : V → Option Int → Prop
  | none : IsP .none none
  | int (i : Int) : IsP (.int i) (some i)
theorem IsP.inv {d : V} {i : Option Int} (x : IsP d i) : (d = V.none ∧ i = Option.none) ∨ ∃ k, d = V.int k ∧ i = Option.some k := by
  cases x with
  | none => exact .inl ⟨rfl, rfl⟩
  | int k => exact .inr ⟨k, rfl, rfl⟩
theorem IsP.part {mu : Addr → Prop} {h : Heap} {v : Value} {d : V} {i : Option Int} (x : IsP d i) (m : VM mu h v d) : IsPart v i := by
  rcases x.inv with ⟨rfl, rfl⟩ | ⟨k, rfl, rfl⟩
  · obtain rfl := m.noneI; constructor
  · obtain ⟨t, rfl⟩ := m.intI; constructor
noncomputable abbrev WP (X : Cx) (x : Option Expr) (σ : S) (Q : V → S → Prop) (E : Value → S → Prop) : Prop := W X (evalPart x X.env) VM σ Q E
theorem WP_none {Q : V → S → Prop} (q : Q .none σ) : WP X none σ Q E := fun _ st => evalPart_none_step (qw_self st .none q)
theorem WP_some {e : Expr} {Q : V → S → Prop} (h : WE X e σ Q E) : WP X (some e) σ Q E := fun s st => evalPart_some_step (h s st)
theorem keptAll {h₀ : Heap} : KeptH (fun h => ∀ b o, h₀.get? b = some o → h.get? b = some o) := fun _ ob F b o e => Heap.get?_push_of_some ob (F b o e)
inductive SlcQ {α : Type} (A : List α → Prop) (lo hi : V) (Q : List α → Option Int → Option Int → Prop) : Prop
  | mk (l : List α) (i j : Option Int) (e : A l) (hl : l.length ≤ 10000) (h1 : IsP lo i) (h2 : IsP hi j) (q : Q l i j)
theorem W_SliceStr {value : Expr} {lower upper : Option Expr} {p pos : Pos} {Q : V → S → Prop}
    (h : WE X value σ (fun a σ₁ => WP X lower σ₁ (fun lo σ₂ => WP X upper σ₂ (fun hi σ₃ => SlcQ (fun l => a = .str l) lo hi fun l i j => Q (.str (slc l i j)) σ₃) E) E) E)
    (ht : ∀ x t r, letTemporaryGo value (.str x t) r = pure ()) :
    WE X (.Subscript value (.Slice lower upper none p) pos) σ Q E := fun s st => by
  refine Subscript_ (h.run (Post.refl st) fun v s₁ a σ₁ _ P₁ va h₁ => wpAny_Slice (h₁.run P₁ fun vl s₂ lo σ₂ p₂ P₂ vlo h₂ => h₂.run P₂ fun vu s₃ hi σ₃ p₃ P₃ vhi h₃ => ?_))
  obtain ⟨l, i, j, rfl, hlen, pi, pj, q⟩ := h₃
  obtain ⟨t, rfl⟩ := va.strI
  rw [evalPart_none]
  refine wpAny_pure ?_
  have hsz : (⟨l.toArray⟩ : Str).length ≤ sizeLine := by simp only [Str.length, List.size_toArray]; rw [sizeLine_eq]; omega
  have fin : ∀ h' t' k, (∀ b o, s₃.heap.get? b = some o → h'.get? b = some o) → Qw X σ s VM Q (.str (Txt.slice ⟨l.toArray⟩ i j) t') { s₃ with heap := h', toks := k } := fun h' t' k kk =>
    ⟨_, σ₃, P₃.trans (Post.keeps P₃.st h' k rfl kk), .strE (by rw [slice_eq]), q⟩
  rcases pi.inv with ⟨rfl, rfl⟩ | ⟨k1, rfl, rfl⟩ <;> rcases pj.inv with ⟨rfl, rfl⟩ | ⟨k2, rfl, rfl⟩
  · obtain rfl := vlo.noneI
    obtain rfl := vhi.noneI
    exact tail_of_ItemOn (SBH.sliceItem_nn keptAll (fun _ _ e => e) fin hsz) (by with_unfolding_all rfl) (ht _ _)
  · obtain rfl := vlo.noneI
    obtain ⟨_, rfl⟩ := vhi.intI
    exact tail_of_ItemOn (SBH.sliceItem_ns keptAll (fun _ _ e => e) fin hsz) (by with_unfolding_all rfl) (ht _ _)
  · obtain ⟨_, rfl⟩ := vlo.intI
    obtain rfl := vhi.noneI
    exact tail_of_ItemOn (SBH.sliceItem_sn keptAll (fun _ _ e => e) fin hsz) (by with_unfolding_all rfl) (ht _ _)
  · obtain ⟨_, rfl⟩ := vlo.intI
    obtain ⟨_, rfl⟩ := vhi.intI
    exact tail_of_ItemOn (SBH.sliceItem_ss keptAll (fun _ _ e => e) fin hsz) (by with_unfolding_all rfl) (ht _ _)
theorem VMs.drop {mu : Addr → Prop} {h : Heap} {vs : List Value} {ds : List V} (x : VMs mu h vs ds) (k : Nat) : VMs mu h (vs.drop k) (ds.drop k) := by
  induction k generalizing vs ds with
  | zero => exact x
  | succ k ih => cases x with
    | nil => simp; exact .nil
    | cons a r => simpa using ih r
theorem VMs.take {mu : Addr → Prop} {h : Heap} {vs : List Value} {ds : List V} (x : VMs mu h vs ds) (k : Nat) : VMs mu h (vs.take k) (ds.take k) := by
  induction k generalizing vs ds with
  | zero => simp; exact .nil
  | succ k ih => cases x with
    | nil => simp; exact .nil
    | cons a r => simpa using .cons a (ih r)
theorem VMs.slc {mu : Addr → Prop} {h : Heap} {vs : List Value} {ds : List V} (x : VMs mu h vs ds) (lo hi : Option Int) : VMs mu h (slc vs lo hi) (slc ds lo hi) := by
  unfold Mine.slc
  rw [x.length]
  exact (x.drop _).take _
inductive Lst (σ : S) : V → List V → Prop
  | val (ds : List V) : Lst σ (.lst ds) ds
  | own (a : Addr) (ds : List V) (e : σ.hp a = some (.lst ds)) : Lst σ (.ref a) ds
theorem Lst.get {h : Heap} {v : Value} {d : V} {ds : List V} (l : Lst σ d ds) (st : St X σ h) (x : VM σ.mu h v d) : ∃ a o vs n, v = .ref a ∧ h.get? a = some o ∧ o.cls = .type "list" ∧ o.data = .seq vs.toArray n ∧ VMs σ.mu h vs ds := by
  cases l with
  | val => obtain ⟨a, o, vs, n, e, g, c, d, _, r⟩ := x.lstI; exact ⟨a, o, vs, n, e, g, c, d, r⟩
  | own a ds e =>
    obtain rfl := x.refI
    obtain ⟨⟨vs, n, g, r⟩, _⟩ := st.own a _ e
    exact ⟨a, _, vs, n, rfl, g, rfl, rfl, r⟩
theorem W_SliceLst {value : Expr} {lower upper : Option Expr} {p pos : Pos} {Q : V → S → Prop}
    (h : WE X value σ (fun a σ₁ => WP X lower σ₁ (fun lo σ₂ => WP X upper σ₂ (fun hi σ₃ => SlcQ (Lst σ₃ a) lo hi fun l i j => Q (.lst (slc l i j)) σ₃) E) E) E)
    (ht : ∀ o r, letTemporaryGo value o r = pure ()) :
    WE X (.Subscript value (.Slice lower upper none p) pos) σ Q E := fun s st => by
  refine wpAny_Subscript_list_slice (h.run (Post.refl st) fun v s₁ a σ₁ _ P₁ va h₁ => h₁.run P₁ fun vl s₂ lo σ₂ p₂ P₂ vlo h₂ => h₂.run P₂ fun vu s₃ hi σ₃ p₃ P₃ vhi h₃ => ?_) ht
  obtain ⟨l, i, j, hll, hlen, pi, pj, q⟩ := h₃
  obtain ⟨b, o, vs, k, rfl, g, c, d, vm⟩ := hll.get P₃.st ((va.mono p₂.ext).mono p₃.ext)
  have ip : IsPart vl i := pi.part vlo
  have jp : IsPart vu j := pj.part vhi
  refine ⟨b, vs.toArray, i, j, rfl, ⟨o, g, c, k, d⟩, by rw [List.size_toArray, vm.length, sizeLine_eq]; omega, ip, jp, ?_⟩
  have P₄ := (st_push P₃.st { cls := .type "slice", data := .fields #[vl, vu, .none] })
  have P₅ := st_push P₄.st { cls := .type "list", data := .seq (slicePick vs.toArray i j none) }
  have PP := P₃.trans (P₄.trans P₅)
  have g5 := Heap.get?_push_size (s₃.heap.push { cls := .type "slice", data := .fields #[vl, vu, .none] }) (o := { cls := .type "list", data := .seq (slicePick vs.toArray i j none) }) rfl
  rw [Heap.size_push] at g5
  refine ⟨_, σ₃, PP, .lst g5 rfl (by rw [slicePick_slc]) (fun m => ?_) ((vm.mono (P₄.trans P₅).ext).slc i j), q⟩
  have := new_off P₄.st
  rw [Heap.size_push] at this
  exact this m
theorem W_Sub {value slice : Expr} {pos : Pos} {Q : V → S → Prop} (h : WE X value σ (fun a σ₁ => WE X slice σ₁ (fun b σ₂ => Op2 X (subscriptTail value slice) a b σ₂ Q E) E) E) : WE X (.Subscript value slice pos) σ Q E := fun _ st =>
  Subscript_ (h.run (Post.refl st) fun _ _ _ _ _ P₁ va h₁ => h₁.run P₁ fun _ _ _ _ p₂ P₂ vb h₂ => h₂.go P₂ (va.mono p₂.ext) vb)
theorem fits_ssize {i : Int} (h0 : -100000 ≤ i) (h : i ≤ 100000) : fitsSsize i = true := by unfold fitsSsize; simp; omega
theorem item_cps {l : List Nat} {k : Nat} {c : Nat} (e : l[k]? = some c) : (Txt.item ⟨l.toArray⟩ (k : Int)).cps.toList = [c] := by
  unfold Txt.item Txt.charAt seqIndex?
  have hk := (List.getElem?_eq_some_iff.mp e).1
  have e1 : ¬ ((k : Int) < 0) := by omega
  have e2 : (⟨l.toArray⟩ : Str).length = l.length := by simp [Str.length]
  simp [e1, e2, hk, e]
  obtain ⟨_, h2⟩ := List.getElem?_eq_some_iff.mp e
  exact h2
theorem new_exc {s : Shared} {h' : Heap} {tk : Nat} {e : Addr} {T : String} (st : St X σ s.heap) (N : Heap.NewExc s.heap h' e T) : Post X σ s σ { s with heap := h', toks := tk } ∧ ExcAt X σ.mu h' e (.type T) := by
  have P : Post X σ s σ { s with heap := h', toks := tk } := Post.keeps st h' tk rfl N.keeps
  obtain ⟨ob, t, g, c, d⟩ := N.there
  refine ⟨P, ⟨?_, fun m => ?_⟩, fun hp => ?_, ob, _, t, g, c, d, ⟨rfl, fun _ => rfl⟩, .inl rfl⟩
  · cases q : X.base.get? e with
    | none => rfl
    | some o => have := st.base e o q; rw [N.new] at this; cases this
  · cases q : σ.hp e with
    | none => exact m q
    | some o => obtain ⟨ob, g⟩ := (st.own e o q).1.there; rw [N.new] at g; cases g
  · obtain ⟨_, o, ws, g, _⟩ := st.prot e hp
    rw [N.new] at g; cases g
theorem s_strItem {l : List Nat} {k : Nat} {value slice : Expr} {Q : V → S → Prop} (ok : Ok X n) (hc : X.ctx = none) (hl : l.length ≤ 10000) (hk : k ≤ 10000) (q : match l[k]? with | some c => Q (.str [c]) σ | none => E (.type "IndexError") σ)
    (hs : ∀ x t i u, subscripted slice false (.str x t) (.int i u) = operate [.str x t, .int i u] (getItem (.str x t) (.int i u)))
    (ht : ∀ x t r, letTemporaryGo value (.str x t) r = pure ()) : Op2 X (subscriptTail value slice) (.str l) (.int k) σ Q E := fun v w s st va wb => by
  obtain ⟨t, rfl⟩ := va.strI
  obtain ⟨_, rfl⟩ := wb.intI
  have hlen : (⟨l.toArray⟩ : Str).length = l.length := by simp [Str.length]
  refine item_str_or (by rw [ok.handled, hc]; rfl) (fits_ssize (by omega) (by omega)) (fun ho h' tk e N => ?_) (fun h1 h2 => ?_) (hs _ _ _ _) (ht _ _)
  · rw [hlen] at ho
    have : l[k]? = none := List.getElem?_eq_none (by omega)
    rw [this] at q
    obtain ⟨P, x⟩ := new_exc (tk := tk) st N
    exact ⟨e, _, σ, P, rfl, x, q⟩
  · rw [hlen] at h2
    have hk' : k < l.length := by omega
    have e : l[k]? = some l[k] := List.getElem?_eq_getElem hk'
    rw [e] at q
    exact qw_same st _ (.strE (item_cps e)) q
end
end Mine
namespace Mine
open PySem PySem.W PySem.Calls PySem.Spec PyProof.Rows
section
variable {X : Cx} {n : Nat} {σ : S} {E : Value → S → Prop}
structure Sub (σ' σ : S) : Prop where
  loc : ∀ x d, lk σ'.loc x = some d → lk σ.loc x = some d
  hp : ∀ a o, σ'.hp a = some o → σ.hp a = some o
theorem Sub.post {σ' : S} {s : Shared} (u : Sub σ' σ) (st : St X σ s.heap) : Post X σ s σ' s := post_drop (Post.refl st) u.hp u.loc
theorem W.drop {α β : Type} {t : Sem α} {R : (Addr → Prop) → Heap → α → β → Prop} {Q : β → S → Prop} {σ' : S} (u : Sub σ' σ) (h : W X t R σ' Q E) : W X t R σ Q E := fun s st => h.go (u.post st)
theorem noted_Ew {σ₀ : S} {s₀ s : Shared} {e : Value} (ok : Ok X n) (he : X.env = X.fenv) (h : Ew X σ₀ s₀ E e s) : notedBy (model X.prog X.w) X.A X.env (fun e s' => cameBackBy (model X.prog X.w) X.A X.env (Ew X σ₀ s₀ E) e s') e s := by
  obtain ⟨ea, cls, σ', P, rfl, x, q⟩ := h
  exact noted_back ok he P.st x P q ok.frames
theorem WX_While {test : Expr} {body orelse : List Stmt} {pos : Pos} {Q : FV → S → Prop} (ok : Ok X n) (he : X.env = X.fenv) (I : Nat → S → Prop)
    (turn : ∀ k σ, I k σ → WT X test σ (fun b σ₁ => if b then WXs X body σ₁ (fun f σ₂ => match f with | .next => ∃ m, m < k ∧ I m σ₂ | .cont => ∃ m, m < k ∧ I m σ₂ | .brk => Q .next σ₂ | .ret d => Q (.ret d) σ₂) E else WXs X orelse σ₁ Q E) E)
    (k : Nat) (h : I k σ) : WX X (.While test body orelse pos) σ Q E := fun s st => by
  refine wpAny_While (codeAny_whileLoop (fun k s' => ∃ σ', Post X σ s σ' s' ∧ I k σ') (fun k s₁ hI => ?_) k ⟨σ, Post.refl st, h⟩)
  obtain ⟨σ₁, P₁, i₁⟩ := hI
  refine wpAny_mono ((turn k σ₁ i₁).run P₁ (Q' := fun b s₂ => if b then wpAny (model X.prog X.w) X.A (execs body X.env) (fun f s₃ => match f with
            | .next | .cont => ∃ m, m < k ∧ ∃ σ', Post X σ s σ' s₃ ∧ I m σ'
            | .brk => Qw X σ s FM Q .next s₃
            | .ret v => Qw X σ s FM Q (.ret v) s₃) (Ew X σ s E) s₂
        else wpAny (model X.prog X.w) X.A (execs orelse X.env) (fun f s₃ => Qw X σ s FM Q f s₃) (Ew X σ s E) s₂) fun b s₂ b' σ₂ _ P₂ e q => ?_) (fun b s₂ q => ?_) fun e s₂ q => noted_Ew ok he q
  · subst e
    cases b
    · simp only [Bool.false_eq_true, if_false] at q ⊢
      exact q.go P₂
    · simp only [if_true] at q ⊢
      refine q.run P₂ fun f s₃ g σ₃ _ P₃ r q => ?_
      cases f <;> cases g <;> first | exact r.elim | skip
      · obtain ⟨m, hm, im⟩ := q
        exact ⟨m, hm, σ₃, P₃, im⟩
      · exact ⟨FV.next, σ₃, P₃, trivial, q⟩
      · obtain ⟨m, hm, im⟩ := q
        exact ⟨m, hm, σ₃, P₃, im⟩
      · exact ⟨_, σ₃, P₃, r, q⟩
  · cases b
    · simp only [Bool.false_eq_true, if_false] at q ⊢
      exact wpAny_mono q (fun _ _ z => z) fun _ _ z => noted_Ew ok he z
    · simp only [if_true] at q ⊢
      exact wpAny_mono q (fun f _ z => by cases f <;> exact z) fun _ _ z => noted_Ew ok he z
inductive Iter (X : Cx) (σ : S) (h : Heap) (I : Addr) (n : Nat) (ds : Nat → V) : Prop
  | mk (fp wr : List Addr) (P : Nat → Value → Prop) (St : Nat → Heap → Prop) (hW : ∀ A' : Around, A'.handled = none → Walks X.prog X.w A' I fp wr n P St) (st0 : St 0 h) (hrec : ∀ i h', St i h' → ∀ b ∈ wr, ∃ o vs, h'.get? b = some o ∧ o.data = .fields vs)
    (hwr : ∀ b ∈ wr, X.base.get? b = none ∧ ¬ σ.mu b ∧ b ∉ X.prot) (hfp : ∀ b ∈ fp, b ∉ wr → ¬ σ.mu b ∧ ∃ o, h.get? b = some o ∧ isSeq o.data)
    (hvm : ∀ i v mu' h', i < n → P i v → SeqX σ.mu h mu' h' → VM mu' h' v (ds i))
noncomputable def Itb (X : Cx) (a : V) (σ : S) (n : Nat) (ds : Nat → V) : Prop := ∀ v s (Q : Value → Shared → Prop) (E' : Value → Shared → Prop), St X σ s.heap → VM σ.mu s.heap v a →
  (∀ I s', Post X σ s σ s' → Iter X σ s'.heap I n ds → Q (.ref I) s') → wpAny (model X.prog X.w) X.A (pyIter v) Q E' s
noncomputable def Cx.watch (X : Cx) (wr : List Addr) : Cx := { X with prot := wr ++ X.prot }
theorem ok_watch {wr : List Addr} (ok : Ok X n) (h : X.env.locals ∉ wr) : Ok (X.watch wr) n :=
  ⟨ok.inK, ok.top, ok.frames, ok.frame, ok.eframe, ok.kind, ok.genv, ok.benv, ok.above, (fun q => (List.mem_append.mp q).elim h ok.locProt), ok.handled, (fun p q => List.mem_append_right _ (ok.ctxIn p q)), ok.depth, ok.units⟩
theorem st_watch {h : Heap} {wr : List Addr} (hc : X.ctx = none) (st : St X σ h) (hw : ∀ b ∈ wr, ¬ σ.mu b ∧ ∃ o vs, h.get? b = some o ∧ o.data = .fields vs) : St (X.watch wr) σ h :=
  ⟨st.base, st.names, st.own, st.locOff, (fun a ha => (List.mem_append.mp ha).elim (fun q => let ⟨z, o, vs, g, d⟩ := hw a q; ⟨z, o, vs, g, d, fun e => by have e' : X.ctx = some (a, true) := e; rw [hc] at e'; cases e'⟩) fun q => st.prot a q), st.frs⟩
theorem st_unwatch {h : Heap} {wr : List Addr} (st : St (X.watch wr) σ h) : St X σ h := ⟨st.base, st.names, st.own, st.locOff, fun a ha => st.prot a (List.mem_append_right _ ha), st.frs⟩
theorem post_unwatch {s s' : Shared} {σ' : S} {wr : List Addr} (P : Post (X.watch wr) σ s σ' s') : Post X σ s σ' s' :=
  ⟨P.upd, ⟨P.ext.seq, P.ext.obj, fun a ha => P.ext.watch a (List.mem_append_right _ ha)⟩, st_unwatch P.st⟩
theorem exc_unwatch {mu : Addr → Prop} {h : Heap} {e : Addr} {wr : List Addr} {cls : Value} (x : ExcAt (X.watch wr) mu h e cls) : ExcAt X mu h e cls := by
  obtain ⟨a, pe, oe, vs, a0, g, c, d, v0, hx⟩ := x
  refine ⟨a, fun q => pe (List.mem_append_right _ q), oe, vs, a0, g, c, d, v0, ?_⟩
  rcases hx with v1 | ⟨T, oT, ts, v1, bT, pT, r⟩
  · exact .inl v1
  · exact .inr ⟨T, oT, ts, v1, bT, (fun q => pT (List.mem_append_right _ q)), r⟩
inductive ItAt (X : Cx) (σ : S) (s : Shared) (Q : Nat → (Nat → V) → S → Prop) (it : Value) (s₂ : Shared) : Prop
  | mk (I : Addr) (N : Nat) (ds : Nat → V) (σ₂ : S) (e : it = .ref I) (P : Post X σ s σ₂ s₂) (IT : Iter X σ₂ s₂.heap I N ds) (q : Q N ds σ₂)
noncomputable def WIt (X : Cx) (iter : Expr) (σ : S) (Q : Nat → (Nat → V) → S → Prop) (E : Value → S → Prop) : Prop :=
  ∀ s, St X σ s.heap → wpAny (model X.prog X.w) X.A (eval iter X.env) (fun x s₁ => wpAny (model X.prog X.w) X.A (pyIter x) (ItAt X σ s Q) (Ew X σ s E) s₁) (Ew X σ s E) s
theorem wit_val {iter : Expr} {Q : Nat → (Nat → V) → S → Prop} (h : WE X iter σ (fun a σ₁ => ∃ N ds, Itb X a σ₁ N ds ∧ Q N ds σ₁) E) : WIt X iter σ Q E := fun s st =>
  h.run (Post.refl st) fun v s₁ a σ₁ _ P₁ va ⟨N, ds, itb, q⟩ => itb v s₁ _ _ P₁.st va fun J s₂ P₂ IT => ⟨J, N, ds, σ₁, rfl, P₁.trans P₂, IT, q⟩
theorem new_facts {s : Shared} (st : St X σ s.heap) : X.base.get? s.heap.objs.size = none ∧ ¬ σ.mu s.heap.objs.size ∧ s.heap.objs.size ∉ X.prot := by
  refine ⟨?_, new_off st, fun hp => ?_⟩
  · cases q : X.base.get? s.heap.objs.size with
    | none => rfl
    | some o => exact absurd (Heap.lt_size (st.base _ o q)) (Nat.lt_irrefl _)
  · obtain ⟨_, o, vs, g, _⟩ := st.prot _ hp
    exact absurd (Heap.lt_size g) (Nat.lt_irrefl _)
theorem itb_str {l : List Nat} : Itb X (.str l) σ l.length (fun i => .str [l.getD i 0]) := fun v s Q E' st vm q => by
  obtain ⟨t, rfl⟩ := vm.strI
  refine wpAny_pyIter_strU (q _ _ (st_push st _) ?_)
  have hsz : (⟨l.toArray⟩ : Str).cps.size = l.length := by simp
  have hv : ∀ i v mu' h', i < l.length → SignAt ⟨l.toArray⟩ i v → SeqX σ.mu (s.heap.push { cls := .type (strIterType ⟨l.toArray⟩), data := .fields #[.str ⟨l.toArray⟩ t, .int 0 0] }) mu' h' → VM mu' h' v (.str [l.getD i 0]) := fun i v mu' h' hi sa _ => by
    obtain ⟨c, u, e, rfl⟩ := sa
    have e' : l[i]? = some c := by simpa using e
    refine .strE ?_
    rw [List.getD_eq_getElem?_getD, e']; rfl
  have hst : Heap.IsStrIter (s.heap.push { cls := .type (strIterType ⟨l.toArray⟩), data := .fields #[.str ⟨l.toArray⟩ t, .int 0 0] }) s.heap.objs.size (strIterType ⟨l.toArray⟩) ⟨l.toArray⟩ t 0 := ⟨_, Heap.get?_push_size _ rfl, rfl, rfl⟩
  refine ⟨[s.heap.objs.size], [s.heap.objs.size], SignAt ⟨l.toArray⟩, fun i h => h.IsStrIter s.heap.objs.size (strIterType ⟨l.toArray⟩) ⟨l.toArray⟩ t i, fun A' hA => ?_, hst, fun i h' ⟨o, g, c, d⟩ b hb => ?_, fun b hb => ?_, fun b hb nb => absurd hb nb, hv⟩
  · rw [← hsz]
    unfold strIterType
    split
    · exact Walks.strAscii hA _ _ t
    · exact Walks.strWide hA _ _ t
  · rw [List.mem_singleton.mp hb]; exact ⟨o, _, g, d⟩
  · rw [List.mem_singleton.mp hb]; exact new_facts st
theorem itb_lst {ds : List V} : Itb X (.lst ds) σ ds.length (fun i => ds.getD i .none) := fun v s Q E' st vm q => by
  obtain ⟨a, o, vs, n, rfl, g, c, d, nm, vms⟩ := vm.lstI
  refine wpAny_pyIter_list (items := vs.toArray) ⟨o, g, c, n, d⟩ (q _ _ (st_push st _) ?_)
  have P := st_push st { cls := .type "list_iterator", data := .fields #[.ref a, .int 0 0] }
  have ga := Heap.get?_push_of_some { cls := .type "list_iterator", data := .fields #[.ref a, .int 0 0] } g
  have ne : a ≠ s.heap.objs.size := Nat.ne_of_lt (Heap.lt_size g)
  have hsz : vs.toArray.size = ds.length := by rw [List.size_toArray, vms.length]
  refine ⟨[s.heap.objs.size, a], [s.heap.objs.size], fun i v => vs.toArray[i]? = some v, fun i h => h.IsListIter s.heap.objs.size a i ∧ h.IsList a vs.toArray, fun A' hA => by rw [← hsz]; exact Walks.list hA _ _ ne _, ⟨⟨_, Heap.get?_push_size _ rfl, rfl, rfl⟩, ⟨o, ga, c, n, d⟩⟩, fun i h' ⟨⟨o, g, c, d⟩, _⟩ b hb => ?_, fun b hb => ?_, fun b hb nb => ?_, fun i v mu' h' hi e x => ?_⟩
  · rw [List.mem_singleton.mp hb]; exact ⟨o, _, g, d⟩
  · rw [List.mem_singleton.mp hb]; exact new_facts st
  · rcases List.mem_cons.mp hb with rfl | hb
    · exact absurd (.head _) nb
    · rw [List.mem_singleton.mp hb]; exact ⟨nm, o, ga, by rw [d]; trivial⟩
  · have e' : vs[i]? = some v := by simpa using e
    obtain ⟨dv, e2, vm'⟩ := vms.get' e'
    have vm'' := (vm'.mono P.ext).monoS x
    show VM mu' h' v (ds.getD i .none)
    rw [List.getD_eq_getElem?_getD, e2]; exact vm''
end
end Mine
namespace Mine
open PySem PySem.W PySem.Calls PySem.Spec PyProof.Rows
section
variable {X : Cx} {n : Nat} {σ : S} {E : Value → S → Prop}
inductive IterT (X : Cx) (σ : S) (h : Heap) (I : Addr) (n : Nat) (d1 d2 : Nat → V) : Prop
  | mk (fp wr : List Addr) (Pt : Nat → Array Value → Prop) (SS : Nat → Heap → Prop) (Mid : Nat → Addr → Heap → Prop) (hW : ∀ A' : Around, A'.handled = none → WalksU X.prog X.w A' I fp wr n Pt SS Mid) (st0 : SS 0 h) (hrec : ∀ i h', SS i h' → ∀ b ∈ wr, ∃ o vs, h'.get? b = some o ∧ o.data = .fields vs)
    (hrec2 : ∀ i T h', Mid i T h' → ∀ b ∈ wr, ∃ o vs, h'.get? b = some o ∧ o.data = .fields vs)
    (hwr : ∀ b ∈ wr, X.base.get? b = none ∧ ¬ σ.mu b ∧ b ∉ X.prot) (hfp : ∀ b ∈ fp, b ∉ wr → ¬ σ.mu b ∧ ∃ o, h.get? b = some o ∧ isSeq o.data)
    (hvm : ∀ i vals mu' h', i < n → Pt i vals → SeqX σ.mu h mu' h' → ∃ v w, vals = #[v, w] ∧ VM mu' h' v (d1 i) ∧ VM mu' h' w (d2 i))
inductive ItAtT (X : Cx) (σ : S) (s : Shared) (Q : Nat → (Nat → V) → (Nat → V) → S → Prop) (it : Value) (s₂ : Shared) : Prop
  | mk (I : Addr) (N : Nat) (d1 d2 : Nat → V) (σ₂ : S) (e : it = .ref I) (P : Post X σ s σ₂ s₂) (IT : IterT X σ₂ s₂.heap I N d1 d2) (q : Q N d1 d2 σ₂)
end
end Mine
namespace Mine
open PySem PySem.W PySem.Calls PySem.Spec PyProof.Rows
section
variable {X : Cx} {n : Nat} {σ : S} {E : Value → S → Prop}
theorem call_raw {pos : Pos} {f : Value} {trees : List (Bool × Sem Value)} {Q : Value → Shared → Prop} {E' : Value → Shared → Prop} {s : Shared} {A : Around} (hk : Keeps X f) (hplain : trees.any (·.1) = false)
    (main : wpAny (model X.prog X.w) A (spliced trees) (fun vs s₁ => X.K.In s₁.heap ∧ wpAny (model X.prog X.w) A (call f vs) Q E' s₁) E' s) : wpAny (model X.prog X.w) A (callWith pos f [] trees []) Q E' s := by
  refine callWith_of (P := X.K.In) (by rw [hplain]; rfl) hk ?_
  cases trees with
  | nil =>
    unfold evalArgs
    show wpAny _ _ (spliced [] >>= _) _ _ s
    refine wpAny_bind (wpAny_mono main (fun vs s' h' => ?_) fun _ _ x => x)
    refine wpAny_holding ?_
    exact wpAny_bind (wpAny_pure (wpAny_bind (wpAny_pure (wpAny_pure h'))))
  | cons t r =>
    obtain ⟨b, t⟩ := t
    cases b
    · exact evalArgs_plain main
    · simp at hplain
structure KB (X : Cx) (x : Str) (v : Value) : Prop where
  kind : X.env.kindOf x = some .globalImplicit
  glob : nsIn X.K mainGlobals x = some none
  boot : bootBuiltins x = some v
theorem W_kb {x : Str} {pos : Pos} {v : Value} {Q : V → S → Prop} (ok : Ok X n) (k : KB X x v) (hn : x ≠ "__name__") (q : Q (.lit v) σ) (hd : (x == ("__debug__" : Str)) = false) : WE X (.Name x pos) σ Q E :=
  W_builtin ok k.kind k.glob k.boot hn q hd
inductive RngQ (ds : List V) (P : Nat → Prop) : Prop
  | mk (b : Nat) (e : ds = [.int b]) (hb : b ≤ 100000) (q : P b)
theorem wit_range1 {e : Expr} {np pos : Pos} {Q : Nat → (Nat → V) → S → Prop} (ok : Ok X n) (k : KB X "range" (.type "range")) (hplain : ∀ env, (backTo pos (starEach [e] env)).any (·.1) = false)
    (h : W X (spliced (backTo pos (starEach [e] X.env))) VMs σ (fun ds σ₁ => RngQ ds fun b => Q b (fun i => .int i) σ₁) E) : WIt X (.Call (.Name "range" np) [e] [] pos) σ Q E := fun s st => by
  refine wpAny_Call_NameR ((W_kb (Q := fun f σ' => f = .lit (.type "range") ∧ σ' = σ) ok k (by decide) ⟨rfl, rfl⟩ (by decide)).run (Post.refl st) fun v s₁ f σ₁ _ P₁ vm h₁ => ?_)
  obtain ⟨rfl, rfl⟩ := h₁
  cases vm.litI
  refine call_raw keeps_type (hplain _) (h.run P₁ fun vs s₂ ds σ₂ p₂ P₂ vms h₂ => ⟨P₂.st.inK ok, ?_⟩)
  obtain ⟨b, rfl, hb, q⟩ := h₂
  obtain ⟨v, rfl, vv⟩ := vms.one
  obtain ⟨tk, rfl⟩ := vv.intI
  refine call_range_1 ?_
  have P₃ : Post X σ₂ s₂ σ₂ { s₂ with heap := s₂.heap.push { cls := .type "range", data := .fields #[.int 0 s₂.toks, .int b tk, .int 1 (s₂.toks + 1)] }, toks := s₂.toks + 1 + 1 } :=
    Post.keeps P₂.st _ _ rfl fun _ _ e => Heap.get?_push_of_some _ e
  refine wpAny_pyIter_range (s := { s₂ with heap := s₂.heap.push { cls := .type "range", data := .fields #[.int 0 s₂.toks, .int b tk, .int 1 (s₂.toks + 1)] }, toks := s₂.toks + 1 + 1 }) (IsRange.new ..) (small_one (by omega) (by omega) (by omega) (by omega)) ?_
  have P₄ := st_push P₃.st { cls := .type "range_iterator", data := .fields #[rawInt 0, rawInt (Builtin.Range.rangeSize 0 b 1), rawInt 1] }
  have er : Builtin.Range.rangeSize 0 (b : Int) 1 = (b : Int) := by rw [rangeSize_one]; split <;> omega
  refine ⟨_, b, _, σ₂, rfl, P₂.trans (P₃.trans P₄), ?_, q⟩
  refine ⟨[_], [_], fun i v => ∃ t, v = .int (0 + i * 1) t, fun i h => IsRangeIter h (s₂.heap.push { cls := .type "range", data := .fields #[.int 0 s₂.toks, .int b tk, .int 1 (s₂.toks + 1)] }).objs.size (0 + (i : Nat) * 1) ((b : Int) - (i : Nat)) 1, fun A' hA => Walks.range hA _ 0 1 b, ?_, fun i h' g c hc => ?_, fun c hc => ?_, fun c hc nb => absurd hc nb, fun i v mu' h' _ hv _ => ?_⟩
  · have g := Heap.get?_push_size (s₂.heap.push { cls := .type "range", data := .fields #[.int 0 s₂.toks, .int b tk, .int 1 (s₂.toks + 1)] }) (o := { cls := .type "range_iterator", data := .fields #[rawInt 0, rawInt (Builtin.Range.rangeSize 0 b 1), rawInt 1] }) rfl
    rw [er] at g
    show Heap.get? _ _ = _
    simpa [er] using g
  · rw [List.mem_singleton.mp hc]; exact ⟨_, _, g, rfl⟩
  · rw [List.mem_singleton.mp hc]; exact new_facts P₃.st
  · obtain ⟨t, rfl⟩ := hv
    have e : ((0 : Int) + (i : Int) * 1) = (i : Int) := by omega
    rw [e]; exact .int _ _
end
end Mine
namespace Mine
open PySem PySem.W PySem.Calls PySem.Spec PyProof.Rows
section
variable {X : Cx} {n : Nat} {σ : S} {E : Value → S → Prop}
theorem W_ListO {elts : List Expr} {pos : Pos} {Q : V → S → Prop} (ok : Ok X n) (h : W X (spliced (backTo pos (starEach elts X.env))) VMs σ (fun as σ₁ => as.length ≤ 1000 ∧ ∀ a, σ₁.hp a = none → Q (.ref a) { σ₁ with hp := upd σ₁.hp a (.lst as) }) E) : WE X (.List elts pos) σ Q E := fun _ st =>
  List_ (h.run (Post.refl st) fun vs s₁ as σ₁ _ P₁ va q => wpAny_newList (by
    have P := post_write (h' := s₁.heap.push { cls := .type "list", data := .seq vs.toArray }) (tk := s₁.toks) (a := s₁.heap.objs.size) (o := .lst as) ok P₁.st (fun b o _ _ e => Heap.get?_push_of_some _ e) (by obtain ⟨m, hn, hm⟩ := P₁.st.names; exact ⟨m, hn.push _, hm⟩) (.inr (Heap.get?_none_of_le (Nat.le_refl _)))
      fun _ _ mv => ⟨vs, 0, Heap.get?_push_size _ rfl, mv _ _ va⟩
    exact ⟨.ref s₁.heap.objs.size, _, P₁.trans P, .ref _, q.2 _ (new_none P₁.st)⟩) (by rw [va.length, sizeLine_eq]; omega))
theorem gm_append {a : Addr} {ds : List V} {Q : Value → List V → S → Prop} (h1 : σ.hp a = some (.lst ds)) (q : Q (.builtin "list.append") [.ref a] σ) : GetM X (.ref a) "append" σ Q E := by
  intro v s pl st vm
  obtain rfl := vm.refI
  obtain ⟨⟨vs, k, g, _⟩, _⟩ := st.own a _ h1
  exact Calls.getMethod_list_append g rfl rfl ⟨[.ref a], σ, Post.refl st, .cons (.ref a) .nil, q⟩
theorem c_append {a : Addr} {ds : List V} {d : V} {Q : V → S → Prop} (ok : Ok X n) (h1 : σ.hp a = some (.lst ds)) (hl : ds.length ≤ 10000000) (q : Q .none { σ with hp := upd σ.hp a (.lst (ds ++ [d])) }) : Call X (.builtin "list.append") [.ref a, d] σ Q E := fun vs s st vm => by
  obtain ⟨v, w, rfl, va, vb⟩ := vm.two
  obtain rfl := va.refI
  obtain ⟨⟨vs, k, g, vms⟩, _⟩ := st.own a _ h1
  refine append_at g (fun h' hs g' => ?_) (by rw [List.size_toArray, vms.length, sizeLine_eq]; omega)
  obtain ⟨m, hn, hm⟩ := st.names
  have aL : X.env.locals ≠ a := fun e => st.locOff (by rw [e]; show σ.hp a ≠ none; rw [h1]; exact Option.some_ne_none _)
  have P := post_write (h' := h') (tk := s.toks) (a := a) (o := .lst (ds ++ [d])) ok st (fun b o n1 _ e => (hs.2 b n1).trans e) ⟨m, hn.at' (fun o e => (hs.2 _ aL).trans e), hm⟩ (.inl (by rw [h1]; exact Option.some_ne_none _))
    fun mv _ mvs => ⟨vs ++ [w], k + 1, by rw [g']; simp, (mvs _ _ vms).append (.cons (mv _ _ vb) .nil)⟩
  exact ⟨.none, _, P, .none, q⟩
inductive Fz (hp hp' : Addr → Option HO) : V → V → Prop
  | refl (d : V) : Fz hp hp' d d
  | pair {a b a' b' : V} : Fz hp hp' a a' → Fz hp hp' b b' → Fz hp hp' (.tup [a, b]) (.tup [a', b'])
  | own {a : Addr} {ds : List V} : hp a = some (.lst ds) → hp' a = none → Fz hp hp' (.ref a) (.lst ds)
theorem Fz.vm {h : Heap} {hp' : Addr → Option HO} (st : St X σ h) (hs : ∀ a o, hp' a = some o → σ.hp a = some o) {d d' : V} (z : Fz σ.hp hp' d d') : ∀ {v : Value}, VM σ.mu h v d → VM (S.mu ⟨σ.loc, hp'⟩) h v d' := by
  have nm : ∀ a, ¬ σ.mu a → ¬ S.mu ⟨σ.loc, hp'⟩ a := fun a n m => by
    cases q : hp' a with
    | none => exact m q
    | some o => exact n (by show σ.hp a ≠ none; rw [hs a o q]; exact Option.some_ne_none _)
  induction z with
  | refl d => exact fun x => vm_drop x hs
  | pair _ _ iha ihb =>
    intro v x
    obtain ⟨a, o, vs, n, rfl, g, c, e, nmu, vm⟩ := x.tupI
    obtain ⟨v, w, rfl, v1, v2⟩ := vm.two
    exact .tup g c e (nm _ nmu) (.cons (iha v1) (.cons (ihb v2) .nil))
  | own h1 h2 =>
    intro v x
    obtain rfl := x.refI
    obtain ⟨⟨vs, k, g, vms⟩, _⟩ := st.own _ _ h1
    refine .lst g rfl rfl (fun m => m h2) ?_
    refine vms.mono (L := 0) (prot := []) ⟨fun a o e n _ => ⟨e, nm a n⟩, fun a o e n _ _ => ⟨nm a n, o.slots, e⟩, fun a ha => nomatch ha⟩
structure SubF (σ' σ : S) : Prop where
  hp : ∀ a o, σ'.hp a = some o → σ.hp a = some o
  loc : ∀ x d', lk σ'.loc x = some d' → ∃ d, lk σ.loc x = some d ∧ Fz σ.hp σ'.hp d d'
theorem Call.fz {f : Value} {ds : List V} {Q : V → S → Prop} (h : Call X f ds σ (fun d σ' => ∃ hp' d', (∀ a o, hp' a = some o → σ'.hp a = some o) ∧ Fz σ'.hp hp' d d' ∧ Q d' ⟨σ'.loc, hp'⟩) E) : Call X f ds σ Q E := fun vs s st vm =>
  wpAny_mono (h vs s st vm) (fun v s' q => by
    obtain ⟨d, σ', P, r, hp', d', hs, z, q⟩ := q
    exact ⟨d', _, post_drop P hs (fun _ _ e => e), z.vm P.st hs r, q⟩) fun _ _ q => q
mutual
noncomputable def V.dat : V → PyData
  | .none => .none
  | .bool b => .bool b
  | .int i => .int i
  | .str l => .str ⟨l.toArray⟩
  | .tup ds => .tuple (V.dats ds)
  | .lst ds => .list (V.dats ds)
  | .ref _ => .none
  | .lit _ => .none
noncomputable def V.dats : List V → List PyData
  | [] => []
  | d :: ds => V.dat d :: V.dats ds
end
mutual
noncomputable def V.plain : V → Bool
  | .tup ds => V.plains ds
  | .lst ds => V.plains ds
  | .ref _ => false
  | .lit _ => false
  | _ => true
noncomputable def V.plains : List V → Bool
  | [] => true
  | d :: ds => V.plain d && V.plains ds
end
mutual
theorem VM.reads {mu : Addr → Prop} {h : Heap} : ∀ (d : V) (v : Value), V.plain d = true → VM mu h v d → ∃ as, Reads h v (V.dat d) as
  | .none, v, _, x => by cases x; exact ⟨_, .none⟩
  | .bool b, v, _, x => by cases x; exact ⟨_, .bool b⟩
  | .int i, v, _, x => by cases x; exact ⟨_, .int i _⟩
  | .str l, v, _, x => by obtain ⟨t, rfl⟩ := x.strI; exact ⟨_, .str _ t⟩
  | .tup ds, v, p, x => by
    obtain ⟨a, o, vs, n, rfl, g, c, e, _, vm⟩ := x.tupI
    obtain ⟨as, r⟩ := VMs.reads ds vs (by simpa [V.plain] using p) vm
    exact ⟨_, .tuple g c e (by rw [List.toList_toArray]; exact r)⟩
  | .lst ds, v, p, x => by
    obtain ⟨a, o, vs, n, rfl, g, c, e, _, vm⟩ := x.lstI
    obtain ⟨as, r⟩ := VMs.reads ds vs (by simpa [V.plain] using p) vm
    exact ⟨_, .list g c e (by rw [List.toList_toArray]; exact r)⟩
  | .ref _, v, p, x => by simp [V.plain] at p
  | .lit _, v, p, x => by simp [V.plain] at p
theorem VMs.reads {mu : Addr → Prop} {h : Heap} : ∀ (ds : List V) (vs : List Value), V.plains ds = true → VMs mu h vs ds → ∃ as, ReadsAll h vs (V.dats ds) as
  | [], vs, _, x => by cases x; exact ⟨_, .nil⟩
  | d :: ds, vs, p, x => by
    obtain ⟨v, ws, rfl, a, r⟩ := x.consI
    simp only [V.plains, Bool.and_eq_true] at p
    obtain ⟨as, ra⟩ := VM.reads d v p.1 a
    obtain ⟨bs, rb⟩ := VMs.reads ds ws p.2 r
    exact ⟨_, .cons ra rb⟩
end
structure Shp (d : V) : Prop where
  plain : V.plain d = true
  shaped : (PyData.canLay0 (V.dat d) && decide ((V.dat d).depth ≤ 64)) = true
theorem o_ned {a b : V} {Q : V → S → Prop} (ok : Ok X n) (ha : Shp a) (hb : Shp b) (q : Q (.bool (!PyData.eqv a.dat b.dat)) σ) : Op2 X (compareOp .NotEq) a b σ Q E := fun v w s st va wb => by
  obtain ⟨as, ra⟩ := VM.reads a v ha.plain va
  obtain ⟨bs, rb⟩ := VM.reads b w hb.plain wb
  exact ne_dataH ra rb ha.shaped hb.shaped (by have := ok.units; omega) (qw_self st (.bool _) q)
theorem eqv_self {a : V} (ha : Shp a) : PyData.eqv a.dat a.dat = true := SeqAt.eqv_refl _ (SeqAt.canLay_of_shaped ha.shaped)
end
end Mine
namespace Mine
open PySem PySem.W PySem.Calls PySem.Spec PyProof.Rows
section
variable {X : Cx} {n : Nat} {σ : S} {E : Value → S → Prop}
noncomputable abbrev mk (l : List Nat) : Str := ⟨l.toArray⟩
theorem VMs.strs {mu : Addr → Prop} {h : Heap} : ∀ {ls : List (List Nat)} {vs : List Value}, VMs mu h vs (ls.map V.str) → ∃ l : List (Str × Tok), vs = strValues l ∧ l.map (·.1) = ls.map mk
  | [], vs, x => by cases x; exact ⟨[], rfl, rfl⟩
  | a :: ls, vs, x => by
    obtain ⟨v, ws, rfl, y, r⟩ := x.consI
    obtain ⟨t, rfl⟩ := y.strI
    obtain ⟨l, rfl, e⟩ := VMs.strs r
    exact ⟨(mk a, t) :: l, rfl, by simp [e]⟩
theorem VMs.intsI {mu : Addr → Prop} {h : Heap} : ∀ {ns : List Int} {vs : List Value}, VMs mu h vs (ns.map V.int) → IntsAre vs ns
  | [], vs, x => by cases x; exact .nil
  | a :: ns, vs, x => by
    obtain ⟨v, ws, rfl, y, r⟩ := x.consI
    cases y
    exact .cons _ _ (VMs.intsI r)
noncomputable def joinL (sep : List Nat) (ls : List (List Nat)) : List Nat := (Txt.join (mk sep) (ls.map mk)).cps.toList
noncomputable def replL (x y z : List Nat) : List Nat := (Txt.replace (mk x) (mk y) (mk z)).cps.toList
noncomputable def countL (x y : List Nat) : Int := Txt.count (mk x) (mk y)
theorem mk_len (l : List Nat) : (mk l).length = l.length := by simp [Str.length]
section
variable {Q : V → S → Prop}
theorem c_join {sep : List Nat} {ls : List (List Nat)} (hb : ∀ l ∈ ls, l.length ≤ 1000) (hs : sep.length ≤ 1000) (hn : ls.length ≤ 1000) {dl : V} (hll : Lst σ dl (ls.map .str)) (q : Q (.str (joinL sep ls)) σ) : Call X (.builtin "str.join") [.str sep, dl] σ Q E := fun vs s st vm => by
  obtain ⟨v, w, rfl, va, vb⟩ := vm.two
  obtain ⟨t, rfl⟩ := va.strI
  obtain ⟨a, o, vs, k, rfl, g, c, d, vms⟩ := hll.get st vb
  obtain ⟨l, rfl, el⟩ := vms.strs
  refine SC.join ⟨o, g, c, k, d⟩ el ?_ fun t' k' => qw_same st _ (.strE rfl) q
  unfold JoinOk
  rw [Bool.not_eq_true']
  refine StrLaws.joinFits (B := 1000) (fun y hy => ?_) ?_
  · obtain ⟨z, hz, rfl⟩ := List.mem_map.mp hy
    have := mk_len z
    have := hb z hz
    omega
  · rw [mk_len, List.length_map]
    have h1 : ls.length * 1000 ≤ 1000 * 1000 := Nat.mul_le_mul_right _ hn
    have h2 : ls.length * sep.length ≤ 1000 * 1000 := Nat.mul_le_mul hn hs
    omega
theorem c_count {x y : List Nat} (q : Q (.int (countL x y)) σ) : Call X (.builtin "str.count") [.str x, .str y] σ Q E := fun vs s st vm => by
  obtain ⟨v, w, rfl, va, vb⟩ := vm.two
  obtain ⟨t, rfl⟩ := va.strI
  obtain ⟨u, rfl⟩ := vb.strI
  exact SC.count (qw_same st _ (.int _ _) q)
theorem c_sum {ns : List Int} (ok : Ok X n) (hc : X.ctx = none) (q : Q (.int ns.sum) σ) : Call X (.builtin "sum") [.lst (ns.map .int)] σ Q E := fun vs s st vm => by
  obtain ⟨v, rfl, va⟩ := vm.one
  obtain ⟨a, o, vs, k, rfl, g, c, d, nm, vms⟩ := va.lstI
  have hA : X.A.handled = none := by rw [ok.handled, hc]; rfl
  have ia := vms.intsI
  refine call_sum_walkG (wpAny_pyIter_list (items := vs.toArray) ⟨o, g, c, k, d⟩ ?_)
  have ga := Heap.get?_push_of_some { cls := .type "list_iterator", data := .fields #[.ref a, .int 0 0] } g
  have ne : a ≠ s.heap.objs.size := Nat.ne_of_lt (Heap.lt_size g)
  have P := st_push st { cls := .type "list_iterator", data := .fields #[.ref a, .int 0 0] }
  refine ⟨_, [s.heap.objs.size, a], [s.heap.objs.size], vs.toArray.size, fun i v => vs.toArray[i]? = some v, fun i h => h.IsListIter s.heap.objs.size a i ∧ h.IsList a vs.toArray, fun i => ns.getD i 0, rfl, Walks.list (A := X.A.in1) hA _ _ ne _,
    ⟨⟨_, Heap.get?_push_size _ rfl, rfl, rfl⟩, ⟨o, ga, c, k, d⟩⟩, fun b hb => ?_, fun i v e => ?_, fun h' tk t' hk => ?_⟩
  · rw [Heap.size_push]
    rcases List.mem_cons.mp hb with rfl | hb
    · exact Nat.lt_succ_self _
    · rw [List.mem_singleton.mp hb]; exact Nat.lt_succ_of_lt (Heap.lt_size g)
  · have e' : vs[i]? = some v := by simpa using e
    obtain ⟨dv, e2, vm'⟩ := vms.get' e'
    rw [List.getElem?_map] at e2
    cases hn : ns[i]? with
    | none => rw [hn] at e2; cases e2
    | some z =>
      rw [hn] at e2
      cases e2
      cases vm'
      exact ⟨_, by show _ = Value.int (ns.getD i 0) _; rw [List.getD_eq_getElem?_getD, hn]; rfl⟩
  · have e1 : preSum (fun i => ns.getD i 0) vs.toArray.size = ns.sum := by
      rw [PyProof.Rows.preSum_getD]
      rw [List.size_toArray, vms.length, List.length_map, List.take_of_length_le (Nat.le_refl _)]
    rw [e1]
    have nf := new_facts st
    refine ⟨_, σ, P.trans (post_slots (bad := [s.heap.objs.size]) P.st (fun b o g' _ nb => hk b o nb g') (fun b o g' nfd => ⟨o.slots, hk b o (fun hb => ?_) g'⟩) fun b hb => ?_), .int _ _, q⟩
    · rw [List.mem_singleton.mp hb] at g'
      have := Heap.get?_push_size s.heap (o := { cls := .type "list_iterator", data := .fields #[.ref a, .int 0 0] }) rfl
      have g2 : (s.heap.push { cls := .type "list_iterator", data := .fields #[.ref a, .int 0 0] }).get? s.heap.objs.size = some o := g'
      rw [this] at g2; cases g2; exact nfd _ rfl
    · rw [List.mem_singleton.mp hb]; exact ⟨⟨nf.1, nf.2.1⟩, nf.2.2, _, _, Heap.get?_push_size _ rfl, rfl⟩
end
end
end Mine
namespace Mine
open PySem PySem.W PySem.Calls PySem.Spec PyProof.Rows
section
variable {X : Cx} {n : Nat} {σ : S} {E : Value → S → Prop}
theorem W_cell {x : Str} {pos : Pos} {c : Addr} {d : V} {Q : V → S → Prop} (ok : Ok X n) (hx : X.env.kindOf x = some .cell) (hc : X.env.cells.lookup x = some c) (e : σ.hp c = some (.cell (some d))) (q : Q d σ) (hd : (x == ("__debug__" : Str)) = false) :
    WE X (.Name x pos) σ Q E := fun _ st => by
  obtain ⟨⟨o, v, g, dd, w, rfl, vm⟩, _⟩ := st.own c _ e
  exact wpAny_Name (wpAny_loadName_cell ok.kind hx hc ⟨o, g, dd⟩ (qw_self st vm q)) hd
noncomputable def StoN (X : Cx) (x : Str) (d : V) (σ σ' : S) : Prop := ∀ v s, St X σ s.heap → VM σ.mu s.heap v d → wpAny (model X.prog X.w) X.A (storeName X.env x v) (Qw X σ s RU (fun _ σ'' => σ'' = σ')) (fun _ _ => False) s
theorem sto_local {x : Str} {d : V} (ok : Ok X n) (hx : X.env.kindOf x = some .local) : StoN X x d σ { σ with loc := put σ.loc x d } := fun v s st vm =>
  wpAny_mono (store_local (E := fun _ _ => False) (Q := fun _ σ'' => σ'' = { σ with loc := put σ.loc x d }) ok hx rfl (Post.refl st) vm) (fun _ _ z => z) fun _ _ z => by obtain ⟨_, _, _, _, _, _, z⟩ := z; exact z
theorem sto_cell {x : Str} {c : Addr} {d : V} {v₀ : Option V} (ok : Ok X n) (hx : X.env.kindOf x = some .cell) (hc : X.env.cells.lookup x = some c) (e : σ.hp c = some (.cell v₀)) : StoN X x d σ { σ with hp := upd σ.hp c (.cell (some d)) } := fun v s st vm => by
  obtain ⟨⟨o, w, g, dd, _⟩, _⟩ := st.own c _ e
  obtain ⟨m, hn, hm⟩ := st.names
  have cL : X.env.locals ≠ c := fun z => st.locOff (by rw [z]; show σ.hp c ≠ none; rw [e]; exact Option.some_ne_none _)
  refine wpAny_storeName_cell ok.kind hx hc ⟨o, g, dd⟩ fun h' hv hs => ?_
  refine ⟨(), _, post_write (tk := s.toks) (a := c) (o := .cell (some d)) ok st (fun b o n1 _ z => (hs.2 b n1).trans z) ⟨m, hn.at' (fun o z => (hs.2 _ cL).trans z), hm⟩ (.inl (by rw [e]; exact Option.some_ne_none _)) (fun mv _ _ => ?_), trivial, rfl⟩
  obtain ⟨o', g', d'⟩ := hv
  exact ⟨o', some v, g', d', v, rfl, mv _ _ vm⟩
inductive CellQ (hp : Addr → Option HO) (c : Addr) (P : Prop) : Prop
  | mk (v₀ : Option V) (e : hp c = some (.cell v₀)) (q : P)
theorem WX_AssignC {x : Str} {px pos : Pos} {c : Addr} {e : Expr} {Q : FV → S → Prop} (ok : Ok X n) (hx : X.env.kindOf x = some .cell) (hc : X.env.cells.lookup x = some c)
    (h : WE X e σ (fun d σ₁ => CellQ σ₁.hp c (Q .next { σ₁ with hp := upd σ₁.hp c (.cell (some d)) })) E)
    (hs : ∀ env, swapsWith e (some (.Name x px)) pos.line env = pure false) : WX X (.Assign [.Name x px] e pos) σ Q E := fun _ st =>
  wpAny_Assign_Name (h.run (Post.refl st) fun v s₁ d σ₁ _ P₁ vm ⟨v₀, e₀, q⟩ => wpAny_mono (sto_cell ok hx hc e₀ v s₁ P₁.st vm) (fun _ _ ⟨_, σ', P', _, q'⟩ => ⟨.next, σ', P₁.trans P', trivial, q' ▸ q⟩) fun _ _ z => z.elim) (hs _)
end
end Mine
namespace Mine
open PySem PySem.W PySem.Calls PySem.Spec PyProof.Rows
section
variable {X : Cx} {n : Nat} {σ : S} {E : Value → S → Prop}
noncomputable def Cx.comp (X : Cx) (cenv : Env) : Cx := { X with env := cenv }
structure CEnv (X : Cx) (cenv : Env) : Prop where
  kind : cenv.scope.kind = .function
  glob : cenv.globals = X.env.globals
  bult : cenv.builtins = X.env.builtins
  frame : cenv.frame = X.env.frame
theorem ok_comp {cenv : Env} (ok : Ok X n) (c : CEnv X cenv) (ha : X.base.objs.size ≤ cenv.locals) (hp : cenv.locals ∉ X.prot) : Ok (X.comp cenv) n :=
  ⟨ok.inK, ok.top, ok.frames, ok.frame, c.frame.trans ok.eframe, c.kind, c.glob.trans ok.genv, c.bult.trans ok.benv, ha, hp, ok.handled, ok.ctxIn, ok.depth, ok.units⟩
theorem st_comp {cenv : Env} {h h₀ : Heap} {m : Str → Option Value} {loc0 : List (Str × V)} (st : St X σ h) (hC : h.get? cenv.locals = none) (hn : h₀.Ns cenv.locals m) (k : ∀ b o, h.get? b = some o → h₀.get? b = some o)
    (hm : ∀ x d, lk loc0 x = some d → ∃ v, m x = some v ∧ VM σ.mu h v d) : St (X.comp cenv) ⟨loc0, σ.hp⟩ h₀ := by
  have x : Ext X.env.locals X.prot σ.mu h σ.mu h₀ := Ext.keeps st.protOff k
  refine ⟨fun b o e => k b o (st.base b o e), ⟨m, hn, fun y d e => let ⟨v, q, r⟩ := hm y d e; ⟨v, q, r.mono x⟩⟩, fun a o e => ?_, fun q => ?_, fun a ha => ?_, fun e he => ?_⟩
  · obtain ⟨y, z⟩ := st.own a o e
    obtain ⟨ob, g⟩ := y.there
    exact ⟨y.mono x ((k a ob g).trans g.symm), z⟩
  · cases e : σ.hp cenv.locals with
    | none => exact q e
    | some o => obtain ⟨ob, g⟩ := (st.own _ o e).1.there; rw [hC] at g; cases g
  · obtain ⟨z, o, vs, g, d⟩ := st.prot a ha
    exact ⟨z, o, vs, k a o g, d⟩
  · obtain ⟨z, L, o, es, ep, hfr, hb, hmu, g, d⟩ := st.frs e he
    exact ⟨z, L, o, es, ep, hfr, hb, hmu, k L o g, d⟩
theorem comp_back {cenv : Env} {s s₀ s' : Shared} {h' : Heap} {loc0 : List (Str × V)} {σ' : S} (st : St X σ s.heap) (hC : s.heap.get? cenv.locals = none) (k : ∀ b o, s.heap.get? b = some o → s₀.heap.get? b = some o) (he : ∃ h t, s₀ = { s with heap := h, toks := t })
    (P : Post (X.comp cenv) ⟨loc0, σ.hp⟩ s₀ σ' s') (hs : Heap.SameBut cenv.locals s'.heap h') : Post X σ s ⟨σ.loc, σ'.hp⟩ { s' with heap := h' } := by
  obtain ⟨h₁, t₁, rfl⟩ := he
  obtain ⟨h₂, tk', e⟩ := P.upd
  have ne : ∀ a o, s.heap.get? a = some o → a ≠ cenv.locals := fun a o g q => by rw [q, hC] at g; cases g
  have sb : ∀ b o, b ≠ cenv.locals → s'.heap.get? b = some o → h'.get? b = some o := fun b o n g => (hs.2 b n).trans g
  have cb : X.base.get? cenv.locals = none := by
    cases q : X.base.get? cenv.locals with
    | none => rfl
    | some o => have := st.base _ o q; rw [hC] at this; cases this
  have x : Ext X.env.locals X.prot σ.mu s.heap σ'.mu h' := ⟨fun a o g nm q => let ⟨g', n'⟩ := P.ext.seq a o (k a o g) nm q; ⟨sb a o (ne a o g) g', n'⟩, fun a o g nm l q => let ⟨n', sl, g'⟩ := P.ext.obj a o (k a o g) nm (ne a o g) q; ⟨n', sl, sb a _ (ne a o g) g'⟩,
    fun a ha o g => let ⟨g', n'⟩ := P.ext.watch a ha o (k a o g); ⟨sb a o (ne a o g) g', n'⟩⟩
  refine ⟨⟨h', tk', by rw [e]⟩, x, ⟨fun b o g => sb b o (fun q => by rw [q, cb] at g; cases g) (P.st.base b o g), ?_, fun a o g => ?_, ?_, fun a ha => ?_, fun e he => ?_⟩⟩
  · obtain ⟨m, hn, hm⟩ := st.names
    obtain ⟨o, es, ep, g, d, r⟩ := hn
    obtain ⟨_, sl, g'⟩ := P.ext.obj _ o (k _ o g) st.locOff (ne _ o g) fun vs q => by rw [d] at q; cases q
    exact ⟨m, ⟨_, es, ep, sb _ _ (ne _ o g) g', d, r⟩, fun y d e => let ⟨v, q, r⟩ := hm y d e; ⟨v, q, r.mono x⟩⟩
  · obtain ⟨y, z⟩ := P.st.own a o g
    have an : a ≠ cenv.locals := fun q => P.st.locOff (by show σ'.hp cenv.locals ≠ none; rw [← q, g]; exact Option.some_ne_none _)
    refine ⟨y.mono (L := cenv.locals) (prot := []) ⟨fun b ob gb nb qb => ⟨sb b ob (fun q => ?_) gb, nb⟩, fun b ob gb nb lb qb => ⟨nb, ob.slots, sb b ob lb gb⟩, fun b hb => nomatch hb⟩ (hs.2 a an), z⟩
    obtain ⟨m, ⟨o', es, ep, g', d', _⟩, _⟩ := P.st.names
    have g'' : s'.heap.get? cenv.locals = some o' := g'
    rw [← q, gb] at g''; cases g''; rw [d'] at qb; exact qb
  · obtain ⟨m, ⟨o, es, ep, g, d, r⟩, hm⟩ := st.names
    exact (P.ext.obj _ o (k _ o g) st.locOff (ne _ o g) fun vs q => by rw [d] at q; cases q).1
  · obtain ⟨z, o, vs, g, d⟩ := P.st.prot a ha
    refine ⟨z, o, vs, sb a o (fun q => ?_) g, d⟩
    obtain ⟨m, ⟨o', es, ep, g', d', _⟩, _⟩ := P.st.names
    have g'' : s'.heap.get? cenv.locals = some o' := g'
    rw [← q, g] at g''; cases g''; rw [d'] at d; cases d.1
  · obtain ⟨z, L, o, es, ep, hfr, hb, hmu, g, d⟩ := P.st.frs e he
    obtain ⟨_, L', o', es', ep', hf', hb', hm', g', d'⟩ := st.frs e he
    rw [hfr] at hf'; cases hf'
    exact ⟨z, L, o, es, ep, hfr, hb, hmu, sb L o (ne L o' g') g, d⟩
noncomputable abbrev F0 : Value → S → Prop := fun _ _ => False
theorem Ew.elim0 {X : Cx} {σ : S} {s s' : Shared} {e : Value} {P : Prop} (h : Ew X σ s F0 e s') : P := by obtain ⟨_, _, _, _, _, _, z⟩ := h; exact z.elim
noncomputable def tests (ifs : List Expr) (env : Env) : Sem Bool := forIn ifs true fun c r => if r = true then do let ok ← isTrue c env (eval c env); pure (ForInStep.yield ok) else pure (ForInStep.yield r)
theorem CT_nil {Q : Bool → S → Prop} (q : Q true σ) : W X (tests [] X.env) RB σ Q E := fun _ st => wpAny_pure (qw_self st rfl q)
theorem CT_one {c : Expr} {Q : Bool → S → Prop} (h : WT X c σ Q E) : W X (tests [c] X.env) RB σ Q E := fun s st => by
  unfold tests
  rw [List.forIn_cons]
  refine wpAny_bind ?_
  rw [if_pos rfl]
  refine wpAny_bind (h.run (Post.refl st) fun b s₁ b' σ₁ _ P₁ e q => ?_)
  refine wpAny_pure ?_
  exact wpAny_pure ⟨b', σ₁, P₁, e, q⟩
noncomputable def accOf (keep : Nat → Bool) (es : Nat → V) (i : Nat) : List V := ((List.range i).filter keep).map es
theorem accOf_succ (keep : Nat → Bool) (es : Nat → V) (i : Nat) : accOf keep es (i + 1) = if keep i then accOf keep es i ++ [es i] else accOf keep es i := by
  unfold accOf
  rw [List.range_succ, List.filter_append]
  cases h : keep i <;> simp [h]
theorem accOf_len (keep : Nat → Bool) (es : Nat → V) (i : Nat) : (accOf keep es i).length ≤ i := by
  unfold accOf
  rw [List.length_map]
  exact Nat.le_trans (List.length_filter_le _ _) (by simp)
end
end Mine
namespace Mine
open PySem PySem.W PySem.Calls PySem.Spec PyProof.Rows
section
variable {X : Cx} {n : Nat} {σ : S} {E : Value → S → Prop}
theorem post_pair {s : Shared} {h' : Heap} {tk : Nat} {wr to : List Addr} (st : St X σ s.heap) (hT : ∀ b ∈ to, σ.hp b = some .pair) (kk : ∀ b o, b ∉ wr → b ∉ to → s.heap.get? b = some o → h'.get? b = some o) (hp' : ∀ b ∈ to, ∃ x y : Value, h'.get? b = some { cls := .type "tuple", data := .seq #[x, y] })
    (hb : ∀ b ∈ wr, (X.base.get? b = none ∧ ¬ σ.mu b) ∧ b ∉ X.prot ∧ ∃ o vs, s.heap.get? b = some o ∧ o.data = .fields vs) : Post X σ s σ { s with heap := h', toks := tk } := by
  have nb : ∀ b o, s.heap.get? b = some o → (∀ vs, o.data ≠ .fields vs) → b ∉ wr := fun b o g q hm => by
    obtain ⟨_, _, o', vs, g', d⟩ := hb b hm
    rw [g] at g'; cases g'; exact q _ d
  have nT : ∀ b, ¬ σ.mu b → b ∉ to := fun b nm e => nm (by show σ.hp b ≠ none; rw [hT b e]; exact Option.some_ne_none _)
  have x : Ext X.env.locals X.prot σ.mu s.heap σ.mu h' := by
    refine ⟨fun a o g nm q => ⟨kk a o (nb a o g fun vs d => ?_) (nT a nm) g, nm⟩, fun a o g nm _ q => ⟨nm, o.slots, kk a o (nb a o g q) (nT a nm) g⟩, fun a ha o g => ?_⟩
    · rw [d] at q; exact q
    · obtain ⟨z, _⟩ := st.prot a ha
      exact ⟨kk a o (fun hm => (hb a hm).2.1 ha) (nT a z) g, z⟩
  refine ⟨⟨h', tk, rfl⟩, x, ⟨fun b o e => kk b o (fun hm => ?_) (fun q => ?_) (st.base b o e), ?_, fun a o e => ?_, st.locOff, fun a ha => ?_, fun e he => ?_⟩⟩
  · have := (hb b hm).1.1; rw [e] at this; cases this
  · have := (st.own b _ (hT b q)).2; rw [e] at this; cases this
  · obtain ⟨m, ⟨oL, es, ep, gL, dL, r⟩, hm⟩ := st.names
    exact ⟨m, ⟨oL, es, ep, kk _ _ (nb _ _ gL fun vs q => by rw [dL] at q; cases q) (nT _ st.locOff) gL, dL, r⟩, fun y d e => let ⟨v, q, r⟩ := hm y d e; ⟨v, q, r.mono x⟩⟩
  · obtain ⟨y, z⟩ := st.own a o e
    by_cases ha : a ∈ to
    · rw [hT a ha] at e; cases e; exact ⟨hp' a ha, z⟩
    · obtain ⟨ob, g⟩ := y.there
      exact ⟨y.mono x ((kk a ob (fun hm => (hb a hm).1.2 (by show σ.hp a ≠ none; rw [e]; exact Option.some_ne_none _)) ha g).trans g.symm), z⟩
  · obtain ⟨z, o', vs, g', d⟩ := st.prot a ha
    exact ⟨z, o', vs, (x.watch a ha o' g').1, d⟩
  · obtain ⟨z, L, o, es, ep, hf, hn, hm, g, d⟩ := st.frs e he
    exact ⟨z, L, o, es, ep, hf, hn, hm, kk L o (nb L o g fun vs q => by rw [d] at q; cases q) (nT L hm) g, d⟩
noncomputable def drp (to : List Addr) (hp : Addr → Option HO) : Addr → Option HO := fun a => if a ∈ to then none else hp a
theorem drp_nil (hp : Addr → Option HO) : drp [] hp = hp := funext fun _ => if_neg List.not_mem_nil
theorem drp_in {to : List Addr} {hp : Addr → Option HO} {a : Addr} (h : a ∈ to) : drp to hp a = none := if_pos h
theorem drp_out {to : List Addr} {hp : Addr → Option HO} {a : Addr} (h : a ∉ to) : drp to hp a = hp a := if_neg h
theorem post_pairD {s : Shared} {h' : Heap} {tk : Nat} {wr to : List Addr} (st : St X σ s.heap) (hT : ∀ b ∈ to, σ.hp b = some .pair) (kk : ∀ b o, b ∉ wr → b ∉ to → s.heap.get? b = some o → h'.get? b = some o)
    (hb : ∀ b ∈ wr, (X.base.get? b = none ∧ ¬ σ.mu b) ∧ b ∉ X.prot ∧ ∃ o vs, s.heap.get? b = some o ∧ o.data = .fields vs) : Post X σ s ⟨σ.loc, drp to σ.hp⟩ { s with heap := h', toks := tk } := by
  have nb : ∀ b o, s.heap.get? b = some o → (∀ vs, o.data ≠ .fields vs) → b ∉ wr := fun b o g q hm => by
    obtain ⟨_, _, o', vs, g', d⟩ := hb b hm
    rw [g] at g'; cases g'; exact q _ d
  have nT : ∀ b, ¬ σ.mu b → b ∉ to := fun b nm e => nm (by show σ.hp b ≠ none; rw [hT b e]; exact Option.some_ne_none _)
  have nmu : ∀ b, ¬ σ.mu b → ¬ S.mu ⟨σ.loc, drp to σ.hp⟩ b := fun b nm z => nm (by
    have z' : drp to σ.hp b ≠ none := z
    rw [drp_out (nT b nm)] at z'; exact z')
  have x : Ext X.env.locals X.prot σ.mu s.heap (S.mu ⟨σ.loc, drp to σ.hp⟩) h' := by
    refine ⟨fun a o g nm q => ⟨kk a o (nb a o g fun vs d => ?_) (nT a nm) g, nmu a nm⟩, fun a o g nm _ q => ⟨nmu a nm, o.slots, kk a o (nb a o g q) (nT a nm) g⟩, fun a ha o g => ?_⟩
    · rw [d] at q; exact q
    · obtain ⟨z, _⟩ := st.prot a ha
      exact ⟨kk a o (fun hm => (hb a hm).2.1 ha) (nT a z) g, nmu a z⟩
  refine ⟨⟨h', tk, rfl⟩, x, ⟨fun b o e => kk b o (fun hm => ?_) (fun q => ?_) (st.base b o e), ?_, fun a o e => ?_, nmu _ st.locOff, fun a ha => ?_, fun e he => ?_⟩⟩
  · have := (hb b hm).1.1; rw [e] at this; cases this
  · have := (st.own b _ (hT b q)).2; rw [e] at this; cases this
  · obtain ⟨m, ⟨oL, es, ep, gL, dL, r⟩, hm⟩ := st.names
    exact ⟨m, ⟨oL, es, ep, kk _ _ (nb _ _ gL fun vs q => by rw [dL] at q; cases q) (nT _ st.locOff) gL, dL, r⟩, fun y d e => let ⟨v, q, r⟩ := hm y d e; ⟨v, q, r.mono x⟩⟩
  · have e' : drp to σ.hp a = some o := e
    have ha : a ∉ to := fun q => by rw [drp_in q] at e'; cases e'
    rw [drp_out ha] at e'
    obtain ⟨y, z⟩ := st.own a o e'
    obtain ⟨ob, g⟩ := y.there
    exact ⟨y.mono x ((kk a ob (fun hm => (hb a hm).1.2 (by show σ.hp a ≠ none; rw [e']; exact Option.some_ne_none _)) ha g).trans g.symm), z⟩
  · obtain ⟨z, o', vs, g', d⟩ := st.prot a ha
    exact ⟨nmu a z, o', vs, (x.watch a ha o' g').1, d⟩
  · obtain ⟨z, L, o, es, ep, hf, hn, hm, g, d⟩ := st.frs e he
    exact ⟨z, L, o, es, ep, hf, hn, nmu L hm, kk L o (nb L o g fun vs q => by rw [d] at q; cases q) (nT L hm) g, d⟩
inductive ItG (X : Cx) (σ : S) (h : Heap) (J : Addr) (tg : Expr) (N : Nat) (P : Nat → (Addr → Prop) → Heap → Value → Prop) (to : List Addr) : Prop
  | mk (wr : List Addr) (SS : Nat → Heap → Prop) (Mid : Nat → Value → Heap → Prop)
    (next : ∀ A' : Around, A'.handled = none → ∀ i (s : Shared) (Q : Option Value → Shared → Prop) (E' : Value → Shared → Prop), i < N → SS i s.heap → (∀ v h' tk, Mid i v h' → (∀ b o, b ∉ wr → b ∉ to → s.heap.get? b = some o → h'.get? b = some o) → Q (some v) { s with heap := h', toks := tk }) → wpAny (model X.prog X.w) A' (pyNext (.ref J)) Q E' s)
    (go : ∀ A' : Around, A'.handled = none → ∀ i v (s : Shared) (Q : Unit → Shared → Prop) (E' : Value → Shared → Prop), Mid i v s.heap → (∀ h', SS (i + 1) h' → (∀ b o, b ∉ wr → b ∉ to → s.heap.get? b = some o → h'.get? b = some o) → Q () { s with heap := h' }) → wpAny (model X.prog X.w) A' (letOwnedTupleGo tg (.ref J) v) Q E' s)
    (done : ∀ A' : Around, A'.handled = none → ∀ (s : Shared) (Q : Option Value → Shared → Prop) (E' : Value → Shared → Prop), SS N s.heap → (∀ h' tk, (∀ b o, b ∉ wr → b ∉ to → s.heap.get? b = some o → h'.get? b = some o) → Q none { s with heap := h', toks := tk }) → wpAny (model X.prog X.w) A' (pyNext (.ref J)) Q E' s)
    (self : ∀ A' : Around, A'.handled = none → ∀ i (s : Shared) (Q : Value → Shared → Prop) (E' : Value → Shared → Prop), SS i s.heap → Q (.ref J) s → wpAny (model X.prog X.w) A' (pyIter (.ref J)) Q E' s)
    (st0 : SS 0 h) (hrec : ∀ i h', SS i h' → ∀ b ∈ wr, ∃ o vs, h'.get? b = some o ∧ o.data = .fields vs) (hrec2 : ∀ i v h', Mid i v h' → ∀ b ∈ wr, ∃ o vs, h'.get? b = some o ∧ o.data = .fields vs)
    (hpr : ∀ i h', SS i h' → ∀ b ∈ to, ∃ x y : Value, h'.get? b = some { cls := .type "tuple", data := .seq #[x, y] }) (hpr2 : ∀ i v h', Mid i v h' → ∀ b ∈ to, ∃ x y : Value, h'.get? b = some { cls := .type "tuple", data := .seq #[x, y] })
    (hwr : ∀ b ∈ wr, X.base.get? b = none ∧ ¬ σ.mu b ∧ b ∉ X.prot)
    (keep : ∀ i h₁ mu₁ h₂, SS i h₁ → SeqX σ.mu h mu₁ h₁ → (∀ a o, h₁.get? a = some o → ¬ mu₁ a → isSeq o.data → h₂.get? a = some o) → (∀ b ∈ wr, ∀ o, h₁.get? b = some o → h₂.get? b = some o) → (∀ b ∈ to, ∃ x y : Value, h₂.get? b = some { cls := .type "tuple", data := .seq #[x, y] }) → SS i h₂)
    (val : ∀ i v mu' h₁ h₂, i < N → Mid i v h₁ → SeqX σ.mu h mu' h₂ → (∀ b o, b ∉ wr → b ∉ to → h₁.get? b = some o → h₂.get? b = some o) → P i mu' h₂ v)
theorem keep_of {fp wr : List Addr} {SS : Nat → Heap → Prop} {h : Heap} (frame : ∀ i h h', SS i h → (∀ b ∈ fp, ∀ o, h.get? b = some o → h'.get? b = some o) → SS i h') (hfp : ∀ b ∈ fp, b ∉ wr → ¬ σ.mu b ∧ ∃ o, h.get? b = some o ∧ isSeq o.data) :
    ∀ i h₁ mu₁ h₂, SS i h₁ → SeqX σ.mu h mu₁ h₁ → (∀ a o, h₁.get? a = some o → ¬ mu₁ a → isSeq o.data → h₂.get? a = some o) → (∀ b ∈ wr, ∀ o, h₁.get? b = some o → h₂.get? b = some o) → SS i h₂ := fun i h₁ mu₁ h₂ st x k1 k2 => by
  refine frame _ _ _ st fun b hb o g => ?_
  by_cases hw : b ∈ wr
  · exact k2 b hw o g
  · obtain ⟨nm, o₀, g₀, q₀⟩ := hfp b hb hw
    obtain ⟨g₁, nm₁⟩ := x b o₀ g₀ nm q₀
    rw [g] at g₁; cases g₁
    exact k1 b _ g nm₁ q₀
noncomputable abbrev PN (ds : Nat → V) (i : Nat) (mu : Addr → Prop) (h : Heap) (v : Value) : Prop := VM mu h v (ds i)
inductive PT (d1 d2 : Nat → V) (i : Nat) (mu : Addr → Prop) (h : Heap) (v : Value) : Prop
  | mk (T : Addr) (v1 v2 : Value) (e : v = .ref T) (ht : h.IsTuple T #[v1, v2]) (m1 : VM mu h v1 (d1 i)) (m2 : VM mu h v2 (d2 i))
theorem Iter.toG {h : Heap} {J N : Nat} {ds : Nat → V} {x : Str} {tp : Pos} (IT : Iter X σ h J N ds) : ItG X σ h J (.Name x tp) N (PN ds) [] := by
  obtain ⟨fp, wr, PP, SS, hW, st0, hrec, hwr, hfp, hvm⟩ := IT
  have kp := keep_of (hW ⟨none, 0, none, none, 0⟩ rfl).frame hfp
  refine ⟨wr, SS, fun i v h' => SS (i + 1) h' ∧ PP i v, fun A' hA i s Q E' hi st q => (hW A' hA).item i s _ _ hi st fun w h' tk pv st' kk => q w h' tk ⟨st', pv⟩ fun b o h1 _ => kk b o h1, fun A' hA i v s Q E' m q => wpAny_pure (q s.heap m.1 fun _ _ _ _ e => e), fun A' hA s Q E' st q => (hW A' hA).done s _ _ st fun h' tk kk => q h' tk fun b o h1 _ => kk b o h1,
    fun A' hA i s Q E' st q => (hW A' hA).self i s _ _ st q, st0, hrec, fun i v h' m => hrec _ _ m.1, (fun _ _ _ b hb => nomatch hb), (fun _ _ _ _ b hb => nomatch hb), hwr, fun i h₁ mu₁ h₂ a b c d _ => kp i h₁ mu₁ h₂ a b c d, fun i v mu' h₁ h₂ hi m x _ => hvm i v mu' h₂ hi m.2 x⟩
theorem ItG.grow {σ' : S} {cenv : Env} {h h' : Heap} {J N : Nat} {tg : Expr} {P : Nat → (Addr → Prop) → Heap → Value → Prop} {to : List Addr} (IT : ItG X σ h J tg N P to) (k : ∀ b o, h.get? b = some o → h'.get? b = some o) (hm : ∀ b o, h.get? b = some o → ¬ σ.mu b → ¬ σ'.mu b) : ItG (X.comp cenv) σ' h' J tg N P to := by
  obtain ⟨wr, SS, Mid, next, go, done, self, st0, hrec, hrec2, hpr, hpr2, hwr, keep, val⟩ := IT
  have up : ∀ mu₁ h₁, SeqX σ'.mu h' mu₁ h₁ → SeqX σ.mu h mu₁ h₁ := fun mu₁ h₁ x a o g nm q => x a o (k a o g) (hm a o g nm) q
  refine ⟨wr, SS, Mid, next, go, done, self, keep 0 h σ.mu h' st0 (fun a o g nm _ => ⟨g, nm⟩) (fun a o g _ _ => k a o g) (fun b _ o g => k b o g) (fun b hb => ?_), hrec, hrec2, hpr, hpr2, fun b hb => ?_, fun i h₁ mu₁ h₂ st x => keep i h₁ mu₁ h₂ st (up _ _ x), fun i v mu' h₁ h₂ hi m x => val i v mu' h₁ h₂ hi m (up _ _ x)⟩
  · obtain ⟨x, y, g⟩ := hpr _ _ st0 b hb
    exact ⟨x, y, k _ _ g⟩
  · obtain ⟨o, vs, g, d⟩ := hrec _ _ st0 b hb
    exact ⟨(hwr b hb).1, hm b o g (hwr b hb).2.1, (hwr b hb).2.2⟩
noncomputable def Asg (X : Cx) (tg : Expr) (P : (Addr → Prop) → Heap → Value → Prop) (σ σ' : S) : Prop := ∀ v s, St X σ s.heap → P σ.mu s.heap v → wpAny (model X.prog X.w) X.A (assign tg X.env v) (Qw X σ s RU (fun _ σ'' => σ'' = σ')) (fun _ _ => False) s
theorem asg_name {x : Str} {tp : Pos} {ds : Nat → V} {i : Nat} {σ' : S} (h : StoN X x (ds i) σ σ') : Asg X (.Name x tp) (PN ds i) σ σ' := fun v s st p => wpAny_assign_Name (h v s st p)
theorem asg_pair {x1 x2 : Str} {k : Nat} {tp p1 p2 : Pos} {d1 d2 : Nat → V} {i : Nat} {σ₁ σ₂ : S} (ok : Ok X n) (hc : X.ctx = none) (h1 : StoN X x1 (d1 i) σ σ₁) (h2 : StoN X x2 (d2 i) σ₁ σ₂) : Asg X (.Tuple [.Name x1 p1, .Name x2 p2] k tp) (PT d1 d2 i) σ σ₂ := fun v s st p => by
  obtain ⟨T, v1, v2, rfl, ht, m1, m2⟩ := p
  have hA : X.A.handled = none := by rw [ok.handled, hc]; rfl
  refine wpAny_assign_Tuple hA ht rfl rfl fun h₃ hx₃ => ?_
  have P₁ : Post X σ s σ { s with heap := h₃ } := Post.keeps st h₃ s.toks rfl fun b o g => hx₃ b o (Nat.ne_of_lt (Heap.lt_size g)) g
  show wpAny _ _ (do holding [v2] (assign (.Name x1 p1) X.env v1); do holding [] (assign (.Name x2 p2) X.env v2); pure ()) _ _ _
  refine wpAny_bind (wpAny_holding (wpAny_assign_Name (wpAny_mono (h1 v1 _ P₁.st (m1.mono P₁.ext)) (fun _ s₃ z => ?_) fun _ _ z => z)))
  obtain ⟨_, _, P₂, _, rfl⟩ := z
  refine wpAny_bind (wpAny_holding (wpAny_assign_Name (wpAny_mono (h2 v2 _ P₂.st ((m2.mono P₁.ext).mono P₂.ext)) (fun _ s₄ z => ?_) fun _ _ z => z)))
  obtain ⟨_, _, P₃, _, rfl⟩ := z
  exact wpAny_pure ⟨(), _, (P₁.trans P₂).trans P₃, trivial, rfl⟩
inductive LoopG (X : Cx) (n : Nat) (σ₁ : S) (s₂ : Shared) (J : Addr) (tg : Expr) (N : Nat) (P : Nat → (Addr → Prop) → Heap → Value → Prop) (to : List Addr) : Prop
  | mk (wr : List Addr) (G : Nat → S → Shared → Prop) (g0 : G 0 σ₁ s₂) (gp : ∀ i σ' s', G i σ' s' → Post X σ₁ s₂ σ' s')
    (self : ∀ i σ' s' (Q : Value → Shared → Prop) (E' : Value → Shared → Prop), G i σ' s' → Q (.ref J) s' → wpAny (model X.prog X.w) X.A (pyIter (.ref J)) Q E' s')
    (next : ∀ i σ' s' σb (QB : Shared → Prop) (Z : Option Value → Shared → Prop) (E' : Value → Shared → Prop), i < N → G i σ' s' → (Ok (X.watch wr) n → Asg (X.watch wr) tg (P i) σ' σb) →
      (Ok (X.watch wr) n → ∀ s₃, Post X σ' s' σb s₃ → St (X.watch wr) σb s₃.heap → (∀ σ₄ s₄, Post (X.watch wr) σb s₃ σ₄ s₄ → (∀ b ∈ to, σ₄.hp b = some .pair) → G (i + 1) σ₄ s₄) → QB s₃) →
      (∀ v s₁, wpAny (model X.prog X.w) X.A (letOwnedTupleGo tg (.ref J) v) (fun _ s₁' => wpAny (model X.prog X.w) X.A (assign tg X.env v) (fun _ s₂ => QB s₂) E' s₁') E' s₁ → Z (some v) s₁) → wpAny (model X.prog X.w) X.A (pyNext (.ref J)) Z E' s')
    (done : ∀ σ' s' (Z : Option Value → Shared → Prop) (E' : Value → Shared → Prop), G N σ' s' → (∀ s₃, Post X σ' s' ⟨σ'.loc, drp to σ'.hp⟩ s₃ → Z none s₃) → wpAny (model X.prog X.w) X.A (pyNext (.ref J)) Z E' s')
theorem loopG {σ₁ : S} {s₂ : Shared} {J : Addr} {tg : Expr} {N : Nat} {P : Nat → (Addr → Prop) → Heap → Value → Prop} {to : List Addr} (ok : Ok X n) (hc : X.ctx = none) (IT : ItG X σ₁ s₂.heap J tg N P to) (hT : ∀ b ∈ to, σ₁.hp b = some .pair) (st : St X σ₁ s₂.heap) : LoopG X n σ₁ s₂ J tg N P to := by
  have hA : X.A.handled = none := by rw [ok.handled, hc]; rfl
  obtain ⟨wr, SS, Mid, next, go, done, self, st0, hrec, hrec2, hpr, hpr2, hwr, keep, val⟩ := IT
  refine ⟨wr, fun i σ' s' => Post X σ₁ s₂ σ' s' ∧ SS i s'.heap ∧ (∀ b ∈ wr, ¬ σ'.mu b) ∧ ∀ b ∈ to, σ'.hp b = some .pair, ⟨Post.refl st, st0, fun b hb => (hwr b hb).2.1, hT⟩, fun i σ' s' g => g.1, fun i σ' s' Q E' g q => self _ hA i s' _ _ g.2.1 q, fun i σ' s' σb QB Z E' hi g asg qb z => ?_, fun σ' s' Z E' g z => ?_⟩
  · obtain ⟨Pb, sti, hmu, hT'⟩ := g
    refine next _ hA i s' _ _ hi sti fun v h' tk mid kk => z _ _ ?_
    have Pc := post_pair (tk := tk) Pb.st hT' kk (hpr2 _ _ _ mid) fun b hb => ⟨⟨(hwr b hb).1, hmu b hb⟩, (hwr b hb).2.2, hrec i _ sti b hb⟩
    refine go _ hA i v _ _ _ mid fun h₂ st₂ kk₂ => ?_
    have Pd := post_pair (s := { s' with heap := h', toks := tk }) (tk := tk) Pc.st hT' kk₂ (hpr _ _ st₂) fun b hb => ⟨⟨(hwr b hb).1, hmu b hb⟩, (hwr b hb).2.2, hrec2 _ _ _ mid b hb⟩
    have Pcd := Pc.trans Pd
    have Pbd := Pb.trans Pcd
    have lw : X.env.locals ∉ wr := fun hb => by
      obtain ⟨o, vs, g, d⟩ := hrec _ _ st₂ _ hb
      obtain ⟨m, ⟨oL, es, ep, gL, dL, _⟩, _⟩ := Pd.st.names
      have gL' : h₂.get? X.env.locals = some oL := gL
      rw [g] at gL'; cases gL'; rw [d] at dL; cases dL
    have okw := ok_watch ok lw
    have stw : St (X.watch wr) σ' h₂ := st_watch hc Pd.st fun b hb => ⟨hmu b hb, hrec _ _ st₂ b hb⟩
    refine wpAny_mono (asg okw v { s' with heap := h₂, toks := tk } stw (val i v σ'.mu _ _ hi mid Pbd.ext.seq kk₂)) (fun _ s₃ q => ?_) fun _ _ q => q.elim
    obtain ⟨_, _, Pe, _, rfl⟩ := q
    refine qb okw s₃ (Pcd.trans (post_unwatch Pe)) Pe.st fun σ₄ s₄ Pf hT4 => ?_
    have Pef := Pe.trans Pf
    exact ⟨Pbd.trans (post_unwatch Pef), keep _ _ _ _ st₂ Pbd.ext.seq (fun a o g nm q => (Pef.ext.seq a o g nm q).1) (fun b hb o g => (Pef.ext.watch b (List.mem_append_left _ hb) o g).1) (fun b hb => (Pf.st.own b _ (hT4 b hb)).1), fun b hb => (Pf.st.prot b (List.mem_append_left _ hb)).1, hT4⟩
  · obtain ⟨Pb, sti, hmu, hT'⟩ := g
    exact done _ hA s' _ _ sti fun h' tk kk => z _ (post_pairD Pb.st hT' kk fun b hb => ⟨⟨(hwr b hb).1, hmu b hb⟩, (hwr b hb).2.2, hrec _ _ sti b hb⟩)
inductive ItAtG (X : Cx) (σ : S) (s : Shared) (tg : Expr) (one : Prop) (Q : Nat → (Nat → (Addr → Prop) → Heap → Value → Prop) → S → (Addr → Option HO) → Prop) (it : Value) (s₂ : Shared) : Prop
  | mk (J : Addr) (N : Nat) (P : Nat → (Addr → Prop) → Heap → Value → Prop) (σ₂ : S) (to : List Addr) (e : it = .ref J) (h1 : one → to = []) (hT : ∀ b ∈ to, σ₂.hp b = some .pair) (PP : Post X σ s σ₂ s₂) (IT : ItG X σ₂ s₂.heap J tg N P to) (q : Q N P σ₂ (drp to σ₂.hp))
noncomputable def WItG (X : Cx) (iter tg : Expr) (one : Prop) (σ : S) (Q : Nat → (Nat → (Addr → Prop) → Heap → Value → Prop) → S → (Addr → Option HO) → Prop) (E : Value → S → Prop) : Prop :=
  ∀ s, St X σ s.heap → wpAny (model X.prog X.w) X.A (eval iter X.env) (fun x s₁ => wpAny (model X.prog X.w) X.A (pyIter x) (ItAtG X σ s tg one Q) (Ew X σ s E) s₁) (Ew X σ s E) s
theorem WIt.toG {iter : Expr} {x : Str} {tp : Pos} {one : Prop} {Q : Nat → (Nat → (Addr → Prop) → Heap → Value → Prop) → S → (Addr → Option HO) → Prop} (h : WIt X iter σ (fun N ds σ₁ => Q N (PN ds) σ₁ σ₁.hp) E) : WItG X iter (.Name x tp) one σ Q E := fun s st =>
  wpAny_mono (h s st) (fun _ _ z => wpAny_mono z (fun _ _ z => by cases z with | mk J N ds σ₂ e PP IT q => exact ⟨J, N, _, σ₂, [], e, fun _ => rfl, (fun b hb => nomatch hb), PP, IT.toG, by rw [drp_nil]; exact q⟩) fun _ _ z => z) fun _ _ z => z
theorem WX_ForG {tg iter : Expr} {body orelse : List Stmt} {pos : Pos} {Q : FV → S → Prop} (ok : Ok X n) (hc : X.ctx = none) (he : X.env = X.fenv) (I : Nat → S → Prop)
    (h : WItG X iter tg True σ (fun N P σ₁ _ => I 0 σ₁ ∧ (∀ i σ', i < N → I i σ' → ∃ σb, (∀ wr, Ok (X.watch wr) n → Asg (X.watch wr) tg (P i) σ' σb) ∧ ∀ wr, Ok (X.watch wr) n → WXs (X.watch wr) body σb (fun f σ₂ => match f with | .next => I (i + 1) σ₂ | .cont => I (i + 1) σ₂ | .brk => Q .next σ₂ | .ret d => Q (.ret d) σ₂) E) ∧
      (∀ σ', I N σ' → WXs X orelse σ' Q E)) E)
    (hs : ∀ env x, foldedSetIterable iter env x = pure x) : WX X (.For tg iter body orelse pos) σ Q E := fun s st => by
  refine wpAny_For (wpAny_mono (h s st) (fun _ _ z => wpAny_mono z (fun it s₂ hh => ?_) fun _ _ z => z) fun _ _ z => z) (hs _)
  obtain ⟨J, N, P, σ₁, to, rfl, h1, hT, P12, IT, i0, hbody, hfin⟩ := hh
  obtain rfl := h1 trivial
  obtain ⟨wr, G, g0, gp, self, next, done⟩ := loopG ok hc IT hT P12.st
  refine codeAny_forLoop_any (fun k s' => ∃ i σ', i + k = N ∧ G i σ' s' ∧ I i σ') (fun k s' hI => ?_) N ⟨0, σ₁, Nat.zero_add _, g0, i0⟩
  obtain ⟨i, σ', hik, g, inv⟩ := hI
  have Pa := P12.trans (gp _ _ _ g)
  by_cases hi : i < N
  · obtain ⟨σb, asg, hb⟩ := hbody i σ' hi inv
    refine next i σ' s' σb _ _ _ hi g (asg wr) (fun okw s₃ P₃ st₃ gn => ?_) fun v s₁ z => z
    refine wpAny_mono (hb wr okw s₃ st₃) (fun f s₄ z => ?_) fun e s₄ z => ?_
    · obtain ⟨gv, σ₄, Pe, r, q⟩ := z
      cases f <;> cases gv <;> first | exact r.elim | skip
      · exact ⟨k - 1, by omega, i + 1, σ₄, by omega, gn _ _ Pe (fun b hb => nomatch hb), q⟩
      · exact ⟨FV.next, σ₄, Pa.trans (P₃.trans (post_unwatch Pe)), trivial, q⟩
      · exact ⟨k - 1, by omega, i + 1, σ₄, by omega, gn _ _ Pe (fun b hb => nomatch hb), q⟩
      · exact ⟨_, σ₄, Pa.trans (P₃.trans (post_unwatch Pe)), r, q⟩
    · obtain ⟨ea, cls, σ₄, Pe, rfl, x, q⟩ := z
      exact noted_Ew ok he ⟨ea, cls, σ₄, Pa.trans (P₃.trans (post_unwatch Pe)), rfl, exc_unwatch x, q⟩
  · obtain rfl : i = N := by omega
    refine done σ' s' _ _ g fun s₃ P₃ => ?_
    rw [drp_nil] at P₃
    exact wpAny_mono ((hfin σ' inv).go (Pa.trans P₃)) (fun _ _ z => z) fun _ _ z => noted_Ew ok he z
theorem WX_For {x : Str} {tp : Pos} {iter : Expr} {body orelse : List Stmt} {pos : Pos} {Q : FV → S → Prop} (ok : Ok X n) (hc : X.ctx = none) (he : X.env = X.fenv) (hx : X.env.kindOf x = some .local) (I : Nat → S → Prop)
    (h : WIt X iter σ (fun N ds σ₁ => I 0 σ₁ ∧ (∀ i σ' wr, i < N → I i σ' → Ok (X.watch wr) n → WXs (X.watch wr) body { σ' with loc := put σ'.loc x (ds i) } (fun f σ₂ => match f with | .next => I (i + 1) σ₂ | .cont => I (i + 1) σ₂ | .brk => Q .next σ₂ | .ret d => Q (.ret d) σ₂) E) ∧
      (∀ σ', I N σ' → WXs X orelse σ' Q E)) E)
    (hs : ∀ env x, foldedSetIterable iter env x = pure x) : WX X (.For (.Name x tp) iter body orelse pos) σ Q E :=
  WX_ForG ok hc he I (WIt.toG fun s st => wpAny_mono (h s st) (fun _ _ z => wpAny_mono z (fun _ _ z => by cases z with | mk J N ds σ₂ e PP IT q => exact ⟨J, N, ds, σ₂, e, PP, IT, q.1, fun i σ' hi inv => ⟨_, fun wr okw => asg_name (sto_local okw hx), fun wr okw => q.2.1 i σ' wr hi inv okw⟩, q.2.2⟩) fun _ _ z => z) fun _ _ z => z) hs
theorem WX_ForC {x : Str} {c : Addr} {tp : Pos} {iter : Expr} {body orelse : List Stmt} {pos : Pos} {Q : FV → S → Prop} (ok : Ok X n) (hc : X.ctx = none) (he : X.env = X.fenv) (hx : X.env.kindOf x = some .cell) (hcl : X.env.cells.lookup x = some c) (I : Nat → S → Prop)
    (h : WIt X iter σ (fun N ds σ₁ => I 0 σ₁ ∧ (∀ i σ', i < N → I i σ' → (∃ v₀, σ'.hp c = some (.cell v₀)) ∧ ∀ wr, Ok (X.watch wr) n → WXs (X.watch wr) body { σ' with hp := upd σ'.hp c (.cell (some (ds i))) } (fun f σ₂ => match f with | .next => I (i + 1) σ₂ | .cont => I (i + 1) σ₂ | .brk => Q .next σ₂ | .ret d => Q (.ret d) σ₂) E) ∧
      (∀ σ', I N σ' → WXs X orelse σ' Q E)) E)
    (hs : ∀ env x, foldedSetIterable iter env x = pure x) : WX X (.For (.Name x tp) iter body orelse pos) σ Q E :=
  WX_ForG ok hc he I (WIt.toG fun s st => wpAny_mono (h s st) (fun _ _ z => wpAny_mono z (fun _ _ z => by cases z with | mk J N ds σ₂ e PP IT q => exact ⟨J, N, ds, σ₂, e, PP, IT, q.1, fun i σ' hi inv => ⟨_, fun wr okw => asg_name (sto_cell okw hx hcl (q.2.1 i σ' hi inv).1.choose_spec), (q.2.1 i σ' hi inv).2⟩, q.2.2⟩) fun _ _ z => z) fun _ _ z => z) hs
end
end Mine
namespace Mine
open PySem PySem.W PySem.Calls PySem.Spec PyProof.Rows
section
variable {X : Cx} {n : Nat} {σ : S} {E : Value → S → Prop}
theorem compLoopG {prog : Program} {w : World} {A : Around} {s : Shared} {elt target iter : Expr} {ifs : List Expr} {scope : Scope} {pos : Pos} {it acc : Value} {env : Env} {R : Result → Shared → Prop} (I : Nat → Shared → Prop)
    (turn : ∀ n s, I n s → wpAny (model prog w) A (pyNext it) (fun r s₁ => match r with
      | none => R (.ok .next) s₁
      | some v => wpAny (model prog w) A (letOwnedTupleGo target it v) (fun _ s₀ => wpAny (model prog w) A (assign target env v) (fun _ s₂ =>
          wpAny (model prog w) A (tests ifs env) (fun ok s₃ =>
            if ok = true then wpAny (model prog w) A (eval elt env) (fun x s₄ =>
              wpAny (model prog w) A (call (.builtin "list.append") [acc, x]) (fun _ s₅ => ∃ m, m < n ∧ I m s₅) (notedBy (model prog w) A env fun e s' => R (.error e) s') s₄) (notedBy (model prog w) A env fun e s' => R (.error e) s') s₃
            else ∃ m, m < n ∧ I m s₃) (notedBy (model prog w) A env fun e s' => R (.error e) s') s₂) (notedBy (model prog w) A env fun e s' => R (.error e) s') s₀) (notedBy (model prog w) A env fun e s' => R (.error e) s') s₁) (notedBy (model prog w) A env fun e s' => R (.error e) s') s)
    (n : Nat) (h : I n s) : codeAny (model prog w) A (.compLoop (.ListComp elt [⟨target, iter, ifs, 0⟩] scope pos) 0 it acc env) R s := by
  refine codeAny_loop rfl I (fun n s hI => ?_) n h
  show wpAny _ A ((compTurn (.ListComp elt [⟨target, iter, ifs, 0⟩] scope pos) 0 it acc env).onRaise (fun x => do noteFrame x env; theTreesLotGoes x)) _ _ s
  refine wpAny_noted ?_
  rw [compTurn_list]
  refine wpAny_bind (wpAny_standAt (wpAny_bind (wpAny_mono (turn n s hI) (fun r s₁ h₁ => ?_) fun _ _ h' => h')))
  cases r with
  | none => exact wpAny_pure h₁
  | some v =>
    refine wpAny_bind (wpAny_mono h₁ (fun _ s₀ h₀ => ?_) fun _ _ h' => h')
    refine wpAny_bind (wpAny_mono h₀ (fun _ s₂ h₂ => wpAny_bind (wpAny_mono h₂ (fun ok s₃ h₃ => ?_) fun _ _ h' => h')) fun _ _ h' => h')
    cases ok with
    | false => exact wpAny_pure ⟨rfl, h₃⟩
    | true =>
      exact wpAny_bind (wpAny_bind (wpAny_mono h₃ (fun x s₄ h₄ => wpAny_bind (wpAny_mono h₄ (fun _ s₅ h₅ => wpAny_pure (wpAny_pure ⟨rfl, h₅⟩)) fun _ _ h' => h')) fun _ _ h' => h'))
structure InC (X Z : Cx) (scope : Scope) (cl : List (Str × Addr)) : Prop where
  K : Z.K = X.K
  w : Z.w = X.w
  prog : Z.prog = X.prog
  ctx : Z.ctx = X.ctx
  scope : Z.env.scope = relabel scope X.env
  cells : Z.env.cells = cl
noncomputable def relS (scope es : Scope) : List (Str × NameKind) := scope.names.map fun (n, k) => if (k == .free && es.kind == .function && es.names.lookup n == some .cell) then (n, .cell) else (n, k)
theorem InC.kind {Z : Cx} {scope es : Scope} {cl : List (Str × Addr)} {x : Str} {k : Option NameKind} (h : InC X Z scope cl) (he : X.env.scope = es) (e : (relS scope es).lookup x = k) : Z.env.kindOf x = k := by
  subst he
  unfold Env.kindOf
  rw [h.scope]; exact e
noncomputable def closL (cells : List (Str × Addr)) : List (Str × NameKind) → List (Str × Addr) → Option (List (Str × Addr))
  | [], acc => some acc
  | (x, k) :: r, acc => if k == .free then (match cells.lookup x with | some c => closL cells r ((x, c) :: acc) | none => none) else closL cells r acc
theorem closL_ok {env : Env} {scope : Scope} {cells cl : List (Str × Addr)} (hc : env.cells = cells) (h : closL cells scope.names [] = some cl) : closureFor scope env = pure cl := by
  subst hc
  have : ∀ (names : List (Str × NameKind)) (acc : List (Str × Addr)), closL env.cells names acc = some cl → (forIn names acc fun (p : Str × NameKind) cs => do
      if p.2 == .free then do let c ← cellOf env p.1; pure (ForInStep.yield ((p.1, c) :: cs)) else pure (ForInStep.yield cs) : Sem (List (Str × Addr))) = pure cl := by
    intro names
    induction names with
    | nil => intro acc e; cases e; rfl
    | cons p r ih =>
      intro acc e
      obtain ⟨x, k⟩ := p
      rw [List.forIn_cons]
      unfold closL at e
      dsimp only
      by_cases hk : (k == NameKind.free) = true
      · rw [if_pos hk] at e ⊢
        cases hl : env.cells.lookup x with
        | none => rw [hl] at e; cases e
        | some c =>
          rw [hl] at e
          have e1 : cellOf env x = pure c := by unfold cellOf; rw [hl]
          rw [e1]
          exact ih _ e
      · rw [if_neg hk] at e ⊢
        exact ih _ e
  have h2 := this scope.names [] h
  exact (congrArg (fun z : Sem (List (Str × Addr)) => z >>= fun s => pure s) h2).trans rfl
theorem post_off {s s' : Shared} {σ' : S} {C : Addr} {h' : Heap} (st : St X σ s.heap) (P : Post X σ s σ' s') (hC : s.heap.get? C = none) (hn : ∃ m, s'.heap.Ns C m) (hmu : ¬ σ'.mu C) (hs : Heap.SameBut C s'.heap h') : Post X σ s σ' { s' with heap := h' } := by
  have ne : ∀ a o, s.heap.get? a = some o → a ≠ C := fun a o g q => by rw [q, hC] at g; cases g
  have sb : ∀ b o, b ≠ C → s'.heap.get? b = some o → h'.get? b = some o := fun b o n g => (hs.2 b n).trans g
  have cb : X.base.get? C = none := by
    cases q : X.base.get? C with
    | none => rfl
    | some o => have := st.base _ o q; rw [hC] at this; cases this
  obtain ⟨h₂, tk', e⟩ := P.upd
  obtain ⟨mC, oC, esC, epC, gC, dC, _⟩ := hn
  refine ⟨⟨h', tk', by rw [e]⟩, ⟨fun a o g nm q => let ⟨g', n'⟩ := P.ext.seq a o g nm q; ⟨sb a o (ne a o g) g', n'⟩, fun a o g nm l q => let ⟨n', sl, g'⟩ := P.ext.obj a o g nm l q; ⟨n', sl, sb a _ (ne a o g) g'⟩, fun a ha o g => let ⟨g', n'⟩ := P.ext.watch a ha o g; ⟨sb a o (ne a o g) g', n'⟩⟩,
    ⟨fun b o g => sb b o (fun q => by rw [q, cb] at g; cases g) (P.st.base b o g), ?_, fun a o g => ?_, P.st.locOff, fun a ha => ?_, fun e he => ?_⟩⟩
  · obtain ⟨m, hn, hm⟩ := P.st.names
    obtain ⟨m0, ⟨o0, _, _, g0, _⟩, _⟩ := st.names
    exact ⟨m, hn.at' fun o g => sb _ o (ne _ _ g0) g, fun y d e => let ⟨v, q, r⟩ := hm y d e; ⟨v, q, r.monoS fun b ob gb nb qb => ⟨sb b ob (fun z => by rw [z, gC] at gb; cases gb; rw [dC] at qb; exact qb) gb, nb⟩⟩⟩
  · obtain ⟨y, z⟩ := P.st.own a o g
    have an : a ≠ C := fun q => hmu (by show σ'.hp C ≠ none; rw [← q, g]; exact Option.some_ne_none _)
    exact ⟨y.mono (L := C) (prot := []) ⟨fun b ob gb nb qb => ⟨sb b ob (fun z => by rw [z, gC] at gb; cases gb; rw [dC] at qb; exact qb) gb, nb⟩, fun b ob gb nb lb qb => ⟨nb, ob.slots, sb b ob lb gb⟩, fun b hb => nomatch hb⟩ (hs.2 a an), z⟩
  · obtain ⟨z, o, vs, g, d⟩ := P.st.prot a ha
    obtain ⟨_, o1, vs1, g1, _⟩ := st.prot a ha
    exact ⟨z, o, vs, sb a o (ne a _ g1) g, d⟩
  · obtain ⟨z, L, o, es, ep, hfr, hb, hmu, g, d⟩ := P.st.frs e he
    obtain ⟨_, L', o', es', ep', hf', hb', hm', g', d'⟩ := st.frs e he
    rw [hfr] at hf'; cases hf'
    exact ⟨z, L, o, es, ep, hfr, hb, hmu, sb L o (ne L o' g') g, d⟩
theorem comp_block {tg elt iter : Expr} {pos : Pos} {ifs : List Expr} {scope : Scope} {cl : List (Str × Addr)} {s₂ : Shared} {J : Addr} {N : Nat} {P : Nat → (Addr → Prop) → Heap → Value → Prop} {keep : Nat → Bool} {es : Nat → V} {RR : Value → Addr → Result → Shared → Prop} {E' : Value → Shared → Prop} (ok : Ok X n) (hc : X.ctx = none)
    (hcell : ∀ y ∈ scope.names, y.2 ≠ .cell) (hkind : scope.kind = .function) {to : List Addr} (st : St X σ s₂.heap) (IT : ItG X σ s₂.heap J tg N P to) (hT : ∀ b ∈ to, σ.hp b = some .pair) (hN : N ≤ 10000)
    (item : ∀ Z D i σ', i < N → σ.hp D = none → σ'.hp = upd σ.hp D (.lst (accOf keep es i)) → InC X Z scope cl → Ok Z n → ∃ σb, Asg Z tg (P i) σ' σb ∧ W Z (tests ifs Z.env) RB σb
      (fun b σ₂ => b = keep i ∧ σ₂.hp = upd σ.hp D (.lst (accOf keep es i)) ∧ (b = true → W Z (eval elt Z.env) VM σ₂ (fun v σ₃ => v = es i ∧ σ₃.hp = upd σ.hp D (.lst (accOf keep es i))) F0)) F0)
    (hRR : ∀ D C s', s₂.heap.get? C = none → σ.hp D = none → σ.hp C = none → D ≠ C → Post X σ s₂ ⟨σ.loc, upd (drp to σ.hp) D (.lst (accOf keep es N))⟩ s' → (∃ m, s'.heap.Ns C m) → RR (.ref D) C (.ok .next) s') :
    wpAny (model X.prog X.w) X.A (newList []) (fun acc s₃ => wpAny (model X.prog X.w) X.A (newFunctionEnv scope X.env.globals cl [] X.env.qual none .none (some X.env)) (fun cenv s₄ =>
      codeAny (model X.prog X.w) X.A (.compStart (.ListComp elt [⟨tg, iter, ifs, 0⟩] scope pos) 0 (.ref J) acc { cenv with scope := relabel scope X.env }) (RR acc cenv.locals) s₄) E' s₃) E' s₂ := by
  obtain ⟨m₀, hn₀, hm₀⟩ := st.names
  have nD := new_none st
  refine wpAny_newList ?_
  have P3 := post_write (h' := s₂.heap.push { cls := .type "list", data := .seq ([] : List Value).toArray }) (tk := s₂.toks) (a := s₂.heap.objs.size) (o := .lst []) ok st (fun b o _ _ e => Heap.get?_push_of_some _ e) ⟨m₀, hn₀.push _, hm₀⟩ (.inr (Heap.get?_none_of_le (Nat.le_refl _)))
      fun _ _ mv => ⟨[], 0, Heap.get?_push_size _ rfl, .nil⟩
  refine wpAny_newFunctionEnv hcell (by intro y hy; simp at hy) (fun h₁ hns₁ hsb₁ => ?_) hkind
  dsimp only at hns₁ hsb₁ ⊢
  have hCs : (s₂.heap.push { cls := .type "list", data := .seq ([] : List Value).toArray }).objs.size = s₂.heap.objs.size + 1 := Heap.size_push ..
  have hC0 : s₂.heap.get? (s₂.heap.push { cls := .type "list", data := .seq ([] : List Value).toArray }).objs.size = none := by rw [hCs]; exact Heap.get?_none_of_le (Nat.le_succ _)
  have hDC : s₂.heap.objs.size ≠ (s₂.heap.push { cls := .type "list", data := .seq ([] : List Value).toArray }).objs.size := by rw [hCs]; exact (Nat.succ_ne_self _).symm
  have hCn : σ.hp (s₂.heap.push { cls := .type "list", data := .seq ([] : List Value).toArray }).objs.size = none := by
    cases q : σ.hp (s₂.heap.push { cls := .type "list", data := .seq ([] : List Value).toArray }).objs.size with
    | none => rfl
    | some o => obtain ⟨ob, g⟩ := (st.own _ o q).1.there; rw [hC0] at g; cases g
  generalize hH : s₂.heap.push { cls := .type "list", data := .seq ([] : List Value).toArray } = H at P3 hns₁ hsb₁ hC0 hDC hCn ⊢
  have hC : H.get? H.objs.size = none := Heap.get?_none_of_le (Nat.le_refl _)
  have k₁ : ∀ b o, H.get? b = some o → h₁.get? b = some o := fun b o e => hsb₁.extBut b o (Nat.ne_of_lt (Heap.lt_size e)) (Heap.get?_push_of_some _ e)
  have kk : ∀ b o, s₂.heap.get? b = some o → h₁.get? b = some o := fun b o e => k₁ b o (hH ▸ Heap.get?_push_of_some _ e)
  have nf := new_facts P3.st
  have ce : CEnv X (compEnvC scope cl H.objs.size X.env) := ⟨hkind, rfl, rfl, rfl⟩
  have ab : X.base.objs.size ≤ H.objs.size := by
    obtain ⟨m, hn, _⟩ := P3.st.names
    exact Nat.le_trans ok.above (Nat.le_of_lt hn.lt)
  have okc := ok_comp (cenv := compEnvC scope cl H.objs.size X.env) ok ce ab nf.2.2
  have st₀ := st_comp (cenv := compEnvC scope cl H.objs.size X.env) (loc0 := []) P3.st hC hns₁ k₁ (fun y d e => by simp [lk] at e)
  have hDT : s₂.heap.objs.size ∉ to := fun q => by rw [hT _ q] at nD; cases nD
  have hTup : ∀ L, ∀ b ∈ to, upd σ.hp s₂.heap.objs.size L b = some .pair := fun L b hb => by
    have hq : b ≠ s₂.heap.objs.size := fun q => hDT (q ▸ hb)
    rw [upd_ne hq]; exact hT b hb
  have IT' : ItG (X.comp (compEnvC scope cl H.objs.size X.env)) ⟨[], upd σ.hp s₂.heap.objs.size (.lst [])⟩ h₁ J tg N P to := IT.grow kk fun b o g nm mm => nm (by
    have : upd σ.hp s₂.heap.objs.size (.lst []) b ≠ none := mm
    rwa [upd_ne (Nat.ne_of_lt (Heap.lt_size g))] at this)
  obtain ⟨wr, G, g0, gp, self, next, done⟩ := loopG (s₂ := { s₂ with heap := h₁, toks := s₂.toks + ([] : List (Str × Value)).length }) okc hc IT' (hTup _) st₀
  have lp : codeAny (model X.prog X.w) X.A (.compLoop (.ListComp elt [⟨tg, iter, ifs, 0⟩] scope pos) 0 (.ref J) (.ref s₂.heap.objs.size) (compEnvC scope cl H.objs.size X.env)) (RR (.ref s₂.heap.objs.size) H.objs.size) { s₂ with heap := h₁, toks := s₂.toks + ([] : List (Str × Value)).length } := by
    refine compLoopG (fun k s' => ∃ i σ', i + k = N ∧ G i σ' s' ∧ σ'.hp = upd σ.hp s₂.heap.objs.size (.lst (accOf keep es i))) (fun k s' hI => ?_) N ⟨0, _, Nat.zero_add _, g0, rfl⟩
    obtain ⟨i, σ', hik, g, hhp⟩ := hI
    by_cases hi : i < N
    · have it' := fun okw => item ((X.comp (compEnvC scope cl H.objs.size X.env)).watch wr) s₂.heap.objs.size i σ' hi nD hhp ⟨rfl, rfl, rfl, rfl, rfl, rfl⟩ okw
      by_cases okw : Ok ((X.comp (compEnvC scope cl H.objs.size X.env)).watch wr) n
      · obtain ⟨σb, asg, hb⟩ := it' okw
        refine next i σ' s' σb _ _ _ hi g (fun _ => asg) (fun _ s₃ P₃ st₃ gn => ?_) fun v s₁ z => z
        refine wpAny_mono (hb s₃ st₃) (fun ok s₄ z => ?_) fun _ _ z => z.elim0
        obtain ⟨b, σ₂, Pe, e, hbk, hp₂, helt⟩ := z
        cases e
        cases hok : ok
        · simp only [Bool.false_eq_true, if_false]
          exact ⟨k - 1, by omega, i + 1, σ₂, by omega, gn _ _ Pe (by rw [hp₂]; exact hTup _), by rw [hp₂, accOf_succ, ← hbk, hok]; rfl⟩
        · simp only [if_true]
          refine wpAny_mono ((helt hok).go Pe) (fun v s₅ z => ?_) fun _ _ z => z.elim0
          obtain ⟨vv, σ₃, Pf, vm, rfl, hp₃⟩ := z
          have hDl : σ₃.hp s₂.heap.objs.size = some (.lst (accOf keep es i)) := by rw [hp₃, upd_self]
          refine wpAny_mono (c_append (E := F0) (Q := fun d σ₄ => d = .none ∧ σ₄ = { σ₃ with hp := upd σ₃.hp s₂.heap.objs.size (.lst (accOf keep es i ++ [es i])) }) okw hDl (Nat.le_trans (accOf_len _ _ _) (by omega)) ⟨rfl, rfl⟩ [.ref s₂.heap.objs.size, v] s₅ Pf.st (.cons (.ref _) (.cons vm .nil))) (fun _ s₆ z => ?_) fun _ _ z => z.elim0
          obtain ⟨_, _, Pg, _, _, rfl⟩ := z
          refine ⟨k - 1, by omega, i + 1, _, by omega, gn _ _ (Pf.trans Pg) (by show ∀ b ∈ to, upd σ₃.hp _ _ b = _; rw [hp₃, upd_upd]; exact hTup _), ?_⟩
          show upd σ₃.hp _ _ = _
          rw [hp₃, upd_upd, accOf_succ, ← hbk, hok]; rfl
      · refine next i σ' s' σ' (fun _ => False) _ _ hi g (fun okw' => absurd okw' okw) (fun okw' => absurd okw' okw) fun v s₁ z => wpAny_mono z (fun _ _ z => wpAny_mono z (fun _ _ z => z.elim) fun _ _ z => z) fun _ _ z => z
    · obtain rfl : i = N := by omega
      refine done σ' s' _ _ g fun s₃ P₃ => ?_
      have PP := (gp _ _ _ g).trans P₃
      have Pf := comp_back (s := { s₂ with heap := H }) (σ := { σ with hp := upd σ.hp s₂.heap.objs.size (.lst []) }) P3.st hC k₁ ⟨_, _, rfl⟩ PP (h' := s₃.heap) ⟨rfl, fun _ _ => rfl⟩
      obtain ⟨m, hn, _⟩ := PP.st.names
      rw [hhp, show drp to (upd σ.hp s₂.heap.objs.size (.lst (accOf keep es i))) = upd (drp to σ.hp) s₂.heap.objs.size (.lst (accOf keep es i)) from by
        funext c
        by_cases hcD : c = s₂.heap.objs.size
        · rw [hcD, upd_self, drp_out hDT, upd_self]
        · rw [upd_ne hcD]; unfold drp; split
          · rfl
          · exact upd_ne hcD] at Pf
      exact hRR _ _ _ hC0 nD hCn hDC (P3.trans Pf) ⟨m, hn⟩
  exact codeAny_compStart_list lp (self 0 _ _ _ _ g0 lp)
theorem drp_off {to : List Addr} {hp : Addr → Option HO} {a : Addr} (h : hp a = none) : drp to hp a = none := by unfold drp; split; rfl; exact h
inductive CompQ (N : Nat) (P R : (Nat → Bool) → (Nat → V) → Prop) : Prop
  | mk (hN : N ≤ 10000) (keep : Nat → Bool) (es : Nat → V) (item : P keep es) (q : R keep es)
theorem W_CompG {tg elt iter : Expr} {pos : Pos} {ifs : List Expr} {scope : Scope} {cl : List (Str × Addr)} {Q : V → S → Prop} (ok : Ok X n) (hc : X.ctx = none)
    (hclos : closureFor scope X.env = pure cl) (hcell : ∀ y ∈ scope.names, y.2 ≠ .cell) (hkind : scope.kind = .function) (hnames : ∀ y ∈ scope.names, y.2 = .local → scope.names.lookup y.1 = some .local)
    (h : WItG X iter tg False σ (fun N P σ₁ hp₀ => CompQ N (fun keep es => ∀ Z D i σ', i < N → σ₁.hp D = none → σ'.hp = upd σ₁.hp D (.lst (accOf keep es i)) → InC X Z scope cl → Ok Z n → ∃ σb, Asg Z tg (P i) σ' σb ∧ W Z (tests ifs Z.env) RB σb
      (fun b σ₂ => b = keep i ∧ σ₂.hp = upd σ₁.hp D (.lst (accOf keep es i)) ∧ (b = true → W Z (eval elt Z.env) VM σ₂ (fun v σ₃ => v = es i ∧ σ₃.hp = upd σ₁.hp D (.lst (accOf keep es i))) F0)) F0) (fun keep es => Q (.lst (accOf keep es N)) ⟨σ₁.loc, hp₀⟩)) E)
    (hs : ∀ env x, foldedSetIterable iter env x = pure x) : WE X (.ListComp elt [⟨tg, iter, ifs, 0⟩] scope pos) σ Q E := fun s st => by
  rw [eval_ListComp]
  refine wpAny_comprehension_free (use := none) rfl (hs _) hclos hkind hnames (wpAny_mono (h s st) (fun _ _ z => wpAny_mono z (fun it s₂ hh => ?_) fun _ _ z => z) fun _ _ z => z)
  obtain ⟨J, N, P, σ₁, to, rfl, _, hT, P12, IT, hN, keep, es, item, q⟩ := hh
  refine comp_block (RR := fun acc C => compPost (model X.prog X.w) X.A (Ew X σ s E) none (Qw X σ s VM Q) acc C) ok hc hcell hkind P12.st IT hT hN item fun D C s' hC hD hCn hDC PP hn => ?_
  obtain ⟨m, hn'⟩ := hn
  refine ⟨m, hn', fun h' hsb => ?_⟩
  have P4 := P12.trans (post_off P12.st PP hC ⟨m, hn'⟩ (fun z => z (by show upd (drp to σ₁.hp) D _ C = none; rw [upd_ne hDC.symm]; exact drp_off hCn)) hsb)
  have hD' := drp_off (to := to) hD
  have hs : ∀ a o, drp to σ₁.hp a = some o → upd (drp to σ₁.hp) D (.lst (accOf keep es N)) a = some o := fun a o e => by
    rw [upd_ne (fun q => by rw [q, hD'] at e; cases e)]; exact e
  exact ⟨.lst (accOf keep es N), ⟨σ₁.loc, drp to σ₁.hp⟩, post_drop P4 hs (fun _ _ e => e), Fz.vm (σ := ⟨σ₁.loc, upd (drp to σ₁.hp) D (.lst (accOf keep es N))⟩) P4.st hs (.own upd_self hD') (.ref _), q⟩
theorem WX_AssignCompG {tg elt iter : Expr} {pos : Pos} {ifs : List Expr} {scope : Scope} {cl : List (Str × Addr)} {y : Str} {py spos : Pos} {Q : FV → S → Prop} (ok : Ok X n) (hc : X.ctx = none)
    (hclos : closureFor scope X.env = pure cl) (hcell : ∀ y ∈ scope.names, y.2 ≠ .cell) (hkind : scope.kind = .function) (hnames : ∀ y ∈ scope.names, y.2 = .local → scope.names.lookup y.1 = some .local)
    (hsw : swapsWith (.ListComp elt [⟨tg, iter, ifs, 0⟩] scope pos) (some (.Name y py)) spos.line X.env = pure true) (hy : X.env.kindOf y = some .local)
    (h : WItG X iter tg False σ (fun N P σ₁ hp₀ => CompQ N (fun keep es => ∀ Z D i σ', i < N → σ₁.hp D = none → σ'.hp = upd σ₁.hp D (.lst (accOf keep es i)) → InC X Z scope cl → Ok Z n → ∃ σb, Asg Z tg (P i) σ' σb ∧ W Z (tests ifs Z.env) RB σb
      (fun b σ₂ => b = keep i ∧ σ₂.hp = upd σ₁.hp D (.lst (accOf keep es i)) ∧ (b = true → W Z (eval elt Z.env) VM σ₂ (fun v σ₃ => v = es i ∧ σ₃.hp = upd σ₁.hp D (.lst (accOf keep es i))) F0)) F0) (fun keep es => Q .next ⟨put σ₁.loc y (.lst (accOf keep es N)), hp₀⟩)) E)
    (hs : ∀ env x, foldedSetIterable iter env x = pure x) : WX X (.Assign [.Name y py] (.ListComp elt [⟨tg, iter, ifs, 0⟩] scope pos) spos) σ Q E := fun s st => by
  rw [exec_Assign_Name_used _ _ _ _ hsw]
  refine wpAny_bind (wpAny_standAt (wpAny_bind ?_))
  show wpAny _ _ (do let _ ← comprehension (.ListComp elt [⟨tg, iter, ifs, 0⟩] scope pos) scope X.env _ (newList []) false (eval iter X.env) (some (assign (.Name y py) X.env))) _ _ s
  refine wpAny_bind (wpAny_mono (wpAny_comprehension_free (use := some (assign (.Name y py) X.env)) (Q := fun _ s' => Qw X σ s FM Q .next s') rfl (hs _) hclos hkind hnames (wpAny_mono (h s st) (fun _ _ z => wpAny_mono z (fun it s₂ hh => ?_) fun _ _ z => z) fun _ _ z => z)) (fun _ s' hq => wpAny_pure (wpAny_pure hq)) fun _ _ e => e)
  obtain ⟨J, N, P, σ₁, to, rfl, _, hT, P12, IT, hN, keep, es, item, q⟩ := hh
  refine comp_block (RR := fun acc C => compPost (model X.prog X.w) X.A (Ew X σ s E) (some (assign (.Name y py) X.env)) (fun _ s' => Qw X σ s FM Q .next s') acc C) ok hc hcell hkind P12.st IT hT hN item fun D C s' hC hD hCn hDC PP hn => ?_
  obtain ⟨m, oC, esC, epC, gC, dC, rC⟩ := hn
  replace hD := drp_off (to := to) hD
  replace hCn := drp_off (to := to) hCn
  have hs : ∀ a o, drp to σ₁.hp a = some o → upd (drp to σ₁.hp) D (.lst (accOf keep es N)) a = some o := fun a o e => by
    rw [upd_ne (fun q => by rw [q, hD] at e; cases e)]; exact e
  have P5 := post_drop (hp := drp to σ₁.hp) PP hs (fun _ _ e => e)
  have vm : VM (S.mu ⟨σ₁.loc, drp to σ₁.hp⟩) s'.heap (.ref D) (.lst (accOf keep es N)) := Fz.vm (σ := ⟨σ₁.loc, upd (drp to σ₁.hp) D (.lst (accOf keep es N))⟩) PP.st hs (.own upd_self hD) (.ref _)
  show wpAny _ _ (assign (.Name y py) X.env (.ref D)) _ _ _
  refine wpAny_assign_Name (wpAny_mono (sto_local ok hy _ s' P5.st vm) (fun _ s₃ z => ?_) fun _ _ z => z.elim)
  obtain ⟨_, _, P6, _, rfl⟩ := z
  have CL : C ≠ X.env.locals := fun z => by
    obtain ⟨m0, ⟨o0, _, _, g0, _⟩, _⟩ := P12.st.names
    rw [← z, hC] at g0; cases g0
  obtain ⟨_, sl, gC'⟩ := P6.ext.obj C oC gC (fun z => z hCn) CL fun vs q => by rw [dC] at q; cases q
  refine ⟨m, ⟨_, esC, epC, gC', dC, rC⟩, fun h' hsb => ?_⟩
  exact ⟨.next, _, P12.trans (post_off P12.st (P5.trans P6) hC ⟨m, _, esC, epC, gC', dC, rC⟩ (fun z => z hCn) hsb), trivial, q⟩
theorem sub_one {x : Str} {d : V} {loc : List (Str × V)} : ∀ y e, lk [(x, d)] y = some e → lk (put loc x d) y = some e := fun y e h => by
  by_cases hy : y = x
  · subst hy; rw [lk_put_self]; simpa [lk] using h
  · have : (y == x) = false := by simpa using hy
    simp [lk, List.lookup_cons, this] at h
theorem sub_two {x1 x2 : Str} {d1 d2 : V} {loc : List (Str × V)} : ∀ y e, lk [(x2, d2), (x1, d1)] y = some e → lk (put (put loc x1 d1) x2 d2) y = some e := fun y e h => by
  by_cases hy : y = x2
  · subst hy; rw [lk_put_self]; simpa [lk] using h
  · have : (y == x2) = false := by simpa using hy
    rw [lk_put_ne hy]
    simp only [lk, List.lookup_cons, this] at h
    exact sub_one y e (by simpa [lk, List.lookup_cons] using h)
theorem W_Comp {x : Str} {px pos : Pos} {elt iter : Expr} {ifs : List Expr} {scope : Scope} {cl : List (Str × Addr)} {Q : V → S → Prop} (ok : Ok X n) (hc : X.ctx = none)
    (hclos : closureFor scope X.env = pure cl) (hcell : ∀ y ∈ scope.names, y.2 ≠ .cell) (hkind : scope.kind = .function) (hnames : ∀ y ∈ scope.names, y.2 = .local → scope.names.lookup y.1 = some .local) (hx : scope.names.lookup x = some .local)
    (h : WIt X iter σ (fun N ds σ₁ => CompQ N (fun keep es => ∀ Z D i, i < N → σ₁.hp D = none → InC X Z scope cl → Ok Z n → W Z (tests ifs Z.env) RB ⟨[(x, ds i)], upd σ₁.hp D (.lst (accOf keep es i))⟩
      (fun b σ₂ => b = keep i ∧ σ₂.hp = upd σ₁.hp D (.lst (accOf keep es i)) ∧ (b = true → W Z (eval elt Z.env) VM σ₂ (fun v σ₃ => v = es i ∧ σ₃.hp = upd σ₁.hp D (.lst (accOf keep es i))) F0)) F0) (fun keep es => Q (.lst (accOf keep es N)) σ₁)) E)
    (hs : ∀ env x, foldedSetIterable iter env x = pure x) : WE X (.ListComp elt [⟨.Name x px, iter, ifs, 0⟩] scope pos) σ Q E :=
  W_CompG ok hc hclos hcell hkind hnames (WIt.toG fun s st => wpAny_mono (h s st) (fun _ _ z => wpAny_mono z (fun _ _ z => by cases z with | mk J N ds σ₂ e PP IT z => obtain ⟨hN, keep, es, item, q⟩ := z; exact ⟨J, N, ds, σ₂, e, PP, IT, hN, keep, es, fun Z D i σ' hi hD hh inc okZ =>
    ⟨{ σ' with loc := put σ'.loc x (ds i) }, asg_name (sto_local okZ (by unfold Env.kindOf; rw [inc.scope]; exact lookup_relabel_local hx)), W.drop ⟨sub_one, fun a o e => by show σ'.hp a = some o; rw [hh]; exact e⟩ (item Z D i hi hD inc okZ)⟩, q⟩) fun _ _ z => z) fun _ _ z => z) hs
theorem swaps_comp {env : Env} {sc : Scope} {elt : Expr} {gs : List Comprehension} {scope : Scope} {pos py : Pos} {y : Str} {line : Nat} (he : env.scope = sc) (hk : sc.kind = .function) (h : (sc.kind == .function && sc.names.lookup y == some .local && py.line == pos.line && !(scope.names.any fun (n, k) => n == y && (k == .local || k == .cell))) = true) :
    swapsWith (.ListComp elt gs scope pos) (some (.Name y py)) line env = pure true := by
  subst he
  have e : env.blockKind = env.scope.kind := by unfold Env.blockKind; rw [hk]; rfl
  rw [← e] at h
  exact congrArg pure h
theorem WX_AssignComp {x : Str} {px pos : Pos} {elt iter : Expr} {ifs : List Expr} {scope : Scope} {cl : List (Str × Addr)} {y : Str} {py spos : Pos} {Q : FV → S → Prop} (ok : Ok X n) (hc : X.ctx = none)
    (hclos : closureFor scope X.env = pure cl) (hcell : ∀ y ∈ scope.names, y.2 ≠ .cell) (hkind : scope.kind = .function) (hnames : ∀ y ∈ scope.names, y.2 = .local → scope.names.lookup y.1 = some .local) (hx : scope.names.lookup x = some .local)
    (hsw : swapsWith (.ListComp elt [⟨.Name x px, iter, ifs, 0⟩] scope pos) (some (.Name y py)) spos.line X.env = pure true) (hy : X.env.kindOf y = some .local)
    (h : WIt X iter σ (fun N ds σ₁ => CompQ N (fun keep es => ∀ Z D i, i < N → σ₁.hp D = none → InC X Z scope cl → Ok Z n → W Z (tests ifs Z.env) RB ⟨[(x, ds i)], upd σ₁.hp D (.lst (accOf keep es i))⟩
      (fun b σ₂ => b = keep i ∧ σ₂.hp = upd σ₁.hp D (.lst (accOf keep es i)) ∧ (b = true → W Z (eval elt Z.env) VM σ₂ (fun v σ₃ => v = es i ∧ σ₃.hp = upd σ₁.hp D (.lst (accOf keep es i))) F0)) F0) (fun keep es => Q .next { σ₁ with loc := put σ₁.loc y (.lst (accOf keep es N)) })) E)
    (hs : ∀ env x, foldedSetIterable iter env x = pure x) : WX X (.Assign [.Name y py] (.ListComp elt [⟨.Name x px, iter, ifs, 0⟩] scope pos) spos) σ Q E :=
  WX_AssignCompG ok hc hclos hcell hkind hnames hsw hy (WIt.toG fun s st => wpAny_mono (h s st) (fun _ _ z => wpAny_mono z (fun _ _ z => by cases z with | mk J N ds σ₂ e PP IT z => obtain ⟨hN, keep, es, item, q⟩ := z; exact ⟨J, N, ds, σ₂, e, PP, IT, hN, keep, es, fun Z D i σ' hi hD hh inc okZ =>
    ⟨{ σ' with loc := put σ'.loc x (ds i) }, asg_name (sto_local okZ (by unfold Env.kindOf; rw [inc.scope]; exact lookup_relabel_local hx)), W.drop ⟨sub_one, fun a o e => by show σ'.hp a = some o; rw [hh]; exact e⟩ (item Z D i hi hD inc okZ)⟩, q⟩) fun _ _ z => z) fun _ _ z => z) hs
end
end Mine
namespace Mine
open PySem PySem.W PySem.Calls PySem.Spec PyProof.Rows
section
variable {X : Cx} {n : Nat} {σ : S} {E : Value → S → Prop}
theorem W_Repl {m l : Str} {mp ap pos kp bp lp zp : Pos} {c1 c2 : Str} {k1 k2 : Nat} {x y z1 z2 : List Nat} {Q : V → S → Prop} (ok : Ok X n) (hm : X.env.kindOf m = some .local) (hl : X.env.kindOf l = some .local)
    (em : lk σ.loc m = some (.str x)) (el : lk σ.loc l = some (.str y)) (e1 : c1.cps.toList = z1) (e2 : c2.cps.toList = z2) (h1 : z1 ≠ []) (hy : y ≠ []) (hlen : x.length ≤ 10000) (hly : z1.length + y.length ≤ 1000) (hz : z2.length ≤ 14) (hne : z1 ++ y ≠ z2)
    (q : Q (.str (replL x (z1 ++ y) z2)) σ) (hline : (ap.endLine == pos.line) = true) (dm : (m == ("__debug__" : Str)) = false) (dl : (l == ("__debug__" : Str)) = false) :
    WE X (.Call (.Attribute (.Name m mp) "replace" ap) [.BinOp (.Constant (.str c1) k1 kp) .Add (.Name l lp) bp, .Constant (.str c2) k2 zp] [] pos) σ Q E := fun s st => by
  rw [arm_eval_Call]
  show wpAny _ _ (eval (.Name m mp) X.env >>= _) _ _ _
  refine wpAny_bind ((W_local (Q := fun d σ' => d = .str x ∧ σ' = σ) (E := E) ok hm em ⟨rfl, rfl⟩ dm).run (Post.refl st) fun v s₁ a σ₁ _ P₁ vm h₁ => wpAny_bind (wpAny_standAt ?_))
  obtain ⟨rfl, rfl⟩ := h₁
  obtain ⟨t, rfl⟩ := vm.strI
  unfold methodCall calleeOf methodCallPos
  have e : methodCallForm ([Expr.BinOp (.Constant (.str c1) k1 kp) .Add (.Name l lp) bp, .Constant (.str c2) k2 zp].length + ([] : List Keyword).length) (backTo pos (starEach [.BinOp (.Constant (.str c1) k1 kp) .Add (.Name l lp) bp, .Constant (.str c2) k2 zp] X.env)) (backToKw pos (keywordEach [] X.env)) = true := rfl
  rw [e]
  rw [if_pos rfl]
  dsimp only
  rw [hline]
  refine wpAny_bind (wpAny_holding (GM.replace (x := ⟨x.toArray⟩) (wpAny_bind (wpAny_pure ?_))))
  refine callWith_of (P := X.K.In) rfl (keeps_builtin (X := X)) ?_
  obtain ⟨mm, hn, hmm⟩ := P₁.st.names
  obtain ⟨v2, hv2, vm2⟩ := hmm _ _ el
  obtain ⟨t2, rfl⟩ := vm2.strI
  refine evalArgs_plain (spliced_cons (wpAny_BinOp (wpAny_Constant_str ?_)))
  refine wpAny_Name (wpAny_loadName_local ok.kind hl hn hv2 ?_) dl
  refine P.add_str ?_
  have hc1 : (c1.length == 0) = false := by
    have : c1.length = z1.length := by rw [← e1, Array.length_toList]; rfl
    rw [this]; cases z1 with | nil => exact absurd rfl h1 | cons _ _ => rfl
  have hc2 : ((⟨y.toArray⟩ : Str).length == 0) = false := by rw [mk_len]; cases y with | nil => exact absurd rfl hy | cons _ _ => rfl
  rw [hc1, hc2]
  simp only [Bool.false_eq_true, if_false]
  have hcat : (c1 ++ (⟨y.toArray⟩ : Str)).cps.toList = z1 ++ y := by rw [PySem.Str.cps_append, Array.toList_append, e1]
  have hcl : (c1 ++ (⟨y.toArray⟩ : Str)).length = z1.length + y.length := by
    have := congrArg List.length hcat
    rw [Array.length_toList, List.length_append] at this; exact this
  refine ⟨by rw [hcl, sizeLine_eq]; omega, ?_⟩
  refine spliced_cons ?_
  show wpAny _ _ (eval (.Constant (.str c2) k2 zp) X.env) _ _ _
  refine wpAny_Constant_str (spliced_nil ⟨P₁.st.inK ok, ?_⟩)
  have ecat : c1 ++ (⟨y.toArray⟩ : Str) = mk (z1 ++ y) := by
    refine PySem.Str.ext' ?_
    have := congrArg List.toArray hcat
    simpa using this
  have ez : c2 = mk z2 := by
    refine PySem.Str.ext' ?_
    have := congrArg List.toArray e2
    simpa using this
  show wpAny _ _ (call (.builtin "str.replace") ([Value.str ⟨x.toArray⟩ t] ++ [Value.str (c1 ++ ⟨y.toArray⟩) _, Value.str c2 _])) _ _ _
  rw [ecat, ez]
  refine SC.replaceW (Nat.succ_ne_zero _) (Nat.succ_ne_zero _) (Nat.ne_of_lt (Nat.lt_succ_self _)) ?_ (by rw [mk_len]; omega) (by rw [mk_len]; exact hz) fun t' k => ?_
  · rw [str_beq]; simpa using hne
  · exact (qw_same (s := s₁) P₁.st k (.strE rfl) q : Qw X σ₁ s₁ VM Q _ _).after P₁
end
end Mine
namespace Mine
open PySem PySem.W PySem.Calls PySem.Spec PyProof.Rows
noncomputable def fdAt (K : Frag) (a : Addr) : FuncData := match K.lookup a with
  | some ⟨_, _, .func fd, _⟩ => fd
  | _ => default
noncomputable def bodyAt (K : Frag) (a : Addr) : List Stmt := match (fdAt K a).body with
  | .stmts b => b
  | _ => []
noncomputable def isFd (K : Frag) (a : Addr) : Bool := match K.lookup a with
  | some ⟨_, _, .func _, _⟩ => true
  | _ => false
noncomputable def fnOk (K : Frag) (a : Addr) : Bool :=
  isFd K a && codeIn K (fdAt K a).code (fdAt K a).qualname && (match (fdAt K a).body with | .stmts _ => true | _ => false) && (fdAt K a).globals == mainGlobals && (fdAt K a).builtins == builtinsNs &&
  (match (fdAt K a).scope.kind with | .function => true | _ => false) && !(fdAt K a).scope.isCoroutine && !(fdAt K a).scope.isGenerator && (fdAt K a).scope.names.all fun x => match x.2 with | .cell => false | _ => true
theorem FnIs.of {K : Frag} {a : Addr} (h : fnOk K a = true) : FnIs K a (fdAt K a) (bodyAt K a) := by
  unfold fnOk at h
  simp only [Bool.and_eq_true] at h
  obtain ⟨⟨⟨⟨⟨⟨⟨⟨h1, h2⟩, h3⟩, h4⟩, h5⟩, h6⟩, h7⟩, h8⟩, h9⟩ := h
  refine ⟨?_, h2, ?_, ?_, ?_, ?_, ?_, ?_, ?_⟩
  · unfold isFd at h1
    split at h1
    · rename_i q
      rename_i c d fd sl
      have e : fdAt K a = fd := by unfold fdAt; rw [q]
      exact ⟨c, d, sl, by rw [e]; exact q⟩
    · cases h1
  · unfold bodyAt
    split at h3
    · rename_i q; rw [q]
    · cases h3
  · exact eq_of_beq h4
  · exact eq_of_beq h5
  · split at h6
    · assumption
    · cases h6
  · simpa using h7
  · simpa using h8
  · intro x hx e
    have := List.all_eq_true.mp h9 x hx
    rw [e] at this
    cases this
end Mine
namespace Mine
open PySem PySem.W PySem.Calls PySem.Spec PyProof.Rows
section
variable {X : Cx} {n : Nat} {σ : S} {E : Value → S → Prop}
theorem lk_hit {x : Str} {d : V} {r : List (Str × V)} : lk ((x, d) :: r) x = some d := by simp [lk, List.lookup]
theorem lk_skip {x y : Str} {d e : V} {r : List (Str × V)} (h : x ≠ y) (k : lk r x = some d) : lk ((y, e) :: r) x = some d := by
  unfold lk at *
  rw [List.lookup_cons, show (x == y) = false from by simpa using h]
  exact k
theorem lk_cut {x y : Str} {e : V} {r : List (Str × V)} (h : x ≠ y) (k : lk r x = none) : lk ((y, e) :: r) x = none := by
  unfold lk at *
  rw [List.lookup_cons, show (x == y) = false from by simpa using h]
  exact k
theorem lkp_skip {x y : Str} {d e : V} {r : List (Str × V)} (h : x ≠ y) (k : lk r x = some d) : lk (put r y e) x = some d := (lk_put_ne h).trans k
noncomputable def clsOk (K : Frag) (C : Addr) (name : Str) : Bool := match findIn K (.ref C) name with
  | some attr => noGet K attr
  | none => false
theorem KGet.of {K K' : Frag} {C : Addr} {name : Str} (hK : K = K') (h1 : plainGet K' C name = true) (h2 : hasDictIn K' C = true) (h3 : clsOk K' C name = true) : KGet K C name := by
  subst hK
  refine ⟨h1, h2, ?_⟩
  unfold clsOk at h3
  split at h3
  · rename_i attr q; exact ⟨attr, q, h3⟩
  · cases h3
theorem KSet.of {K K' : Frag} {C : Addr} {name : Str} (hK : K = K') (h1 : findIn K' (.ref C) "__setattr__" = some (some (.builtin "object.__setattr__"))) (h2 : plainOver K' C = true) (h3 : takerIn K' C name = some none) (h4 : hasDictIn K' C = true) : KSet K C name := by subst hK; exact ⟨h1, h2, h3, h4⟩
theorem KMeth.of {K K' : Frag} {C f : Addr} {name : Str} (hK : K = K') (h1 : plainGet K' C name = true) (h2 : findIn K' (.ref C) name = some (some (.ref f))) (h3 : isFn K' (.ref f) = true) (h4 : keepIn K' (.ref f) = true) : KMeth K C name f := by subst hK; exact ⟨h1, h2, h3, h4⟩
theorem KB.of {K' : Frag} {x : Str} {v : Value} (hK : X.K = K') (h1 : X.env.kindOf x = some .globalImplicit) (h2 : nsIn K' mainGlobals x = some none) (h3 : bootBuiltins x = some v) : KB X x v := by subst hK; exact ⟨h1, h2, h3⟩
theorem W_gl {K' : Frag} {x : Str} {pos : Pos} {v : Value} {Q : V → S → Prop} (ok : Ok X n) (hK : X.K = K') (hx : X.env.kindOf x = some .globalImplicit) (e : nsIn K' mainGlobals x = some (some v)) (hd : (x == ("__debug__" : Str)) = false) (q : Q (.lit v) σ) : WE X (.Name x pos) σ Q E :=
  W_global ok hx (by rw [hK]; exact e) q hd
theorem W_bi {K' : Frag} {x : Str} {pos : Pos} {v : Value} {Q : V → S → Prop} (ok : Ok X n) (hK : X.K = K') (hx : X.env.kindOf x = some .globalImplicit) (e : nsIn K' mainGlobals x = some none) (hv : bootBuiltins x = some v) (hn : x ≠ "__name__") (hd : (x == ("__debug__" : Str)) = false) (q : Q (.lit v) σ) : WE X (.Name x pos) σ Q E :=
  W_builtin ok hx (by rw [hK]; exact e) hv hn q hd
theorem keeps_fn {K' : Frag} {f : Value} (hK : X.K = K') (h : keepIn K' f = true) : Keeps X f := keeps_of (by rw [hK]; exact h)
theorem ht_bi {K' : Frag} {x : Str} {pos : Pos} {v : Value} (ok : Ok X n) (hK : X.K = K') (hx : X.env.kindOf x = some .globalImplicit) (e : nsIn K' mainGlobals x = some none) (hv : bootBuiltins x = some v) (hn : x ≠ "__name__") (hd : (x == ("__debug__" : Str)) = false) :
    ∀ (A : Around) (σ' : S) (s : Shared) (Q' : Value → Shared → Prop) (E' : Value → Shared → Prop), St X σ' s.heap → Q' v s → wpAny (model X.prog X.w) A (eval (.Name x pos) X.env) Q' E' s := fun A σ' s Q' E' st q =>
  Name_function_global ok.kind hx (loadGlobal_builtin (ok.genv ▸ ok.top.g.keeps st.base) (mg_none_of ok.inK ok.top.g (by rw [hK]; exact e)) (ok.benv ▸ ok.top.b.keeps st.base) ((ok.top.builtins x hn).trans hv) q) hd
theorem ht_gl {K' : Frag} {x : Str} {pos : Pos} {v : Value} (ok : Ok X n) (hK : X.K = K') (hx : X.env.kindOf x = some .globalImplicit) (e : nsIn K' mainGlobals x = some (some v)) (hd : (x == ("__debug__" : Str)) = false) :
    ∀ (A : Around) (σ' : S) (s : Shared) (Q' : Value → Shared → Prop) (E' : Value → Shared → Prop), St X σ' s.heap → Q' v s → wpAny (model X.prog X.w) A (eval (.Name x pos) X.env) Q' E' s := fun A σ' s Q' E' st q =>
  Name_function_global ok.kind hx (loadGlobal_global (ok.genv ▸ ok.top.g.keeps st.base) (mg_of ok.inK ok.top.g (by rw [hK]; exact e)) q) hd
theorem W_field {x attr : Str} {xp pos : Pos} {a C dx : Addr} {fs : List (Str × V)} {d : V} {Q : V → S → Prop} (ok : Ok X n) (hx : X.env.kindOf x = some .local) (hd : (x == ("__debug__" : Str)) = false) (ex : lk σ.loc x = some (.ref a)) (h1 : σ.hp a = some (.inst C dx)) (h2 : σ.hp dx = some (.dict fs)) (kg : KGet X.K C attr)
    (e : lk fs attr = some d) (hl : ∀ w, d ≠ .lit w) (q : Q d σ) : WE X (.Attribute (.Name x xp) attr pos) σ Q E :=
  W_Attr (W_local ok hx ex (get_field ok h1 h2 kg e hl q) hd)
noncomputable def isCls (K : Frag) (C : Addr) : Bool := match K.lookup C with
  | some ⟨_, _, .cls _, _⟩ => true
  | _ => false
theorem KExc.of {K K' : Frag} {C : Addr} (hK : K = K') (h1 : isCls K' C = true) (h2 : subIn K' (.ref C) (.type "BaseException") = some true) (h3 : typeIn K' (.ref C) = some (.type "type")) : KExc K C := by
  subst hK
  refine ⟨?_, h2, h3⟩
  unfold isCls at h1
  split at h1
  · rename_i q; exact ⟨_, _, _, _, q⟩
  · cases h1
structure In (X Y : Cx) (fd : FuncData) : Prop where
  K : Y.K = X.K
  w : Y.w = X.w
  prog : Y.prog = X.prog
  ctx : Y.ctx = X.ctx
  env : Y.env = Y.fenv
  scope : Y.env.scope = fd.scope
theorem Call.fn' {K' : Frag} {f : Addr} {ds : List V} {names : List Str} {loc0 : List (Str × V)} {Q : V → S → Prop} (ok : Ok X (n + 1)) (hK : X.K = K') (hf : fnOk K' f = true)
    (hb : ∀ vs : List Value, vs.length = names.length → ∀ S, peek K' S (bindArgs (fdAt K' f) ⟨vs, []⟩) = some (names.zip vs)) (hl : (names.all fun x => (fdAt K' f).scope.names.lookup x == some .local) = true) (hn : names.Nodup) (hlen : ds.length = names.length) (h0 : loc0 = names.zip ds)
    (h : ∀ Y, Ok Y n → In X Y (fdAt K' f) → WXs Y (bodyAt K' f) ⟨loc0, σ.hp⟩ (fun fl σ' => Q (retV fl) ⟨σ.loc, σ'.hp⟩) (fun c σ' => E c ⟨σ.loc, σ'.hp⟩)) : Call X (.ref f) ds σ Q E := by
  subst h0
  subst hK
  exact Call.fn ok (FnIs.of hf) (fun vs s st vm => binds_place (fun vs e => kp_binds (st.inK ok) (hb vs e)) hl hn hlen vm) fun L okL => h _ okL ⟨rfl, rfl, rfl, rfl, rfl, rfl⟩
theorem len_one {vs : List Value} {n : Nat} (e : vs.length = n + 1) : ∃ v ws, vs = v :: ws ∧ ws.length = n := by
  cases vs with
  | nil => cases e
  | cons v ws => exact ⟨v, ws, rfl, Nat.succ.inj e⟩
theorem bind1 {P : List Value → Prop} (h : ∀ v, P [v]) : ∀ vs : List Value, vs.length = 1 → P vs := fun vs e => by
  obtain ⟨v, ws, rfl, e'⟩ := len_one e
  cases List.eq_nil_of_length_eq_zero e'; exact h v
theorem bind2 {P : List Value → Prop} (h : ∀ v w, P [v, w]) : ∀ vs : List Value, vs.length = 2 → P vs := fun vs e => by
  obtain ⟨v, ws, rfl, e'⟩ := len_one e
  exact bind1 (P := fun ws => P (v :: ws)) (fun w => h v w) ws e'
theorem bind3 {P : List Value → Prop} (h : ∀ u v w, P [u, v, w]) : ∀ vs : List Value, vs.length = 3 → P vs := fun vs e => by
  obtain ⟨v, ws, rfl, e'⟩ := len_one e
  exact bind2 (P := fun ws => P (v :: ws)) (fun w => h v w) ws e'
theorem bind4 {P : List Value → Prop} (h : ∀ u v w z, P [u, v, w, z]) : ∀ vs : List Value, vs.length = 4 → P vs := fun vs e => by
  obtain ⟨v, ws, rfl, e'⟩ := len_one e
  exact bind3 (P := fun ws => P (v :: ws)) (fun w => h v w) ws e'
theorem kindE {env : Env} {fd : FuncData} {x : Str} {k : Option NameKind} (h : env.scope = fd.scope) (e : fd.scope.names.lookup x = k) : env.kindOf x = k := by unfold Env.kindOf; rw [h]; exact e
theorem KExcSet.of {K K' : Frag} {C : Addr} {name : Str} (hK : K = K') (h1 : findIn K' (.ref C) "__setattr__" = some (some (.builtin "object.__setattr__"))) (h2 : ∃ cd, clsIn K' C = some cd ∧ cd.hasDict = true ∧ ∀ self, refuseLoop self "__setattr__" cd.mro = pure ()) (h3 : mroIn K' C (.type "object") = some true)
    (h4 : takerIn K' C name = some none) : KExcSet K C name := by subst hK; exact ⟨h1, h2, h3, h4⟩
end
end Mine
namespace Mine
open PySem PySem.W PySem.Calls PySem.Spec PyProof.Rows
section
variable {X : Cx} {n : Nat} {σ : S} {E : Value → S → Prop}
theorem Call.exc' {K' : Frag} {fI C : Addr} {names : List Str} {ds : List V} {loc0 : Addr → List (Str × V)} {Q : V → S → Prop}
    {nm qn : Str} {N : Addr} {bs bm : List Value} {hdct : Bool} {sn : List Str} {sub : List Value} {ab : Bool} {col : Option Bool} {dd : Option Addr} {k0 k1 k2 k3 k5 : Option Value} {B newId initId : String}
    (FB : ExcBaseFacts B newId initId bm) (ok : Ok X (n + 1)) (hK : X.K = K') (hC : K'.lookup C = some (excClassObj nm qn C N bs bm hdct sn sub ab col dd k0 k1 k2 k3 k5 newId)) (km : KMakeExc K' C fI) (hf : fnOk K' fI = true) (hds : ds.length ≤ 100)
    (hb : ∀ vs : List Value, vs.length = names.length → ∀ S, peek K' S (bindArgs (fdAt K' fI) ⟨vs, []⟩) = some (names.zip vs)) (hl : (names.all fun x => (fdAt K' fI).scope.names.lookup x == some .local) = true) (hn : names.Nodup) (hlen : ds.length + 1 = names.length) (h0 : ∀ a, loc0 a = names.zip (.ref a :: ds))
    (h : ∀ Y a, Ok Y n → In X Y (fdAt K' fI) → (∃ L, Y.env = callEnv (fdAt K' fI) L fI) → σ.hp a = none → WAt Y (bodyAt K' fI) (execs (bodyAt K' fI) Y.env) FM ⟨loc0 a, upd σ.hp a (.exc C none)⟩ (fun fl σ' => retV fl = .none ∧ Q (.ref a) ⟨σ.loc, σ'.hp⟩) (fun c σ' => E c ⟨σ.loc, σ'.hp⟩)) : Call X (.ref C) ds σ Q E := by
  subst hK
  refine Call.exc FB ok hC km (FnIs.of hf) hds (loc0 := loc0) (fun a vs s mu inK vm => ?_) fun A' a L hA ha okL => h _ a okL ⟨rfl, rfl, rfl, rfl, rfl, rfl⟩ ⟨L, rfl⟩ ha
  rw [h0]
  exact binds_place (fun vs e => kp_binds inK (hb vs e)) hl hn (by simpa using hlen) vm
theorem Call.make' {K' : Frag} {fI C : Addr} {names : List Str} {ds : List V} {loc0 : Addr → List (Str × V)} {Q : V → S → Prop} (ok : Ok X (n + 1)) (hK : X.K = K') (km : KMake K' C fI) (hf : fnOk K' fI = true)
    (hb : ∀ vs : List Value, vs.length = names.length → ∀ S, peek K' S (bindArgs (fdAt K' fI) ⟨vs, []⟩) = some (names.zip vs)) (hl : (names.all fun x => (fdAt K' fI).scope.names.lookup x == some .local) = true) (hn : names.Nodup) (hlen : ds.length + 1 = names.length) (h0 : ∀ a, loc0 a = names.zip (.ref a :: ds))
    (h : ∀ Y a dx, Ok Y n → In X Y (fdAt K' fI) → σ.hp a = none → σ.hp dx = none → a ≠ dx → WXs Y (bodyAt K' fI) ⟨loc0 a, upd (upd σ.hp dx (.dict [])) a (.inst C dx)⟩ (fun fl σ' => retV fl = .none ∧ Q (.ref a) ⟨σ.loc, σ'.hp⟩) (fun c σ' => E c ⟨σ.loc, σ'.hp⟩)) : Call X (.ref C) ds σ Q E := by
  subst hK
  refine Call.make ok km (FnIs.of hf) (loc0 := loc0) (fun a vs s mu inK vm => ?_) fun A' a dx L hA ha hd hne okL => h _ a dx okL ⟨rfl, rfl, rfl, rfl, rfl, rfl⟩ ha hd hne
  rw [h0]
  exact binds_place (fun vs e => kp_binds inK (hb vs e)) hl hn (by simpa using hlen) vm
theorem WAt_super {fI C a : Addr} {sf y : Str} {od : Option Addr} {body : List Stmt} {p0 p1 ap np pos pos' : Pos} {Q : FV → S → Prop} {dy : V}
    {nm qn : Str} {N : Addr} {bs bm : List Value} {hdct : Bool} {sn : List Str} {sub : List Value} {ab : Bool} {col : Option Bool} {dd : Option Addr} {k0 k1 k2 k3 k5 : Option Value} {newId : String} {r : List Value}
    (FB : ExcBaseFacts "Exception" newId "Exception.__init__" bm) (ok : Ok X n) (hC : X.K.lookup C = some (excClassObj nm qn C N bs bm hdct sn sub ab col dd k0 k1 k2 k3 k5 newId)) (hbm : bm = .type "Exception" :: r)
    (ks : KSup X fI C sf) (hself : lk σ.loc sf = some (.ref a)) (h1 : σ.hp a = some (.exc C od)) (hy : lk σ.loc y = some dy) (hyk : X.env.kindOf y = some .local) (hyd : (y == ("__debug__" : Str)) = false)
    (hline : (ap.endLine == pos.line) = true) (hsw : ∀ env, swapsWith (.Call (.Attribute (.Call (.Name "super" p0) [] [] p1) "__init__" ap) [.Name y np] [] pos) none pos'.line env = pure false) (q : Q .next σ) :
    WAt X body (exec (.Expr (.Call (.Attribute (.Call (.Name "super" p0) [] [] p1) "__init__" ap) [.Name y np] [] pos) pos') X.env) FM σ Q E := fun s st =>
  super_stmt FB ok hC hbm ks hself h1 hy hyk hyd hline hsw q (Post.refl st)
end
end Mine
namespace Mine
open PySem PySem.W PySem.Calls PySem.Spec PyProof.Rows
theorem vms_ints {mu : Addr → Prop} {h : Heap} {vs : List Value} {ns : List Int} (x : IntsAre vs ns) : VMs mu h vs (ns.map .int) := by
  induction x with
  | nil => exact .nil
  | cons n t _ ih => exact .cons (.int n t) ih
end Mine
namespace Mine
open PySem PySem.Builtin.Str
noncomputable def occ1 (sub : List Nat) : Nat → Nat → List Nat → List Nat
  | _, _, [] => []
  | k + 1, i, _ :: l => occ1 sub k (i + 1) l
  | 0, i, a :: l => if (a :: l).take sub.length = sub then i :: occ1 sub (sub.length - 1) (i + 1) l else occ1 sub 0 (i + 1) l
theorem occ1_zero (sub : List Nat) (i a : Nat) (l : List Nat) : occ1 sub 0 i (a :: l) = if (a :: l).take sub.length = sub then i :: occ1 sub (sub.length - 1) (i + 1) l else occ1 sub 0 (i + 1) l := by rw [occ1]
theorem occ1_nil (sub : List Nat) (k i : Nat) : occ1 sub k i [] = [] := by cases k <;> rfl
theorem occ_run {L sub : List Nat} (hs : sub ≠ []) : ∀ (l : List Nat) (i : Nat) (found : Array Nat) (free : Nat), L.drop i = l → i + l.length = L.length → found.size ≤ i →
    (forIn (List.range' i (l.length + 1)) (found, free) (StrLaws.occBody (mk L) (mk sub) L.length (L.length + 1))).run.fst.toList = found.toList ++ occ1 sub (free - i) i l
  | [], i, found, free, hd, hi, hf => by
    rw [show ([] : List Nat).length + 1 = 1 from rfl, List.range'_one, List.forIn_cons]
    unfold StrLaws.occBody
    rw [if_neg]
    · rw [occ1_nil, List.append_nil]
      rfl
    · intro h
      have h2 := h.1.2
      rw [mk_len, ← hi] at h2
      exact hs (List.length_eq_zero_iff.mp (Nat.le_zero.mp (Nat.le_of_add_le_add_left h2)))
  | a :: l, i, found, free, hd, hi, hf => by
    have hd' : L.drop (i + 1) = l := by rw [← List.drop_drop, hd]; rfl
    have hi' : i + 1 + l.length = L.length := (Nat.succ_add i l.length).trans hi
    rw [show (a :: l).length + 1 = (l.length + 1) + 1 from rfl, List.range'_succ, List.forIn_cons]
    have hat : subAt (mk L) (mk sub) i = ((a :: l).take sub.length == sub) := by
      rw [StrLaws.subAt_eq, mk_len]
      show ((L.drop i).take sub.length == sub) = _
      rw [hd]
    by_cases hfr : free ≤ i
    · have e0 : free - i = 0 := Nat.sub_eq_zero_of_le hfr
      by_cases hm : (a :: l).take sub.length = sub
      · have hlen : sub.length ≤ (a :: l).length := Nat.le_trans (Nat.le_of_eq (congrArg List.length hm).symm) (List.length_take_le' _ _)
        unfold StrLaws.occBody
        rw [if_pos ⟨⟨⟨Nat.lt_succ_of_le (Nat.le_trans hf (Nat.le.intro hi)), hfr⟩, by rw [mk_len, ← hi]; exact Nat.add_le_add_left hlen i⟩, by rw [hat]; exact beq_iff_eq.mpr hm⟩]
        have ih := occ_run (L := L) hs l (i + 1) (found.push i) (i + (mk sub).length) hd' hi' (by rw [Array.size_push]; exact Nat.succ_le_succ hf)
        rw [mk_len] at ih
        show (forIn (List.range' (i + 1) (l.length + 1)) (found.push i, i + (mk sub).length) (StrLaws.occBody (mk L) (mk sub) L.length (L.length + 1))).run.fst.toList = _
        rw [mk_len, ih, e0, occ1_zero, if_pos hm, Nat.add_sub_add_left, Array.toList_push, List.append_assoc]
        rfl
      · unfold StrLaws.occBody
        rw [if_neg (fun h => hm (by have := h.2; rw [hat] at this; exact beq_iff_eq.mp this))]
        have ih := occ_run (L := L) hs l (i + 1) found free hd' hi' (Nat.le_succ_of_le hf)
        show (forIn (List.range' (i + 1) (l.length + 1)) (found, free) (StrLaws.occBody (mk L) (mk sub) L.length (L.length + 1))).run.fst.toList = _
        rw [ih, e0, Nat.sub_eq_zero_of_le (Nat.le_succ_of_le hfr), occ1_zero, if_neg hm]
    · unfold StrLaws.occBody
      rw [if_neg (fun h => hfr h.1.1.2)]
      have ih := occ_run (L := L) hs l (i + 1) found free hd' hi' (Nat.le_succ_of_le hf)
      show (forIn (List.range' (i + 1) (l.length + 1)) (found, free) (StrLaws.occBody (mk L) (mk sub) L.length (L.length + 1))).run.fst.toList = _
      rw [ih, ← Nat.succ_pred_eq_of_pos (Nat.sub_pos_of_lt (Nat.lt_of_not_le hfr))]
      rfl
theorem occ_is {L sub : List Nat} (hs : sub ≠ []) : occurrences (mk L) (mk sub) 0 (mk L).length ((mk L).length + 1) = occ1 sub 0 0 L := by
  rw [StrLaws.occ_eq, mk_len, Nat.sub_zero]
  have := occ_run (L := L) hs L 0 #[] 0 rfl (by simp) (by simp)
  rw [this]; simp
noncomputable def repR (sub new : List Nat) : Nat → List Nat → List Nat
  | _, [] => []
  | k + 1, _ :: l => repR sub new k l
  | 0, a :: l => if (a :: l).take sub.length = sub then new ++ repR sub new (sub.length - 1) l else a :: repR sub new 0 l
theorem sub_list (L : List Nat) (a b : Nat) : (strSub (mk L) a b).cps.toList = (L.drop a).take (b - a) := by rw [StrLaws.strSub_toList]
theorem join_cons (sep x : Str) (r : List Str) (h : r ≠ []) : (Str.join sep (x :: r)).cps.toList = x.cps.toList ++ sep.cps.toList ++ (Str.join sep r).cps.toList := by
  cases r with
  | nil => exact absurd rfl h
  | cons y r =>
    show (x ++ sep ++ Str.join sep (y :: r)).cps.toList = _
    rw [Str.cps_append, Str.cps_append]; simp
theorem repR_nil (sub new : List Nat) (k : Nat) : repR sub new k [] = [] := by cases k <;> rfl
theorem parts_rep {L sub new : List Nat} (hs : sub ≠ []) : ∀ (l : List Nat) (i k a : Nat), L.drop i = l → i + l.length = L.length → (k = 0 ∧ a ≤ i ∨ k ≠ 0 ∧ a = i + k) →
    (Str.join (mk new) (StrLaws.partsFrom (mk L) sub.length a (occ1 sub k i l))).cps.toList = (L.drop a).take (i - a) ++ repR sub new k l
  | [], i, k, a, hd, hi, ha => by
    rw [occ1_nil, repR_nil, List.append_nil]
    show (strSub (mk L) a (mk L).length).cps.toList = _
    rw [sub_list, mk_len, ← show i = L.length from hi]
  | c :: l, i, 0, a, hd, hi, ha => by
    have hd' : L.drop (i + 1) = l := by rw [← List.drop_drop, hd]; rfl
    have hi' : i + 1 + l.length = L.length := (Nat.succ_add i l.length).trans hi
    have ha' : a ≤ i := ha.elim (fun h => h.2) fun h => absurd rfl h.1
    unfold occ1 repR
    by_cases hm : (c :: l).take sub.length = sub
    · rw [if_pos hm, if_pos hm]
      have hs0 : 0 < sub.length := List.length_pos_iff.mpr hs
      have ih := parts_rep (L := L) (new := new) hs l (i + 1) (sub.length - 1) (i + sub.length) hd' hi' (by
        by_cases h1 : sub.length - 1 = 0
        · exact .inl ⟨h1, Nat.add_le_add_left (Nat.sub_eq_zero_iff_le.mp h1) i⟩
        · exact .inr ⟨h1, by rw [Nat.add_assoc, Nat.add_sub_cancel' hs0]⟩)
      obtain ⟨p, r, e⟩ := StrLaws.partsFrom_ne (mk L) sub.length (i + sub.length) (occ1 sub (sub.length - 1) (i + 1) l)
      show (Str.join (mk new) (strSub (mk L) a i :: StrLaws.partsFrom (mk L) sub.length (i + sub.length) (occ1 sub (sub.length - 1) (i + 1) l))).cps.toList = _
      rw [join_cons _ _ _ (by rw [e]; exact List.cons_ne_nil _ _), ih, sub_list, Nat.sub_eq_zero_of_le (Nat.add_le_add_left hs0 i), List.take_zero, List.nil_append, List.append_assoc]
    · rw [if_neg hm, if_neg hm]
      have ih := parts_rep (L := L) (new := new) hs l (i + 1) 0 a hd' hi' (.inl ⟨rfl, Nat.le_succ_of_le ha'⟩)
      rw [ih, Nat.succ_sub ha', List.take_add_one]
      have e2 : (L.drop a)[i - a]? = some c := by
        rw [List.getElem?_drop, Nat.add_sub_cancel' ha', ← List.head?_drop, hd]
        rfl
      rw [e2, List.append_assoc]
      rfl
  | c :: l, i, k + 1, a, hd, hi, ha => by
    have hd' : L.drop (i + 1) = l := by rw [← List.drop_drop, hd]; rfl
    have hi' : i + 1 + l.length = L.length := (Nat.succ_add i l.length).trans hi
    have ha' : a = i + (k + 1) := ha.elim (fun h => absurd h.1 (Nat.succ_ne_zero k)) fun h => h.2
    have ih := parts_rep (L := L) (new := new) hs l (i + 1) k a hd' hi' (by
      cases k with
      | zero => exact .inl ⟨rfl, Nat.le_of_eq ha'⟩
      | succ k => exact .inr ⟨Nat.succ_ne_zero k, ha'.trans (by rw [Nat.add_assoc i 1, Nat.add_comm 1])⟩)
    show (Str.join (mk new) (StrLaws.partsFrom (mk L) sub.length a (occ1 sub k (i + 1) l))).cps.toList = (L.drop a).take (i - a) ++ repR sub new k l
    rw [ih, Nat.sub_eq_zero_of_le (m := a) (n := i + 1) (by rw [ha']; exact Nat.add_le_add_left (Nat.le_add_left 1 k) i), Nat.sub_eq_zero_of_le (m := a) (n := i) (by rw [ha']; exact Nat.le_add_right i _)]
theorem replL_eq {x y z : List Nat} (hy : y ≠ []) : replL x y z = repR y z 0 x := by
  have hyl : ((mk y).length == 0) = false := by rw [mk_len]; cases y with | nil => exact absurd rfl hy | cons _ _ => rfl
  have key := parts_rep (L := x) (new := z) hy x 0 0 0 rfl (Nat.zero_add _) (.inl ⟨rfl, Nat.le_refl 0⟩)
  unfold replL Txt.replace
  rw [occ_is hy, hyl]
  simp only [Bool.false_and, Bool.or_false]
  cases h : (occ1 y 0 0 x).isEmpty
  · simp only [Bool.false_eq_true, if_false]
    rw [StrLaws.glued_eq_join, StrLaws.partsBetween_eq, mk_len, key]; simp
  · simp only [if_true]
    have e : occ1 y 0 0 x = [] := by simpa using h
    rw [e] at key
    have : (Str.join (mk z) (StrLaws.partsFrom (mk x) y.length 0 [])).cps.toList = (strSub (mk x) 0 (mk x).length).cps.toList := rfl
    rw [this, sub_list, mk_len] at key
    simpa using key
theorem occ_count (c : Nat) : ∀ (l : List Nat) (i : Nat), (occ1 [c] 0 i l).length = l.count c
  | [], i => rfl
  | d :: l, i => by
    unfold occ1
    by_cases hm : d = c
    · subst hm
      rw [if_pos (by simp)]
      have := occ_count d l (i + 1)
      simp [this]
    · rw [if_neg (by simp; exact hm), occ_count c l (i + 1)]
      simp [List.count_cons, hm]
theorem countL_eq (x : List Nat) (c : Nat) : countL x [c] = (x.count c : Nat) := by
  unfold countL Txt.count
  rw [occ_is (by simp), occ_count]
noncomputable def jn (sep : List Nat) : List (List Nat) → List Nat
  | [] => []
  | [x] => x
  | x :: y :: r => x ++ sep ++ jn sep (y :: r)
theorem joinL_eq (sep : List Nat) (ls : List (List Nat)) : joinL sep ls = jn sep ls := by
  unfold joinL Txt.join
  rw [StrLaws.glued_eq_join]
  induction ls with
  | nil => rfl
  | cons x r ih =>
    cases r with
    | nil => rfl
    | cons y r =>
      rw [List.map_cons, join_cons _ _ _ (by simp), ih]; rfl
theorem jn_nil (ls : List (List Nat)) : jn [] ls = ls.flatten := by
  induction ls with
  | nil => rfl
  | cons x r ih =>
    cases r with
    | nil => simp [jn]
    | cons y r => rw [jn, ih]; simp
end Mine
namespace Mine
open PySem PySem.W PySem.Calls PySem.Spec PyProof.Rows
section
variable {X : Cx} {n : Nat} {σ : S} {E : Value → S → Prop} {Q : V → S → Prop}
theorem o_addl {a b : V} {as bs : List V} (ha : Lst σ a as) (hb : Lst σ b bs) (hl : as.length + bs.length ≤ 100000) (q : Q (.lst (as ++ bs)) σ) : Op2 X (binaryOp .Add) a b σ Q E := fun v w s st va wb => by
  obtain ⟨l, ⟨_, dd, _, sl⟩, vs, k, rfl, g, rfl, rfl, vm⟩ := ha.get st va
  obtain ⟨l2, ⟨_, dd2, _, sl2⟩, ws, k2, rfl, g2, rfl, rfl, wm⟩ := hb.get st wb
  have e : vs.toArray ++ ws.toArray = (vs ++ ws).toArray := by simp
  refine concat_meets ⟨_, g, rfl⟩ ⟨_, g2, rfl⟩ noFill_list_add seq_list_add PySem.F.slot_list_add PySem.F.entry_list_add (PySem.F.args_list_add_2 _ _) (list_addW l l2 vs.toArray ws.toArray k k2 dd dd2 sl sl2 (by rw [List.size_toArray, List.size_toArray, vm.length, wm.length, sizeLine_eq]; omega)) ⟨g, g2, ?_⟩
  rw [e]
  have P := st_push st { cls := .type "list", data := .seq (vs ++ ws).toArray }
  exact ⟨_, σ, P, .lst (Heap.get?_push_size _ rfl) rfl rfl (new_off st) ((vm.mono P.ext).append (wm.mono P.ext)), q⟩
theorem c_notin {a : V} {bs : List V} {b : Bool} (ok : Ok X n) (ha : V.plain a = true) (hb : V.plains bs = true) (la : a.dat.canLay0 = true) (lb : PyData.canLayAll0 (V.dats bs) = true) (hd : min (PyData.depthAll (V.dats bs)) a.dat.depth ≤ 100) (e : ((V.dats bs).any fun y => PyData.eqv y a.dat) = b) (q : Q (.bool (!b)) σ) : Op2 X (compareOp .NotIn) a (.lst bs) σ Q E := fun v w s st va wb => by
  obtain ⟨as, ra⟩ := VM.reads a v ha va
  obtain ⟨cs, rc⟩ := VM.reads (.lst bs) w (by simpa [V.plain] using hb) wb
  subst e
  exact PySem.SeqAt.notIn_list_reads rc ra lb la (by have := ok.units; omega) (qw_self st (.bool _) q)
end
inductive Tag {α : Type} (a : α) : Prop
  | mk
theorem atoms : ("a" : Str) = ⟨#[97]⟩ := by kernel_rfl
noncomputable def keep {α : Type} (a : α) (_ : Tag a) (s : Str) (_ : s = ⟨#[97]⟩) : α := a
end Mine
namespace Mine
open PySem PySem.W PySem.Calls PySem.Spec PyProof.Rows
noncomputable def cells0 (L k : Nat) : Addr → Option HO := fun a => if L < a ∧ a ≤ L + k then some (.cell none) else none
theorem cells0_at {L k : Nat} {a : Addr} (h1 : L < a) (h2 : a ≤ L + k) : cells0 L k a = some (.cell none) := if_pos ⟨h1, h2⟩
theorem launchC {prog : Program} {w : World} {K : Frag} {p : Program} {loose : List Str} {mg mb : Str → Option Value} {s₁ : Shared} {h₁ : Heap} {name : Str} {fd : FuncData} {fa : Addr} {cd : Value} {al : Addr} {vs : List Value} {ns : List Int} {m : Str → Option Value} {tk : Nat} {body : List Stmt} {news : List (Addr × Obj)} {k : Nat}
    (hK : K.In s₁.heap) (T : TopRead p loose mg mb s₁.heap) (hL : s₁.heap.IsList al vs.toArray) (hI : IntsAre vs ns) (F : Fr s₁.heap s₁.heap.objs.size h₁ m) (hm : m "script" = some (.ref al)) (hk : fd.scope.kind = .function)
    (N : News s₁.heap s₁.heap.objs.size h₁ news) (hc : ∀ c, s₁.heap.objs.size < c → c ≤ s₁.heap.objs.size + k → ∃ o, (c, o) ∈ news ∧ o.data = .cell none)
    (h : ∀ X : Cx, Ok X 40 → X.K = K → X.prog = prog → X.w = w → X.ctx = none → In X X fd → X.env.cells = cellsFrom (s₁.heap.objs.size + 1) fd.scope.names [] → WXs X body ⟨[("script", .lst (ns.map .int))], cells0 s₁.heap.objs.size k⟩ (fun fl _ => fl = .ret (.bool true)) F0) :
    wpAny (model prog w) (callerA.deeper (envOfC name fd.scope s₁.heap.objs.size fa cd)) (execs body (envOfC name fd.scope s₁.heap.objs.size fa cd))
      (fun f s' => f = .ret (.bool true) ∧ ∃ h' tk', s' = { s₁ with heap := h', toks := tk' } ∧ s₁.heap.StaysIn h') (fun _ _ => False) { s₁ with heap := h₁, toks := tk } := by
  let env := envOfC name fd.scope s₁.heap.objs.size fa cd
  let X : Cx := { prog := prog, w := w, K := K, p := p, loose := loose, mg := mg, mb := mb, base := s₁.heap, A := callerA.deeper env, env := env, fenv := env, L := s₁.heap.objs.size, outer := [], prot := [] }
  have hn : s₁.heap.get? s₁.heap.objs.size = none := by
    cases hq : s₁.heap.get? s₁.heap.objs.size with
    | none => rfl
    | some o => exact absurd (Heap.lt_size hq) (Nat.lt_irrefl _)
  have ok : Ok X 40 := ⟨hK, T, rfl, rfl, rfl, hk, rfl, rfl, Nat.le_refl _, by simp [X], rfl, (by intro p e; cases e), (by show 1 + claimMargin + 1 + 2 * 40 + 8 < recursionLimit; decide), (by show 4 + 3 + 20 * 40 + 300 < cLine; decide)⟩
  have off : ∀ a, a ≤ s₁.heap.objs.size → ¬ S.mu ⟨[("script", .lst (ns.map .int))], cells0 s₁.heap.objs.size k⟩ a := fun a h z => z (by
    show cells0 _ _ a = none
    unfold cells0
    rw [if_neg (by omega)])
  have hl : VM (S.mu ⟨[("script", .lst (ns.map .int))], cells0 s₁.heap.objs.size k⟩) h₁ (.ref al) (.lst (ns.map .int)) := by
    obtain ⟨o, ho, hc, n, hd⟩ := hL
    exact .lst (F.keep _ _ ho) hc hd (off _ (Nat.le_of_lt (Heap.lt_size ho))) (vms_ints hI)
  have st : St X ⟨[("script", .lst (ns.map .int))], cells0 s₁.heap.objs.size k⟩ h₁ := by
    refine ⟨F.keep, ⟨m, F.ns, fun x d e => ?_⟩, fun a o e => ?_, off _ (Nat.le_refl _), (by intro a ha; cases ha), ?_⟩
    · by_cases q : x = "script"
      · subst q
        rw [show lk [(("script" : Str), V.lst (ns.map .int))] "script" = some (V.lst (ns.map .int)) from by simp [lk, List.lookup]] at e
        cases e
        exact ⟨_, hm, hl⟩
      · rw [lk_cut q rfl] at e
        cases e
    · have e' : cells0 s₁.heap.objs.size k a = some o := e
      unfold cells0 at e'
      split at e'
      · rename_i hr
        cases e'
        obtain ⟨ob, hm, hd⟩ := hc a hr.1 hr.2
        obtain ⟨g, _, nb⟩ := N _ hm
        exact ⟨⟨ob, none, g, hd, rfl⟩, nb⟩
      · cases e'
    · intro e he
      simp only [X, List.mem_singleton] at he
      subst he
      obtain ⟨o, es, ep, ho, hd, _⟩ := F.ns
      exact ⟨by show fd.scope.kind ≠ .module; rw [hk]; decide, _, o, es, ep, rfl, hn, off _ (Nat.le_refl _), ho, hd⟩
  have run := h X ok rfl rfl rfl rfl ⟨rfl, rfl, rfl, rfl, rfl, rfl⟩ rfl { s₁ with heap := h₁, toks := tk } st
  refine wpAny_mono run (fun f s' q => ?_) (fun e s' q => q.elim0)
  obtain ⟨fl, σ', P, r, q⟩ := q
  subst q
  obtain ⟨h', tk', e⟩ := P.upd
  have hf : f = .ret (.bool true) := by
    cases f with
    | ret v =>
      have r' : VM σ'.mu s'.heap v (.bool true) := r
      cases r'; rfl
    | next => exact r.elim
    | brk => exact r.elim
    | cont => exact r.elim
  exact ⟨hf, h', tk', e, fun b o z => by have := P.st.base b o z; rw [e] at this; exact this⟩
end Mine
namespace Mine
open PySem PySem.W PySem.Calls PySem.Spec PyProof.Rows
section
variable {X : Cx} {n : Nat} {σ : S} {E : Value → S → Prop}
end
end Mine
namespace Mine
open PySem PySem.W PySem.Calls PySem.Spec PyProof.Rows
section
variable {X : Cx} {n : Nat} {σ : S} {E : Value → S → Prop}
theorem WX_Raise {e : Expr} {pos : Pos} {Q : FV → S → Prop} (ok : Ok X n) (hctx : ∀ p, X.ctx = some p → p.2 = true)
    (h : WE X e σ (RaiseQ X E) E) :
    WX X (.Raise (some e) none pos) σ Q E := fun s st => by
  rw [arm_exec_Raise]
  refine wpAny_bind (wpAny_standAt ?_)
  unfold raiseStmt
  show wpAny _ _ ((do let v ← eval e X.env; standAt pos; pure v) >>= _) _ _ _
  refine wpAny_bind (wpAny_bind (h.run (Post.refl st) fun v s₁ d σ₁ _ P₁ vm h₁ => wpAny_bind (wpAny_standAt (wpAny_pure ?_))))
  obtain ⟨a, C, od, hp, rfl, h1, kx, hs, ha, q⟩ := h₁
  obtain rfl := vm.refI
  obtain ⟨⟨vs, a0, g, v0, v1, v6⟩, _⟩ := P₁.st.own a _ h1
  have inK := P₁.st.inK ok
  obtain ⟨hh, gn, dr, tk, os⟩ := s₁
  dsimp only at inK g
  have L1 : Looks (model X.prog X.w) hh (typeOf (.ref a)) (.ref C) := (Looks.ld g).andThen .now
  have L2 := looks_subIn (M := model X.prog X.w) inK kx.base
  have L3 := looks_typeIn (M := model X.prog X.w) inK kx.type
  have L4 : Looks (model X.prog X.w) hh (isType (.ref a)) false := (Looks.ld g).andThen .now
  have L6 : Looks (model X.prog X.w) hh (isExcClass (.ref a)) false := L4.andThen .now
  have L7 : Looks (model X.prog X.w) hh (isInstance (.ref a) (.type "BaseException")) true := L1.andThen L2
  have L5 : Looks (model X.prog X.w) hh (excFromValue (.ref a) "exceptions must derive from BaseException") (.ref a) := L6.andThen (L7.andThen .now)
  have L8 : Looks (model X.prog X.w) hh (raisedInstance (.ref a)) (.ref a) := L1.andThen (L3.andThen .now)
  refine wpAny_bind (wpAny_pure ?_)
  refine wpAny_bind (wpAny_holding (L5.here ?_))
  dsimp only
  have P := P₁
  refine wpAny_bind (L4.here ?_)
  rw [if_neg (by decide)]
  refine wpAny_bind (L8.here ?_)
  unfold setFlight
  refine wpAny_bind (wpAny_bind (wpAny_field g rfl v1 ?_))
  rw [if_neg (by simp)]
  refine wpAny_pure ?_
  exact wpAny_mono (raise_new ok P h1 g v0 v1 v6 hs ha hctx q) (fun _ _ q => by obtain ⟨_, _, _, _, z⟩ := q; exact z.elim) fun _ _ e => e
theorem binds_placeD {fd : FuncData} {names : List Str} {ds : List V} {mu : Addr → Prop} {s : Shared} {vs ws : List Value} (hb : BindsTo s fd ⟨ws, []⟩ (names.zip vs)) (hl : (names.all fun x => fd.scope.names.lookup x == some .local) = true) (hn : names.Nodup) (hlen : ds.length = names.length)
    (vm : VMs mu s.heap vs ds) : ∃ binds, BindsTo s fd ⟨ws, []⟩ binds ∧ (∀ y ∈ binds, fd.scope.names.lookup y.1 = some .local) ∧ (∀ x d, lk (names.zip ds) x = some d → ∃ v, binds.reverse.lookup x = some v ∧ VM mu s.heap v d) := by
  refine ⟨names.zip vs, hb, fun y hy => ?_, fun x d e => ?_⟩
  · have := List.all_eq_true.mp hl y.1 (List.of_mem_zip hy).1
    simpa using this
  · have rev : ∀ (l : List (Str × Value)), (l.map (·.1)).Nodup → ∀ x v, (x, v) ∈ l → l.reverse.lookup x = some v := by
      intro l hnd x v hm
      have hnd' : ((l.reverse).map (·.1)).Nodup := by rw [List.map_reverse]; exact (List.reverse_perm _).nodup_iff.mpr hnd
      have hm' : (x, v) ∈ l.reverse := List.mem_reverse.mpr hm
      generalize l.reverse = r at hnd' hm'
      induction r with
      | nil => cases hm'
      | cons p r ih =>
        rw [List.map_cons, List.nodup_cons] at hnd'
        rcases List.mem_cons.mp hm' with rfl | hm'
        · simp [List.lookup]
        · have : x ≠ p.1 := fun q => hnd'.1 (q ▸ List.mem_map.mpr ⟨(x, v), hm', rfl⟩)
          rw [List.lookup_cons, show (x == p.1) = false from by simpa using this]
          exact ih hnd'.2 hm'
    have key : ∀ (ns : List Str) (vs : List Value) (ds : List V), VMs mu s.heap vs ds → ns.length = ds.length → lk (ns.zip ds) x = some d → ∃ v, (x, v) ∈ ns.zip vs ∧ VM mu s.heap v d := by
      intro ns
      induction ns with
      | nil => intro vs ds _ _ e; simp [lk] at e
      | cons y ns ih =>
        intro vs ds vm hl e
        cases vm with
        | nil => simp at hl
        | @cons v vs d' ds a r =>
          by_cases q : x = y
          · subst q
            simp [lk, List.lookup] at e
            subst e
            exact ⟨v, by simp, a⟩
          · have e' : lk (ns.zip ds) x = some d := by
              simp only [lk, List.zip_cons_cons, List.lookup_cons, show (x == y) = false from by simpa using q] at e
              exact e
            obtain ⟨w, hm, wm⟩ := ih vs ds r (by simpa using hl) e'
            exact ⟨w, by simp [hm], wm⟩
    obtain ⟨v, hm, wm⟩ := key names vs ds vm hlen.symm e
    refine ⟨v, rev _ ?_ x v hm, wm⟩
    rw [List.map_fst_zip (by rw [vm.length, hlen]; exact Nat.le_refl _)]
    exact hn
theorem Call.fnD {K' : Frag} {f : Addr} {ds : List V} {names : List Str} {x : Str} {v0 : Value} {d0 : V} {loc0 : List (Str × V)} {Q : V → S → Prop} (ok : Ok X (n + 1)) (hK : X.K = K') (hf : fnOk K' f = true)
    (hb : ∀ vs : List Value, vs.length = names.length → ∀ S, peek K' S (bindArgs (fdAt K' f) ⟨vs, []⟩) = some ((names ++ [x]).zip (vs ++ [v0]))) (hl : ((names ++ [x]).all fun x => (fdAt K' f).scope.names.lookup x == some .local) = true) (hn : (names ++ [x]).Nodup) (hlen : ds.length = names.length) (hv : ∀ mu h, VM mu h v0 d0) (h0 : loc0 = (names ++ [x]).zip (ds ++ [d0]))
    (h : ∀ Y, Ok Y n → In X Y (fdAt K' f) → WXs Y (bodyAt K' f) ⟨loc0, σ.hp⟩ (fun fl σ' => Q (retV fl) ⟨σ.loc, σ'.hp⟩) (fun c σ' => E c ⟨σ.loc, σ'.hp⟩)) : Call X (.ref f) ds σ Q E := by
  subst h0
  subst hK
  have app : ∀ {mu : Addr → Prop} {h : Heap} (ds : List V) (vs : List Value), VMs mu h vs ds → VMs mu h (vs ++ [v0]) (ds ++ [d0]) := fun {mu h} ds => by
    induction ds with
    | nil => intro vs vm; cases vm; exact .cons (hv _ _) .nil
    | cons d ds ih => intro vs vm; cases vm with | cons a r => exact .cons a (ih _ r)
  exact Call.fn ok (FnIs.of hf) (fun vs s st vm => binds_placeD (vs := vs ++ [v0]) (kp_binds (st.inK ok) (hb vs (vm.length.trans hlen))) hl hn (by simp [hlen]) (app _ _ vm)) fun L okL => h _ okL ⟨rfl, rfl, rfl, rfl, rfl, rfl⟩
end
end Mine
namespace Mine
open PySem PySem.W PySem.Calls PySem.Spec PyProof.Rows
section
variable {X : Cx} {n : Nat} {σ : S} {E : Value → S → Prop}
set_option maxHeartbeats 8000000 in
theorem meets_name (t u : Tok) : ∃ T : Str → Str, (∀ y, T y = Str.ofString "missing " ++ y ++ Str.ofString ", unterminated name") ∧ ∀ z : Str, z.length ≤ 1000000 → Meets (Builtin.«str.__mod__» ⟨[.str "missing %s, unterminated name" t, .str z u], []⟩) (fun _ R s => ∀ t' k, R (.ok (.ret (.str (T z) t'))) { s with toks := k }) := by
  refine ⟨fun y => Str.ofString "missing " ++ y ++ Str.ofString ", unterminated name", fun _ => rfl, ?_⟩
  intro z hz
  apply KPc.meets_of
  intro _ _ _ _ _ _ _
  rw [KPc.entry_is_s]
  unfold Builtin.Str.percentFormat
  refine wpAny_bind (wpAny_isInstance (typeIs_str _ _ _) F.sub_str_tuple ?_)
  refine wpAny_bind (wpAny_of_eq (a := some _) rfl ?_)
  refine wpAny_bind (KPc.wp_fills_str ?_)
  intro _
  kpc_if
  refine wpAny_bind (wpAny_pure ?_)
  refine wpAny_bind ?_
  rw [KPc.range_list]
  refine KPc.start ?_
  intro _ _
  refine KPc.turn ?_; kpc_check; (repeat kpc_if); refine wpAny_pure ?_; refine KPc.after_add0 (y := Str.ofString "missing ") (by kpc_g) (by kernel_rfl) (by kpc_obj) ?_; intro _ _
  refine KPc.turn ?_; kpc_check; (repeat kpc_if); refine wpAny_bind ?_; refine wpAny_holding ?_; (repeat kpc_if); kpc_conv; refine wpAny_pure ?_; refine wpAny_pure ?_; refine KPc.after_str (by kpc_g) hz (by kpc_obj) ?_; intro _ _
  refine KPc.turn ?_; kpc_check; (repeat kpc_if); refine wpAny_pure ?_; refine KPc.after_add (y := Str.ofString ", unterminated name") (by kpc_g) (by kernel_rfl) (by kpc_obj) ?_; intro _ _
  refine KPc.turn ?_; kpc_check; (repeat kpc_if); kpc_close
theorem pct_name {x : List Nat} {f : Str} {Q : V → S → Prop} (hf : f = "missing %s, unterminated name") (hx : x.length ≤ 10000) (q : ∀ y, y.length ≤ 27 + x.length → Q (.str y) σ) : Op2 X (binaryOp .Mod) (.str f.cps.toList) (.str x) σ Q E := by
  subst hf
  intro a b s st va vb
  obtain ⟨t, rfl⟩ := va.strI
  obtain ⟨u, rfl⟩ := vb.strI
  have hlen : (⟨x.toArray⟩ : Str).length ≤ 10000 := by simpa [Str.length] using hx
  have ef : (⟨(Str.ofString "missing %s, unterminated name").cps.toList.toArray⟩ : Str) = Str.ofString "missing %s, unterminated name" := congrArg PySem.Str.mk (Array.toArray_toList ..)
  obtain ⟨T, hT, hm⟩ := meets_name t u
  refine KPc.mod_str (T := T) ef (by omega) hm (fun t' k => ?_)
  rw [hT]
  refine qw_same st _ (.str _ _) (q _ ?_)
  have l3 : (⟨x.toArray⟩ : Str).length = x.length := by simp [Str.length]
  have l1 : (Str.ofString "missing ").length = 8 := by decide +kernel
  have l2 : (Str.ofString ", unterminated name").length = 19 := by decide +kernel
  have e : (Str.ofString "missing " ++ (⟨x.toArray⟩ : Str) ++ Str.ofString ", unterminated name").cps.toList.length = (Str.ofString "missing " ++ (⟨x.toArray⟩ : Str) ++ Str.ofString ", unterminated name").length := by rw [Array.length_toList]; rfl
  rw [e, PySem.Str.length_append, PySem.Str.length_append]
  omega
end
end Mine
namespace Mine
open PySem PySem.W PySem.Calls PySem.Spec PyProof.Rows PySem.Builtin.Str
noncomputable def fnd (c : Nat) : List Nat → Option Nat
  | [] => none
  | a :: l => if a = c then some 0 else (fnd c l).map (· + 1)
theorem fnd_some {c : Nat} : ∀ {l : List Nat} {i : Nat}, l[i]? = some c → (∀ k, k < i → l[k]? ≠ some c) → fnd c l = some i
  | [], i, h, _ => by simp at h
  | a :: l, i, h, hn => by
    unfold fnd
    cases i with
    | zero => simp at h; rw [if_pos h]
    | succ i =>
      have h0 := hn 0 (by omega)
      simp at h0 h
      rw [if_neg h0, fnd_some h fun k hk => by have := hn (k + 1) (by omega); simpa using this]; rfl
theorem fnd_none {c : Nat} : ∀ {l : List Nat}, (∀ k : Nat, l[k]? ≠ some c) → fnd c l = none
  | [], _ => rfl
  | a :: l, hn => by
    unfold fnd
    have h0 := hn 0
    simp at h0
    rw [if_neg h0, fnd_none fun k => by have := hn (k + 1); simpa using this]; rfl
theorem at_one (x : List Nat) (c i : Nat) : StrLaws.At (mk x) (mk [c]) (mk x).length i ↔ x[i]? = some c := by
  unfold StrLaws.At
  rw [StrLaws.subAt_eq, mk_len, mk_len]
  show i + 1 ≤ x.length ∧ ((x.drop i).take 1 == [c]) = true ↔ _
  constructor
  · rintro ⟨h1, h2⟩
    have h3 : (x.drop i).take 1 = [c] := by simpa using h2
    rw [List.drop_eq_getElem_cons (by omega), List.take_succ_cons] at h3
    rw [List.getElem?_eq_getElem (by omega), (List.cons.inj h3).1]
  · intro h
    obtain ⟨h1, h2⟩ := List.getElem?_eq_some_iff.mp h
    refine ⟨by omega, ?_⟩
    rw [List.drop_eq_getElem_cons h1, h2]; simp
section
variable {X : Cx} {n : Nat} {σ : S} {E : Value → S → Prop} {x y : List Nat}
theorem c_find {c : Nat} {Q : V → S → Prop} (q : Q (.int (match fnd c x with | some k => (k : Int) | none => -1)) σ) : Call X (.builtin "str.find") [.str x, .str [c]] σ Q E := fun vs s st vm => by
  obtain ⟨_, _, rfl, a, b⟩ := vm.two
  obtain ⟨t, rfl⟩ := a.strI
  obtain ⟨u, rfl⟩ := b.strI
  refine call_gives F.slot_str_find (typeIs_str _ _ _) F.entry_str_find (F.args_str_find_2 _ _) (gives_str_find (mk x) (mk [c]) t u) (qw_same st _ ?_ q)
  rcases StrLaws.occ_head (mk x) (mk [c]) 1 (Nat.le_refl 1) with ⟨e, hn⟩ | ⟨i, r, e, ha, hn⟩
  · rw [e, fnd_none fun k h => hn k ((at_one x c k).mpr h)]; exact .int _ _
  · rw [e, fnd_some ((at_one x c i).mp ha) fun k hk h => hn k hk ((at_one x c k).mpr h)]; exact .int _ _
theorem pct_posA {x : List Nat} {f : Str} {i : Int} {Q : V → S → Prop} (hf : f = "%s at position %d") (hx : x.length ≤ 10000) (h0 : 0 ≤ i) (h1 : i < 10 ^ 10) (q : ∀ y, Q (.str y) σ) : Op2 X (binaryOp .Mod) (.str f.cps.toList) (.tup [.str x, .int i]) σ Q E := by
  subst hf
  intro a b s st va vb
  obtain ⟨t, rfl⟩ := va.strI
  obtain ⟨b, o, vs, n, rfl, g, c, d, _, vm⟩ := vb.tupI
  obtain ⟨v, w, rfl, v1, v2⟩ := vm.two
  obtain ⟨u, rfl⟩ := v1.strI
  obtain ⟨tk, rfl⟩ := v2.intI
  have hlen : (⟨x.toArray⟩ : Str).length ≤ 1000000 := by
    show x.length ≤ _
    exact Nat.le_trans hx (by decide)
  have ef : (⟨(Str.ofString "%s at position %d").cps.toList.toArray⟩ : Str) = Str.ofString "%s at position %d" := congrArg PySem.Str.mk (Array.toArray_toList ..)
  rw [ef]
  exact KPt.bin_left (T := "str") (U := "tuple") (op := .Mod) (by decide) (typeIs_str _ _ _) ⟨o, g, c⟩ F.fills_str_mod KPt.fills_tuple F.slot_str_mod
    (call_meets F.slot_str_mod (typeIs_str _ _ _) F.entry_str_mod (F.args_str_mod_2 _ _) (meets_pos ⟨x.toArray⟩ hlen i h0 h1 t u tk b) ⟨⟨o, g, c, n, d⟩, fun t' k => ⟨(fun e => nomatch e), qw_same st _ (.str _ _) (q _)⟩⟩)
theorem o_inno {c : Nat} (h : c ∉ x) {Q : V → S → Prop} (q : Q (.bool false) σ) : Op2 X (compareOp .In) (.str [c]) (.str x) σ Q E := fun _ _ _ st va wb => by
  obtain ⟨t, rfl⟩ := va.strI
  obtain ⟨u, rfl⟩ := wb.strI
  refine PyProof.Rows.in_str ?_
  rcases StrLaws.occ_head (mk x) (mk [c]) 1 (Nat.le_refl 1) with ⟨e, -⟩ | ⟨i, r, e, ha, -⟩
  · rw [e]; exact qw_self st (.bool _) q
  · exact absurd (List.mem_of_getElem? ((at_one x c i).mp ha)) h
theorem c_lstrip {Q : V → S → Prop} (hl : x.length ≤ 10000) (q : Q (.str (x.dropWhile fun c => y.contains c)) σ) : Call X (.builtin "str.lstrip") [.str x, .str y] σ Q E := fun vs s st vm => by
  obtain ⟨_, _, rfl, a, b⟩ := vm.two
  obtain ⟨t, rfl⟩ := a.strI
  obtain ⟨u, rfl⟩ := b.strI
  have hg : (fun c => (mk y).cps.contains c) = fun c => y.contains c := by
    funext c
    show y.toArray.contains c = _
    simp
  have hdw : ∀ (p : Nat → Bool) (l : List Nat), l.drop (l.takeWhile p).length = l.dropWhile p := fun p l => by
    induction l with
    | nil => rfl
    | cons a l ih =>
      by_cases h : p a = true
      · simp [List.takeWhile_cons, List.dropWhile_cons, h, ih]
      · simp [List.takeWhile_cons, List.dropWhile_cons, h]
  refine call_gives F.slot_str_lstrip (typeIs_str _ _ _) F.entry_str_lstrip (F.args_str_lstrip_2 _ _) (gives_str_lstrip_chars (mk x) (mk y) t u) (post_val_or_made (fun _ => fits_stripped _ _ _ (by rw [mk_len, sizeLine_eq]; omega)) fun t' k => qw_same st _ (.strE ?_) q)
  have e1 : stripLo (mk y).cps.contains true (mk x) = (x.takeWhile fun c => y.contains c).length := congrArg (fun p => (x.takeWhile p).length) hg
  have e2 : stripHi (mk y).cps.contains false (mk x) (stripLo (mk y).cps.contains true (mk x)) = x.length := mk_len x
  by_cases h : stripSame (mk y).cps.contains true false (mk x) = true
  · rw [if_pos h]
    show x = _
    unfold stripSame at h
    rw [e1] at h
    rw [← hdw]
    simp only [Bool.and_eq_true, beq_iff_eq] at h
    rw [h.1]; rfl
  · rw [if_neg h]
    unfold PySem.stripped
    rw [e1, StrLaws.strSub_toList, ← e1, e2, e1]
    show (x.drop _).take _ = _
    rw [List.take_of_length_le (by rw [List.length_drop]; exact Nat.le_refl _), hdw]
theorem c_min2 {a b : Int} {Q : V → S → Prop} (ok : Ok X n) (hc : X.ctx = none) (q : Q (.int (min a b)) σ) : Call X (.builtin "min") [.int a, .int b] σ Q E := fun vs s st vm => by
  obtain ⟨_, _, rfl, va, vb⟩ := vm.two
  obtain ⟨_, rfl⟩ := va.intI
  obtain ⟨_, rfl⟩ := vb.intI
  have hA : X.A.handled = none := by rw [ok.handled, hc]; rfl
  refine min_two_ints hA fun h' tk hk => ?_
  have P : Post X σ s σ { s with heap := h', toks := tk } := Post.keeps st h' tk rfl hk
  by_cases h : b < a
  · rw [if_pos h]
    exact ⟨_, σ, P, .int _ _, by rw [show b = min a b from by omega]; exact q⟩
  · rw [if_neg h]
    exact ⟨_, σ, P, .int _ _, by rw [show a = min a b from by omega]; exact q⟩
end
end Mine
namespace Mine
open PySem PySem.W PySem.Calls PySem.Spec PyProof.Rows
section
variable {X : Cx} {n : Nat} {σ : S} {E : Value → S → Prop}
structure ZS (z TI TO i1 i2 l1 l2 : Addr) (xs ys : Array Value) (k : Nat) (f0 : Value) (h : Heap) : Prop where
  hz : IsZip h z TI TO f0
  hTI : IsPair h TI (.ref i1) (.ref i2)
  hTO : ∃ a b, IsPair h TO a b
  h1 : h.IsListIter i1 l1 k
  h2 : h.IsListIter i2 l2 k
  hl1 : h.IsList l1 xs
  hl2 : h.IsList l2 ys
inductive ZMid (z TI TO i1 i2 l1 l2 : Addr) (xs ys : Array Value) (MM : Nat → Addr → Heap → Prop) (i : Nat) (v : Value) (h : Heap) : Prop
  | mk (T : Addr) (vals : Array Value) (e : v = .ref T) (ht : h.IsTuple T vals) (m : MM i T h) (zs : ZS z TI TO i1 i2 l1 l2 xs ys (i + 1) (rawInt T) h) (p : ∃ x y, xs[i]? = some x ∧ ys[i]? = some y ∧ vals = #[x, y]) (hw : T ∉ [z, TO, i1, i2])
theorem ZS.rec3 {z TI TO i1 i2 l1 l2 : Addr} {xs ys : Array Value} {k : Nat} {f0 : Value} {h : Heap} (s : ZS z TI TO i1 i2 l1 l2 xs ys k f0 h) : ∀ b ∈ [z, i1, i2], ∃ o vs, h.get? b = some o ∧ o.data = .fields vs := fun b hb => by
  obtain ⟨o4, g4, _, d4⟩ := s.h1
  obtain ⟨o5, g5, _, d5⟩ := s.h2
  cases hb with
  | head => exact ⟨_, _, s.hz, rfl⟩
  | tail _ hb => cases hb with
    | head => exact ⟨o4, _, g4, d4⟩
    | tail _ hb => cases hb with
      | head => exact ⟨o5, _, g5, d5⟩
      | tail _ hb => cases hb
theorem four {z TO i1 i2 b : Addr} (h1 : b ∉ [z, i1, i2]) (h2 : b ∉ [TO]) : b ∉ [z, TO, i1, i2] := fun h => by
  cases h with
  | head => exact h1 (.head _)
  | tail _ h => cases h with
    | head => exact h2 (.head _)
    | tail _ h => exact h1 (.tail _ h)
theorem zip_ItG {h' : Heap} {z TI TO i1 i2 l1 l2 : Addr} {vs1 vs2 : List Value} {as bs : List V} {es : List Expr} {kt : Nat} {tp : Pos} (D : ZipApart z TI TO i1 i2 l1 l2) (hlen : as.length ≤ bs.length) (vms1 : VMs σ.mu h' vs1 as) (vms2 : VMs σ.mu h' vs2 bs)
    (hz : IsZip h' z TI TO .none) (hTI : IsPair h' TI (.ref i1) (.ref i2)) (hTO : IsPair h' TO .none .none) (hit1 : h'.IsListIter i1 l1 0) (hit2 : h'.IsListIter i2 l2 0) (hl1 : h'.IsList l1 vs1.toArray) (hl2 : h'.IsList l2 vs2.toArray)
    (hwr : ∀ b ∈ [z, i1, i2], X.base.get? b = none ∧ ¬ σ.mu b ∧ b ∉ X.prot) (nTI : ¬ σ.mu TI) (n1 : ¬ σ.mu l1) (n2 : ¬ σ.mu l2) : ItG X σ h' z (.Tuple es kt tp) as.length (PT (fun i => as.getD i .none) (fun i => bs.getD i .none)) [TO] := by
  have hW : ∀ A' : Around, A'.handled = none → _ := fun A' hA => (WalksT.zip2 (prog := X.prog) (w := X.w) hA z TI TO i1 i2 l1 l2 D vs1.toArray vs2.toArray).toU
  rw [show min vs1.toArray.size vs2.toArray.size = as.length from by rw [List.size_toArray, List.size_toArray, vms1.length, vms2.length]; exact Nat.min_eq_left hlen] at hW
  generalize hMM : (fun (i : Nat) (T : Addr) (h : Heap) => IsZip h z TI TO (rawInt T) ∧ IsPair h TI (.ref i1) (.ref i2) ∧ (∃ a b, IsPair h TO a b) ∧ h.IsListIter i1 l1 (i + 1) ∧ h.IsListIter i2 l2 (i + 1) ∧ h.IsList l1 vs1.toArray ∧ h.IsList l2 vs2.toArray ∧ T ≠ z ∧ T ≠ TO ∧ T ≠ i1 ∧ T ≠ i2) = MM at hW
  have mz : ∀ i T h, MM i T h → ZS z TI TO i1 i2 l1 l2 vs1.toArray vs2.toArray (i + 1) (rawInt T) h := fun i T h m => by
    rw [← hMM] at m
    obtain ⟨a, b, c, d, e, f, g, _⟩ := m
    exact ⟨a, b, c, d, e, f, g⟩
  clear hMM
  generalize hSS : (fun (i : Nat) (h : Heap) => IsZip h z TI TO .none ∧ IsPair h TI (.ref i1) (.ref i2) ∧ (∃ a b, IsPair h TO a b) ∧ h.IsListIter i1 l1 i ∧ h.IsListIter i2 l2 i ∧ h.IsList l1 vs1.toArray ∧ h.IsList l2 vs2.toArray) = SS at hW
  have sz : ∀ i h, SS i h → ZS z TI TO i1 i2 l1 l2 vs1.toArray vs2.toArray i .none h := fun i h m => by
    rw [← hSS] at m
    obtain ⟨a, b, c, d, e, f, g⟩ := m
    exact ⟨a, b, c, d, e, f, g⟩
  have zs : ∀ i h, ZS z TI TO i1 i2 l1 l2 vs1.toArray vs2.toArray i .none h → SS i h := fun i h ⟨a, b, c, d, e, f, g⟩ => by
    rw [← hSS]
    exact ⟨a, b, c, d, e, f, g⟩
  clear hSS
  refine .mk [z, i1, i2] SS (ZMid z TI TO i1 i2 l1 l2 vs1.toArray vs2.toArray MM) (fun A' hA i s Q E' hi st q => (hW A' hA).item i s _ _ hi st fun T vals h' tk pv hT hM kk => q _ h' tk ⟨T, vals, rfl, hT, hM, mz _ _ _ hM, pv, (hW A' hA).apart _ _ _ hM⟩ fun b o h1 h2 g => kk b o (four h1 h2) g)
    (fun A' hA i v s Q E' m q => ?_) (fun A' hA s Q E' st q => (hW A' hA).done s _ _ st fun h' tk kk => q h' tk fun b o h1 h2 g => kk b o (four h1 h2) g) (fun A' hA i s Q E' st q => (hW A' hA).self i s _ _ st q)
    (zs 0 h' ⟨hz, hTI, ⟨_, _, hTO⟩, hit1, hit2, hl1, hl2⟩) (fun i h₁ m => (sz _ _ m).rec3) (fun i v h₁ m => m.casesOn fun _ _ _ _ _ zs _ _ => zs.rec3) (fun i h₁ m b hb => ?_) (fun i v h₁ m b hb => ?_) hwr (fun i h₁ mu₁ h₂ m x k1 k2 k3 => ?_) (fun i v mu' h₁ h₂ hi m x k => ?_)
  · obtain ⟨T, vals, rfl, _, hM, _⟩ := m
    exact (hW A' hA).go _ _ _ i T s _ _ hM fun h' st kk => q h' st fun b o h1 h2 g => kk b o (four h1 h2) g
  · rw [List.mem_singleton.mp hb]; exact (sz _ _ m).hTO
  · obtain ⟨T, vals, rfl, _, _, zs, _⟩ := m
    rw [List.mem_singleton.mp hb]; exact zs.hTO
  · have m := sz _ _ m
    obtain ⟨o4, g4, r4⟩ := m.h1
    obtain ⟨o5, g5, r5⟩ := m.h2
    obtain ⟨o6, g6, r6⟩ := m.hl1
    obtain ⟨o7, g7, r7⟩ := m.hl2
    obtain ⟨p6, q6, _, _, r6'⟩ := hl1
    obtain ⟨p7, q7, _, _, r7'⟩ := hl2
    have sq : ∀ l p, h'.get? l = some p → ¬ σ.mu l → isSeq p.data → ∀ o, h₁.get? l = some o → h₂.get? l = some o := fun l p g nm q o g' => by
      obtain ⟨g2, nm2⟩ := x l p g nm q
      rw [g'] at g2; cases g2
      exact k1 l _ g' nm2 q
    exact zs _ _ ⟨k2 z (.head _) _ m.hz, sq TI _ hTI nTI trivial _ m.hTI, k3 TO (.head _), ⟨o4, k2 i1 (.tail _ (.head _)) _ g4, r4⟩, ⟨o5, k2 i2 (.tail _ (.tail _ (.head _))) _ g5, r5⟩, ⟨o6, sq l1 p6 q6 n1 (by rw [r6']; trivial) _ g6, r6⟩, ⟨o7, sq l2 p7 q7 n2 (by rw [r7']; trivial) _ g7, r7⟩⟩
  · obtain ⟨T, vals, rfl, ⟨o, g, r⟩, _, _, ⟨x1, x2, e1, e2, rfl⟩, hw⟩ := m
    rw [List.getElem?_toArray] at e1 e2
    obtain ⟨dv1, f1, m1⟩ := vms1.get' e1
    obtain ⟨dv2, f2, m2⟩ := vms2.get' e2
    refine ⟨T, x1, x2, rfl, ⟨o, k T o (fun h => hw ?_) (fun h => hw ?_) g, r⟩, ?_, ?_⟩
    · cases h with
      | head => exact .head _
      | tail _ h => exact .tail _ (.tail _ h)
    · rw [List.mem_singleton.mp h]; exact .tail _ (.head _)
    · rw [List.getD_eq_getElem?_getD, f1]; exact m1.monoS x
    · rw [List.getD_eq_getElem?_getD, f2]; exact m2.monoS x
inductive ZAt (X : Cx) (σ : S) (s : Shared) (tg : Expr) (Q : List V → List V → S → Prop) (it : Value) (s₂ : Shared) : Prop
  | mk (J TO : Addr) (as bs : List V) (σ₁ : S) (e : it = .ref J) (hlen : as.length ≤ bs.length) (hTn : σ₁.hp TO = none) (P : Post X σ s ⟨σ₁.loc, upd σ₁.hp TO .pair⟩ s₂) (IT : ItG X ⟨σ₁.loc, upd σ₁.hp TO .pair⟩ s₂.heap J tg as.length (PT (fun i => as.getD i .none) (fun i => bs.getD i .none)) [TO]) (q : Q as bs σ₁)
inductive ZipQ (ds : List V) (P : List V → List V → Prop) : Prop
  | mk (as bs : List V) (e : ds = [.lst as, .lst bs]) (hl : as.length ≤ bs.length) (q : P as bs)
theorem zip_at {e1 e2 : Expr} {np pos : Pos} {es : List Expr} {kt : Nat} {tp : Pos} {Q : List V → List V → S → Prop} (ok : Ok X n) (k : KB X "zip" (.type "zip")) (hplain : ∀ env, (backTo pos (starEach [e1, e2] env)).any (·.1) = false)
    (h : W X (spliced (backTo pos (starEach [e1, e2] X.env))) VMs σ (fun ds σ₁ => ZipQ ds fun as bs => Q as bs σ₁) E) {s : Shared} (st : St X σ s.heap) :
    wpAny (model X.prog X.w) X.A (eval (.Call (.Name "zip" np) [e1, e2] [] pos) X.env) (fun x s₁ => wpAny (model X.prog X.w) X.A (pyIter x) (ZAt X σ s (.Tuple es kt tp) Q) (Ew X σ s E) s₁) (Ew X σ s E) s := by
  refine wpAny_Call_NameR ((W_kb (Q := fun f σ' => f = .lit (.type "zip") ∧ σ' = σ) ok k (by decide) ⟨rfl, rfl⟩ (by decide)).run (Post.refl st) fun v s₁ f σ₁ _ P₁ vm h₁ => ?_)
  obtain ⟨rfl, rfl⟩ := h₁
  cases vm.litI
  refine call_raw keeps_type (hplain _) (h.run P₁ fun vs s₂ ds σ₂ p₂ P₂ vms h₂ => ⟨P₂.st.inK ok, ?_⟩)
  obtain ⟨as, bs, rfl, hlen, q⟩ := h₂
  obtain ⟨v, w, rfl, va, vb⟩ := vms.two
  obtain ⟨l1, o1, vs1, k1, rfl, g1, c1, d1, nm1, vms1⟩ := va.lstI
  obtain ⟨l2, o2, vs2, k2, rfl, g2, c2, d2, nm2, vms2⟩ := vb.lstI
  have hl1 : s₂.heap.IsList l1 vs1.toArray := ⟨o1, g1, c1, k1, d1⟩
  have hl2 : s₂.heap.IsList l2 vs2.toArray := ⟨o2, g2, c2, k2, d2⟩
  have a1 : l1 < s₂.heap.objs.size := Heap.lt_size g1
  have a2 : l2 < s₂.heap.objs.size := Heap.lt_size g2
  refine call_zip_2 hl1 hl2 fun h' hz hTI hTO hit1 hit2 hsz hk => ?_
  refine wpAny_pyIter_zip hz ?_
  have nf : ∀ k, X.base.get? (s₂.heap.objs.size + k) = none ∧ ¬ σ₂.mu (s₂.heap.objs.size + k) ∧ s₂.heap.objs.size + k ∉ X.prot := fun k => by
    have big : s₂.heap.get? (s₂.heap.objs.size + k) = none := Heap.get?_none_of_le (Nat.le_add_right _ _)
    refine ⟨?_, fun m => ?_, fun hp => ?_⟩
    · cases q : X.base.get? (s₂.heap.objs.size + k) with
      | none => rfl
      | some o => have := P₂.st.base _ o q; rw [big] at this; cases this
    · cases q : σ₂.hp (s₂.heap.objs.size + k) with
      | none => exact m q
      | some o => obtain ⟨ob, g⟩ := (P₂.st.own _ o q).1.there; rw [big] at g; cases g
    · obtain ⟨_, o, ws, g, _⟩ := P₂.st.prot _ hp
      rw [big] at g; cases g
  have hTn : σ₂.hp (s₂.heap.objs.size + 3) = none := by
    cases q : σ₂.hp (s₂.heap.objs.size + 3) with
    | none => rfl
    | some o => exact absurd (by show σ₂.hp _ ≠ none; rw [q]; exact Option.some_ne_none _) (nf 3).2.1
  obtain ⟨m₀, hn₀, hm₀⟩ := P₂.st.names
  have P₃ : Post X σ₂ s₂ { σ₂ with hp := upd σ₂.hp (s₂.heap.objs.size + 3) .pair } { s₂ with heap := h', toks := s₂.toks } :=
    post_write ok P₂.st (fun b o _ _ e => hk b o e) ⟨m₀, hn₀.keeps hk, hm₀⟩ (.inr (Heap.get?_none_of_le (Nat.le_add_right _ _))) fun _ _ _ => ⟨_, _, hTO⟩
  have um : ∀ k, k ≠ 3 → ¬ S.mu { σ₂ with hp := upd σ₂.hp (s₂.heap.objs.size + 3) .pair } (s₂.heap.objs.size + k) := fun k hk3 z => (nf k).2.1 (by
    have z' : upd σ₂.hp (s₂.heap.objs.size + 3) .pair (s₂.heap.objs.size + k) ≠ none := z
    rwa [upd_ne (fun q => hk3 (Nat.add_left_cancel q))] at z')
  have un : ∀ b o, s₂.heap.get? b = some o → ¬ σ₂.mu b → ¬ S.mu { σ₂ with hp := upd σ₂.hp (s₂.heap.objs.size + 3) .pair } b := fun b o g nm z => nm (by
    have z' : upd σ₂.hp (s₂.heap.objs.size + 3) .pair b ≠ none := z
    rwa [upd_ne (fun q => by have := Heap.lt_size g; rw [q] at this; exact absurd this (Nat.not_lt.mpr (Nat.le_add_right _ _)))] at z')
  have hD := zipApart_new a1 a2
  refine .mk _ (s₂.heap.objs.size + 3) as bs σ₂ rfl hlen hTn (P₂.trans P₃) ?_ q
  refine zip_ItG hD hlen (vms1.mono P₃.ext) (vms2.mono P₃.ext) hz hTI hTO hit1 hit2 (hl1.at fun o e => hk l1 o e) (hl2.at fun o e => hk l2 o e) (fun b hb => ?_) (um 2 (by decide)) (un l1 _ g1 nm1) (un l2 _ g2 nm2)
  simp only [List.mem_cons, List.not_mem_nil, or_false] at hb
  rcases hb with rfl | rfl | rfl
  · exact ⟨(nf 4).1, um 4 (by decide), (nf 4).2.2⟩
  · exact ⟨(nf 0).1, um 0 (by decide), (nf 0).2.2⟩
  · exact ⟨(nf 1).1, um 1 (by decide), (nf 1).2.2⟩
theorem drp_upd {hp : Addr → Option HO} {TO : Addr} (h : hp TO = none) : drp [TO] (upd hp TO .pair) = hp := by
  funext c
  by_cases hc : c = TO
  · rw [hc, drp_in (.head _), h]
  · rw [drp_out (fun q => hc (List.mem_singleton.mp q)), upd_ne hc]
theorem WX_AssignCompZ {x1 x2 : Str} {k : Nat} {tp p1 p2 pos np zp : Pos} {elt e1 e2 : Expr} {ifs : List Expr} {scope : Scope} {cl : List (Str × Addr)} {y : Str} {py spos : Pos} {Q : FV → S → Prop} (ok : Ok X n) (hc : X.ctx = none) (kz : KB X "zip" (.type "zip")) (hplain : ∀ env, (backTo zp (starEach [e1, e2] env)).any (·.1) = false)
    (hclos : closureFor scope X.env = pure cl) (hcell : ∀ y ∈ scope.names, y.2 ≠ .cell) (hkind : scope.kind = .function) (hnames : ∀ y ∈ scope.names, y.2 = .local → scope.names.lookup y.1 = some .local) (hx1 : scope.names.lookup x1 = some .local) (hx2 : scope.names.lookup x2 = some .local) (hne : x1 ≠ x2)
    (hsw : swapsWith (.ListComp elt [⟨.Tuple [.Name x1 p1, .Name x2 p2] k tp, .Call (.Name "zip" np) [e1, e2] [] zp, ifs, 0⟩] scope pos) (some (.Name y py)) spos.line X.env = pure true) (hy : X.env.kindOf y = some .local)
    (h : W X (spliced (backTo zp (starEach [e1, e2] X.env))) VMs σ (fun ds σ₀ => ZipQ ds fun as bs => CompQ as.length (fun keep es => ∀ hp₁ Z D i, (∀ a o, σ₀.hp a = some o → hp₁ a = some o) → i < as.length → hp₁ D = none → InC X Z scope cl → Ok Z n → W Z (tests ifs Z.env) RB ⟨[(x2, bs.getD i .none), (x1, as.getD i .none)], upd hp₁ D (.lst (accOf keep es i))⟩
      (fun b σ₂ => b = keep i ∧ σ₂.hp = upd hp₁ D (.lst (accOf keep es i)) ∧ (b = true → W Z (eval elt Z.env) VM σ₂ (fun v σ₃ => v = es i ∧ σ₃.hp = upd hp₁ D (.lst (accOf keep es i))) F0)) F0) (fun keep es => Q .next { σ₀ with loc := put σ₀.loc y (.lst (accOf keep es as.length)) })) E)
    (hs : ∀ env x, foldedSetIterable (.Call (.Name "zip" np) [e1, e2] [] zp) env x = pure x) : WX X (.Assign [.Name y py] (.ListComp elt [⟨.Tuple [.Name x1 p1, .Name x2 p2] k tp, .Call (.Name "zip" np) [e1, e2] [] zp, ifs, 0⟩] scope pos) spos) σ Q E :=
  WX_AssignCompG ok hc hclos hcell hkind hnames hsw hy (fun s st => wpAny_mono (zip_at (es := [.Name x1 p1, .Name x2 p2]) (kt := k) (tp := tp) ok kz hplain h st) (fun _ _ z => wpAny_mono z (fun _ _ z => by
    cases z with
    | mk J TO as bs σ₁ e hlen hTn P IT q =>
      obtain ⟨hN, keep, es, item, q⟩ := q
      refine ⟨J, _, _, _, [TO], e, fun f => f.elim, fun b hb => ?_, P, IT, hN, keep, es, fun Z D i σ' hi hD hh inc okZ =>
        ⟨{ σ' with loc := put (put σ'.loc x1 (as.getD i .none)) x2 (bs.getD i .none) }, asg_pair okZ (inc.ctx.trans hc) (sto_local okZ (by unfold Env.kindOf; rw [inc.scope]; exact lookup_relabel_local hx1)) (sto_local okZ (by unfold Env.kindOf; rw [inc.scope]; exact lookup_relabel_local hx2)), W.drop ⟨sub_two, fun a o e => by show σ'.hp a = some o; rw [hh]; exact e⟩ (item _ Z D i (fun a o e => ?_) hi hD inc okZ)⟩, ?_⟩
      · rw [List.mem_singleton.mp hb]; exact upd_self
      · show upd σ₁.hp TO .pair a = some o
        rw [upd_ne (fun q => by rw [q, hTn] at e; cases e)]; exact e
      · show Q _ ⟨_, drp [TO] (upd σ₁.hp TO .pair)⟩
        rw [drp_upd hTn]; exact q) fun _ _ z => z) fun _ _ z => z) hs
end
end Mine
namespace Mine
noncomputable def rs : List Nat → List (List Nat) × Bool
  | [] => ([], false)
  | [c] => if c = 92 then ([], true) else ([[c]], false)
  | c :: d :: r => if c = 92 then (([92, d] :: (rs r).1), (rs r).2) else ([c] :: (rs (d :: r)).1, (rs (d :: r)).2)
theorem rs_esc (d : Nat) (r : List Nat) : rs (92 :: d :: r) = ([92, d] :: (rs r).1, (rs r).2) := by rw [rs]; simp
theorem rs_plain {c : Nat} (r : List Nat) (h : c ≠ 92) : rs (c :: r) = ([c] :: (rs r).1, (rs r).2) := by
  cases r with
  | nil => simp [rs, h]
  | cons d r => rw [rs]; simp [h]
theorem rs_flat (l : List Nat) : (rs l).1.flatten ++ (if (rs l).2 then [92] else []) = l := by
  induction l using rs.induct with
  | case1 => rfl
  | case2 => rfl
  | case3 c h => simp [rs, h]
  | case4 d r ih => rw [rs_esc]; simpa using ih
  | case5 c d r h ih => rw [rs_plain _ h]; simpa using ih
end Mine
namespace Mine
noncomputable def gw (p : List Nat → Bool) : Nat → List (List Nat) → List (List Nat) × List (List Nat)
  | 0, S => ([], S)
  | _ + 1, [] => ([], [])
  | n + 1, s :: S => if p s then (s :: (gw p n S).1, (gw p n S).2) else ([], s :: S)
theorem gw_parts (p : List Nat → Bool) : ∀ (n : Nat) (S : List (List Nat)), (gw p n S).1 ++ (gw p n S).2 = S
  | 0, S => rfl
  | n + 1, [] => rfl
  | n + 1, s :: S => by
    unfold gw
    split
    · simp [gw_parts p n S]
    · rfl
theorem gw_p (p : List Nat → Bool) : ∀ (n : Nat) (S : List (List Nat)), ∀ s ∈ (gw p n S).1, p s = true
  | 0, S => by simp [gw]
  | n + 1, [] => by simp [gw]
  | n + 1, s :: S => by
    unfold gw
    split
    · rename_i h
      intro z hz
      rcases List.mem_cons.mp hz with rfl | hz
      · exact h
      · exact gw_p p n S z hz
    · simp
noncomputable def Gd (s : List Nat) : Prop := (∃ c, c ≠ 92 ∧ s = [c]) ∨ ∃ d, s = [92, d]
end Mine
namespace Mine
open PySem PySem.W
theorem rs_gd (l : List Nat) : ∀ s ∈ (rs l).1, Gd s := by
  induction l using rs.induct with
  | case1 => simp [rs]
  | case2 => simp [rs]
  | case3 c h => intro s hs; simp [rs, h] at hs; exact .inl ⟨c, h, hs⟩
  | case4 d r ih =>
    rw [rs_esc]
    intro s hs
    rcases List.mem_cons.mp hs with rfl | hs
    · exact .inr ⟨d, rfl⟩
    · exact ih s hs
  | case5 c d r h ih =>
    rw [rs_plain _ h]
    intro s hs
    rcases List.mem_cons.mp hs with rfl | hs
    · exact .inl ⟨c, h, rfl⟩
    · exact ih s hs
noncomputable def rws (z : Int) : List (List Nat) → List (V × V)
  | [] => []
  | s :: S => (.int z, .str s) :: rws (z + (s.length : Nat)) S
end Mine
namespace Mine
open PySem
theorem repR_len {sub new : List Nat} (hs : sub ≠ []) (h : sub.length = new.length) : ∀ (l : List Nat) (k : Nat), (repR sub new k l).length = l.length - k
  | [], k => by cases k <;> simp [repR]
  | a :: l, 0 => by
    unfold repR
    split
    · rename_i hm
      have hlen : sub.length ≤ (a :: l).length := by
        have := congrArg List.length hm
        rw [List.length_take] at this; omega
      have : sub.length ≠ 0 := fun e => hs (List.length_eq_zero_iff.mp e)
      rw [List.length_append, repR_len hs h l]
      simp at hlen ⊢; omega
    · simp [repR_len hs h l 0]
  | a :: l, k + 1 => by
    show (repR sub new k l).length = _
    rw [repR_len hs h l k]; simp
end Mine
namespace Mine
open PySem PySem.W PySem.Calls PySem.Spec PyProof.Rows
noncomputable def mT (T : List Nat) : List Nat → List Nat
  | [] => []
  | [c] => [c]
  | c :: d :: r => if c = 92 then (if d ∈ T then 48 :: 48 :: mT T r else 92 :: d :: mT T r) else c :: mT T (d :: r)
theorem mT_one (T : List Nat) (c : Nat) : mT T [c] = [c] := rfl
theorem mT_esc (T : List Nat) (d : Nat) (r : List Nat) : mT T (92 :: d :: r) = if d ∈ T then 48 :: 48 :: mT T r else 92 :: d :: mT T r := by rw [mT]; simp
theorem mT_plain (T : List Nat) {c : Nat} (r : List Nat) (h : c ≠ 92) : mT T (c :: r) = c :: mT T r := by
  cases r with
  | nil => rfl
  | cons d r => rw [mT]; simp [h]
theorem mT_none (s : List Nat) : mT [] s = s := by
  induction s using rs.induct with
  | case1 => rfl
  | case2 => rfl
  | case3 c h => rfl
  | case4 d r ih => rw [mT_esc]; simp [ih]
  | case5 c d r h ih => rw [mT_plain _ _ h, ih]
theorem rep_skip {c a : Nat} {l : List Nat} (h : a ≠ 92) : repR [92, c] [48, 48] 0 (a :: l) = a :: repR [92, c] [48, 48] 0 l := by
  rw [repR, if_neg]
  intro e
  simp only [List.length_cons, List.length_nil, List.take_succ_cons] at e
  injection e with e1 e2
  exact h e1
theorem rep_hit {c : Nat} {l : List Nat} : repR [92, c] [48, 48] 0 (92 :: c :: l) = 48 :: 48 :: repR [92, c] [48, 48] 0 l := by
  rw [repR, if_pos (by simp)]
  rfl
theorem rep_miss {c d : Nat} {l : List Nat} (h : d ≠ c) (h2 : d ≠ 92) : repR [92, c] [48, 48] 0 (92 :: d :: l) = 92 :: d :: repR [92, c] [48, 48] 0 l := by
  rw [repR, if_neg, rep_skip h2]
  intro e
  simp only [List.length_cons, List.length_nil, List.take_succ_cons] at e
  injection e with e1 e2
  injection e2 with e3 e4
  exact h e3
theorem mT_step (T : List Nat) (c : Nat) (hT : c = 92 ∨ 92 ∈ T) (s : List Nat) : repR [92, c] [48, 48] 0 (mT T s) = mT (c :: T) s := by
  induction s using rs.induct with
  | case1 => rfl
  | case2 => simp [mT_one, repR]
  | case3 a h => rw [mT_one, mT_one, rep_skip h]; rfl
  | case4 d r ih =>
    rw [mT_esc, mT_esc]
    by_cases hd : d ∈ T
    · rw [if_pos hd, if_pos (by simp [hd]), rep_skip (by decide), rep_skip (by decide), ih]
    · rw [if_neg hd]
      by_cases hc : d = c
      · subst hc
        rw [if_pos (by simp), rep_hit, ih]
      · have h92 : d ≠ 92 := by
          rintro rfl
          rcases hT with e | e
          · exact hc e.symm
          · exact hd e
        rw [if_neg (by simp [hd, hc]), rep_miss hc h92, ih]
  | case5 a d r h ih => rw [mT_plain _ _ h, mT_plain _ _ h, rep_skip h, ih]
noncomputable def mS (g : List (List Nat)) : List Nat := (g.map fun z => if z.length = 2 then [48, 48] else z).flatten
theorem slc_last (l : List Nat) : slc l (some (-1)) none = l.drop (l.length - 1) := by
  unfold slc kms_lo kms_hi
  dsimp only
  rw [if_pos (by omega), List.take_of_length_le (by simp)]
  rfl
theorem slc_to {α : Type} (l : List α) (k : Nat) : slc l none (some (k : Int)) = l.take k := by
  unfold slc kms_lo kms_hi
  dsimp only
  rw [if_neg (by omega)]
  simp
theorem mS_cons (z : List Nat) (g : List (List Nat)) : mS (z :: g) = (if z.length = 2 then [48, 48] else z) ++ mS g := by simp [mS]
end Mine
namespace Mine
open PySem PySem.W
noncomputable def mk5 (l : List Nat) (i : Nat) : List Nat := ([92, 97, 98, 62].take i).foldl (fun m c => replL m [92, c] [48, 48]) l
theorem mk5_len (l : List Nat) (i : Nat) : (mk5 l i).length = l.length := by
  unfold mk5
  induction ([92, 97, 98, 62].take i : List Nat) generalizing l with
  | nil => rfl
  | cons c r ih =>
    rw [List.foldl_cons, ih, replL_eq (by simp), repR_len (by simp) (by simp)]; simp
theorem mk5_succ (l : List Nat) (i : Nat) (h : i < 4) : mk5 l (i + 1) = replL (mk5 l i) [92, [92, 97, 98, 62].getD i 0] [48, 48] := by
  unfold mk5
  rw [List.take_add_one, List.foldl_append]
  have : i = 0 ∨ i = 1 ∨ i = 2 ∨ i = 3 := by omega
  rcases this with rfl | rfl | rfl | rfl <;> rfl
theorem mk5_all (s : List Nat) : mk5 s 4 = mT [62, 98, 97, 92] s := by
  show replL (replL (replL (replL s [92, 92] [48, 48]) [92, 97] [48, 48]) [92, 98] [48, 48]) [92, 62] [48, 48] = _
  simp only [replL_eq (show ([92, 92] : List Nat) ≠ [] by simp), replL_eq (show ([92, 97] : List Nat) ≠ [] by simp), replL_eq (show ([92, 98] : List Nat) ≠ [] by simp), replL_eq (show ([92, 62] : List Nat) ≠ [] by simp)]
  conv => lhs; rw [← mT_none s]
  rw [mT_step [] 92 (.inl rfl), mT_step [92] 97 (.inr (by simp)), mT_step [97, 92] 98 (.inr (by simp)), mT_step [98, 97, 92] 62 (.inr (by simp))]
noncomputable def al5 : List Nat := [97, 98, 62, 92]
theorem mT_signs5 (s : List Nat) (h : ∀ c ∈ s, c ∈ al5) : mT [62, 98, 97, 92] s = mS (rs s).1 ++ (if (rs s).2 then [92] else []) := by
  induction s using rs.induct with
  | case1 => rfl
  | case2 => rfl
  | case3 c hc => simp [rs, hc, mS, mT_one]
  | case4 d r ih =>
    rw [rs_esc, mT_esc, if_pos, ih (fun c hc => h c (by simp [hc]))]
    · simp [mS]
    · have := h d (by simp)
      simp only [al5, List.mem_cons, List.not_mem_nil, or_false] at this
      rcases this with rfl | rfl | rfl | rfl <;> decide
  | case5 c d r hc ih =>
    rw [rs_plain _ hc, mT_plain _ _ hc, ih (fun c hc => h c (by simp [List.mem_cons.mp hc]))]
    simp [mS]
theorem mk5_is {s : List Nat} (h : ∀ c ∈ s, c ∈ al5) : mk5 s 4 = mS (rs s).1 ++ (if (rs s).2 then [92] else []) := (mk5_all s).trans (mT_signs5 s h)
noncomputable def Sh (z : List Nat) : Prop := z = [97] ∨ z = [98] ∨ z = [62] ∨ ∃ d, z = [92, d]
theorem rs_sh (s : List Nat) (h : ∀ c ∈ s, c ∈ al5) : ∀ z ∈ (rs s).1, Sh z := by
  intro z hz
  rcases rs_gd s z hz with ⟨c, hc, rfl⟩ | ⟨d, rfl⟩
  · have hm : c ∈ s := by
      rw [← rs_flat s]; exact List.mem_append_left _ (List.mem_flatten.mpr ⟨_, hz, by simp⟩)
    have := h c hm
    unfold Sh
    simp [al5] at this ⊢
    omega
  · exact .inr (.inr (.inr ⟨d, rfl⟩))
theorem mS_app (f g : List (List Nat)) : mS (f ++ g) = mS f ++ mS g := by simp [mS]
theorem mS_len (g : List (List Nat)) : (mS g).length = g.flatten.length := by
  induction g with
  | nil => rfl
  | cons z g ih =>
    rw [mS_cons, List.flatten_cons, List.length_append, List.length_append, ih]
    split
    · rename_i h; rw [h]; rfl
    · rfl
theorem mS_no (g : List (List Nat)) (h : ∀ z ∈ g, Sh z) : 92 ∉ mS g := by
  intro hm
  unfold mS at hm
  obtain ⟨l, hl, hm⟩ := List.mem_flatten.mp hm
  obtain ⟨z, hz, rfl⟩ := List.mem_map.mp hl
  rcases h z hz with rfl | rfl | rfl | ⟨d, rfl⟩ <;> simp at hm
theorem lone_is {g : List (List Nat)} {err : Bool} (h : ∀ z ∈ g, Sh z) : slc (mS g ++ (if err then [92] else [])) (some (-1)) none = [92] ↔ err = true := by
  rw [slc_last]
  cases err
  · rw [if_neg (by decide), List.append_nil]
    refine ⟨fun e => ?_, fun e => by cases e⟩
    have : 92 ∈ (mS g).drop ((mS g).length - 1) := by rw [e]; simp
    exact absurd (List.mem_of_mem_drop this) (mS_no g h)
  · rw [if_pos rfl]
    refine ⟨fun _ => rfl, fun _ => ?_⟩
    rw [List.length_append]
    simp
noncomputable def sts (z : Nat) : List (List Nat) → List Nat
  | [] => []
  | s :: S => z :: sts (z + s.length) S
noncomputable def eds (z : Nat) : List (List Nat) → List Nat
  | [] => []
  | s :: S => (z + s.length) :: eds (z + s.length) S
theorem sts_len (z : Nat) (S : List (List Nat)) : (sts z S).length = S.length := by
  induction S generalizing z with
  | nil => rfl
  | cons s S ih => simp [sts, ih]
theorem eds_len (z : Nat) (S : List (List Nat)) : (eds z S).length = S.length := by
  induction S generalizing z with
  | nil => rfl
  | cons s S ih => simp [eds, ih]
theorem sts_map (z k : Nat) (S : List (List Nat)) : (sts z S).map (· + k) = sts (z + k) S := by
  induction S generalizing z with
  | nil => rfl
  | cons s S ih => simp only [sts, List.map_cons, ih]; rw [Nat.add_right_comm]
theorem eds_sts (z : Nat) (s : List Nat) (S : List (List Nat)) : eds z (s :: S) = (sts z (s :: S)).drop 1 ++ [z + (s :: S).flatten.length] := by
  induction S generalizing z s with
  | nil => simp [eds, sts]
  | cons a S ih =>
    show (z + s.length) :: eds (z + s.length) (a :: S) = _
    rw [ih]
    simp [sts]; omega
theorem starts_is (S : List (List Nat)) (h : ∀ z ∈ S, Sh z) : (List.range (mS S).length).filter (fun k => ((mS S).take k).count 48 % 2 == 0) = sts 0 S := by
  induction S with
  | nil => rfl
  | cons s S ih =>
    have ih := ih fun z hz => h z (by simp [hz])
    rw [mS_cons]
    by_cases h2 : s.length = 2
    · rw [if_pos h2]
      show (List.range ((mS S).length + 1 + 1)).filter _ = 0 :: sts (0 + s.length) S
      rw [List.range_succ_eq_map, List.range_succ_eq_map, h2, ← sts_map, ← ih]
      simp only [List.map_cons, List.map_map]
      rw [List.filter_cons, if_pos (by simp), List.filter_cons, if_neg (by simp), List.filter_map]
      congr 2
      · refine List.filter_congr fun k _ => ?_
        simp only [Function.comp, Nat.succ_eq_add_one, List.take_succ_cons, List.cons_append, List.nil_append, List.count_cons_self]
        rw [Nat.add_assoc, Nat.add_mod_right]
    · rw [if_neg h2]
      have hs : ∃ c, s = [c] ∧ c ≠ 48 := by
        rcases h s (by simp) with rfl | rfl | rfl | ⟨d, rfl⟩
        · exact ⟨97, rfl, by decide⟩
        · exact ⟨98, rfl, by decide⟩
        · exact ⟨62, rfl, by decide⟩
        · exact absurd rfl h2
      obtain ⟨c, rfl, hc⟩ := hs
      show (List.range ((mS S).length + 1)).filter _ = 0 :: sts (0 + 1) S
      rw [List.range_succ_eq_map, ← sts_map, ← ih]
      rw [List.filter_cons, if_pos (by simp), List.filter_map]
      congr 2
      · refine List.filter_congr fun k _ => ?_
        simp [Function.comp, List.count_cons, hc]
theorem cut_signs (pre : List Nat) (S : List (List Nat)) (tl : List Nat) (i : Nat) (hi : i < S.length) : ((pre ++ (S.flatten ++ tl)).drop ((sts pre.length S).getD i 0)).take ((eds pre.length S).getD i 0 - (sts pre.length S).getD i 0) = S.getD i [] ∧ (sts pre.length S).getD i 0 ≤ (eds pre.length S).getD i 0 ∧ (eds pre.length S).getD i 0 ≤ pre.length + S.flatten.length := by
  induction S generalizing pre i with
  | nil => simp at hi
  | cons s S ih =>
    cases i with
    | zero => simp [sts, eds]
    | succ i =>
      have := ih (pre ++ s) i (by simpa using hi)
      rw [List.length_append] at this
      simp only [sts, eds, List.getD_cons_succ, List.flatten_cons, List.length_append]
      rw [List.append_assoc] at this
      rw [List.append_assoc]
      exact ⟨this.1, this.2.1, by omega⟩
theorem rws_getD (z : Int) (S : List (List Nat)) (k i : Nat) (hi : i < S.length) : (rws (z + (k : Nat)) S).getD i (.none, .none) = (.int (z + ((sts k S).getD i 0 : Nat)), .str (S.getD i [])) := by
  induction S generalizing k i with
  | nil => simp at hi
  | cons s S ih =>
    cases i with
    | zero => simp [rws, sts]
    | succ i =>
      have := ih (k + s.length) i (by simpa using hi)
      simp only [rws, sts, List.getD_cons_succ]
      rw [show z + (k : Nat) + (s.length : Nat) = z + ((k + s.length : Nat) : Int) from by omega]
      exact this
noncomputable def pab (s : List Nat) : Bool := s == [97] || s == [98]
theorem gw_flat (n : Nat) (S : List (List Nat)) : (gw pab n S).1.flatten.length = (gw pab n S).1.length := by
  have h := gw_p pab n S
  generalize (gw pab n S).1 = F at h
  induction F with
  | nil => rfl
  | cons s F ih =>
    have e := h s (by simp)
    have : s.length = 1 := by
      unfold pab at e
      simp at e
      rcases e with rfl | rfl <;> rfl
    rw [List.flatten_cons, List.length_append, ih fun z hz => h z (by simp [hz]), this, List.length_cons, Nat.add_comm]
theorem tkw_is (S : List (List Nat)) (h : ∀ z ∈ S, Sh z) (tl : List Nat) (ht : tl = [] ∨ tl = [92]) : (mS S ++ tl).length - ((mS S ++ tl).dropWhile fun c => [97, 98].contains c).length = (S.takeWhile pab).length := by
  induction S with
  | nil => rcases ht with rfl | rfl <;> rfl
  | cons s S ih =>
    have ih := ih fun z hz => h z (by simp [hz])
    rw [mS_cons]
    rcases h s (by simp) with rfl | rfl | rfl | ⟨d, rfl⟩
    · have hd : ((mS S ++ tl).dropWhile fun c => [97, 98].contains c).length ≤ (mS S ++ tl).length := by
        exact List.Sublist.length_le (List.dropWhile_sublist _)
      simp [pab, List.takeWhile_cons] at ih hd ⊢; omega
    · have hd : ((mS S ++ tl).dropWhile fun c => [97, 98].contains c).length ≤ (mS S ++ tl).length := by
        exact List.Sublist.length_le (List.dropWhile_sublist _)
      simp [pab, List.takeWhile_cons] at ih hd ⊢; omega
    · simp [pab, List.takeWhile_cons]
    · simp [pab, List.takeWhile_cons]
theorem gw_count (p : List Nat → Bool) : ∀ (n : Nat) (S : List (List Nat)), (gw p n S).1.length = min n (S.takeWhile p).length
  | 0, S => by simp [gw]
  | n + 1, [] => by simp [gw]
  | n + 1, s :: S => by
    unfold gw
    by_cases h : p s = true
    · rw [if_pos h, List.takeWhile_cons, if_pos h]
      simp only [List.length_cons]
      rw [gw_count p n S]; omega
    · rw [if_neg h, List.takeWhile_cons, if_neg h]; simp
end Mine
namespace Mine
open PySem PySem.W PyProof.Rows
section
local macro_rules | `(tactic| o_head (kHook $k $a $e)) => `(tactic| exact False.elim (by assumption))
set_option maxHeartbeats 8000000 in
theorem frg : True := (fun (_ : False → (PySem.Challenge.rw_ij0062_05.row).Holds) => True.intro) (fun h => by k_head)
end
noncomputable def KV : Params → Frag := keep _ (by have h : Tag frg.heap_1 := .mk; delta frg.heap_1 at h; exact h) "a" atoms
section
local macro_rules | `(tactic| k_head) => `(tactic| o_head (kHook KV [2, 3, 15, 17, 18, 20, 21, 22, 25, 30, 31, 32, 34, 35, 37, 38, 39, 40, 41, 42, 52, 54, 55, 57, 58, 59, 61, 62, 64, 65, 66, 68, 69, 71, 72, 73, 75, 76, 78, 79, 80, 82, 83, 85, 86, 87, 89, 90, 92, 93, 94, 96, 97, 99, 100, 101, 102, 104, 105, 107, 108, 109, 111, 112, 114, 115, 116, 117, 119, 120, 122, 123, 124, 126, 127, 129, 130, 131, 132, 133, 134, 135, 138, 140, 141, 143, 144, 145, 147, 148, 150, 151, 152, 154, 155, 157, 158, 159, 162, 163] (fun _ => by kernel_rfl)))
set_option maxHeartbeats 8000000 in
open_top hd for PySem.Challenge.rw_ij0062_05
end
end Mine
namespace Mine
open PySem PySem.W PySem.Calls PySem.Spec PyProof.Rows Builtin Builtin.ObjectAttr
noncomputable abbrev KK (p : Params) : Frag := KV p
noncomputable abbrev CT : Addr := 133
noncomputable abbrev CP : Addr := 41
section
variable (p : Params)
theorem f_init : fnOk (KK p) 58 = true := by kernel_rfl
theorem f_next : fnOk (KK p) 65 = true := by kernel_rfl
theorem f_get : fnOk (KK p) 79 = true := by kernel_rfl
theorem f_seek : fnOk (KK p) 115 = true := by kernel_rfl
theorem f_perr : fnOk (KK p) 38 = true := by kernel_rfl
theorem g_err : nsIn (KK p) mainGlobals "error_constants" = some (some (.ref CP)) := by kernel_rfl
theorem g_perr : nsIn (KK p) mainGlobals "PatternError" = some (some (.ref CP)) := by kernel_rfl
theorem g_tok : nsIn (KK p) mainGlobals "Tokenizer" = some (some (.ref CT)) := by kernel_rfl
theorem b_len : nsIn (KK p) mainGlobals "len" = some none := by kernel_rfl
theorem b_sum : nsIn (KK p) mainGlobals "sum" = some none := by kernel_rfl
theorem b_range : nsIn (KK p) mainGlobals "range" = some none := by kernel_rfl
theorem b_isinst : nsIn (KK p) mainGlobals "isinstance" = some none := by kernel_rfl
theorem b_str : nsIn (KK p) mainGlobals "str" = some none := by kernel_rfl
theorem b_ierr : nsIn (KK p) mainGlobals "IndexError" = some none := by kernel_rfl
theorem b_super : nsIn (KK p) mainGlobals "super" = some none := by kernel_rfl
theorem km_next : KMeth (KK p) CT "_Tokenizer__next" 65 := .of rfl (by kernel_rfl) (by kernel_rfl) (by kernel_rfl) (by kernel_rfl)
theorem km_get : KMeth (KK p) CT "get" 79 := .of rfl (by kernel_rfl) (by kernel_rfl) (by kernel_rfl) (by kernel_rfl)
theorem km_seek : KMeth (KK p) CT "seek" 115 := .of rfl (by kernel_rfl) (by kernel_rfl) (by kernel_rfl) (by kernel_rfl)
theorem kg_index : KGet (KK p) CT "index" := .of rfl (by kernel_rfl) (by kernel_rfl) (by kernel_rfl)
theorem kg_next : KGet (KK p) CT "next" := .of rfl (by kernel_rfl) (by kernel_rfl) (by kernel_rfl)
theorem kg_string : KGet (KK p) CT "string" := .of rfl (by kernel_rfl) (by kernel_rfl) (by kernel_rfl)
theorem kg_dec : KGet (KK p) CT "decoded_string" := .of rfl (by kernel_rfl) (by kernel_rfl) (by kernel_rfl)
theorem kg_istext : KGet (KK p) CT "istext" := .of rfl (by kernel_rfl) (by kernel_rfl) (by kernel_rfl)
theorem ks_index : KSet (KK p) CT "index" := .of rfl (by kernel_rfl) (by kernel_rfl) (by kernel_rfl) (by kernel_rfl)
theorem ks_next : KSet (KK p) CT "next" := .of rfl (by kernel_rfl) (by kernel_rfl) (by kernel_rfl) (by kernel_rfl)
theorem ks_string : KSet (KK p) CT "string" := .of rfl (by kernel_rfl) (by kernel_rfl) (by kernel_rfl) (by kernel_rfl)
theorem ks_dec : KSet (KK p) CT "decoded_string" := .of rfl (by kernel_rfl) (by kernel_rfl) (by kernel_rfl) (by kernel_rfl)
theorem ks_istext : KSet (KK p) CT "istext" := .of rfl (by kernel_rfl) (by kernel_rfl) (by kernel_rfl) (by kernel_rfl)
theorem km_make : KMake (KK p) CT 58 := ⟨by kernel_rfl, by kernel_rfl, by kernel_rfl⟩
theorem km_exc : KMakeExc (KK p) CP 38 := ⟨by kernel_rfl, by kernel_rfl, by kernel_rfl, by kernel_rfl, by kernel_rfl⟩
theorem kx_exc : KExc (KK p) CP := .of rfl (by kernel_rfl) (by kernel_rfl) (by kernel_rfl)
theorem kc_exc : ∃ nm q N bs hdct sn sub ab col dd k0 k1 k2 k3 k5 newId, (KK p).lookup CP = some (excClassObj nm q CP N bs [.type "Exception", .type "BaseException", .type "object"] hdct sn sub ab col dd k0 k1 k2 k3 k5 newId) ∧ newId = "Exception.__new__" :=
  ⟨_, _, _, _, _, _, _, _, _, _, _, _, _, _, _, _, rfl, rfl⟩
theorem kxs_cls : ∃ cd, clsIn (KK p) CP = some cd ∧ cd.hasDict = true ∧ ∀ self, refuseLoop self "__setattr__" cd.mro = pure () :=
  ⟨_, rfl, rfl, fun self => by
    show refuseLoop self "__setattr__" [.ref CP, .type "Exception", .type "BaseException", .type "object"] = _
    rw [refuseLoop_ref]
    kernel_rfl⟩
theorem kxs_msg : KExcSet (KK p) CP "msg" := .of rfl (by kernel_rfl) (kxs_cls p) (by kernel_rfl) (by kernel_rfl)
theorem kxs_pattern : KExcSet (KK p) CP "pattern" := .of rfl (by kernel_rfl) (kxs_cls p) (by kernel_rfl) (by kernel_rfl)
theorem kxs_pos : KExcSet (KK p) CP "pos" := .of rfl (by kernel_rfl) (kxs_cls p) (by kernel_rfl) (by kernel_rfl)
theorem kxs_lineno : KExcSet (KK p) CP "lineno" := .of rfl (by kernel_rfl) (kxs_cls p) (by kernel_rfl) (by kernel_rfl)
theorem kxs_colno : KExcSet (KK p) CP "colno" := .of rfl (by kernel_rfl) (kxs_cls p) (by kernel_rfl) (by kernel_rfl)
theorem f_tell : fnOk (KK p) 108 = true := by kernel_rfl
theorem km_tell : KMeth (KK p) CT "tell" 108 := .of rfl (by kernel_rfl) (by kernel_rfl) (by kernel_rfl) (by kernel_rfl)
theorem f_gwh : fnOk (KK p) 86 = true := by kernel_rfl
theorem f_gun : fnOk (KK p) 93 = true := by kernel_rfl
theorem f_error : fnOk (KK p) 123 = true := by kernel_rfl
theorem km_gwh : KMeth (KK p) CT "getwhile" 86 := .of rfl (by kernel_rfl) (by kernel_rfl) (by kernel_rfl) (by kernel_rfl)
theorem km_gun : KMeth (KK p) CT "getuntil" 93 := .of rfl (by kernel_rfl) (by kernel_rfl) (by kernel_rfl) (by kernel_rfl)
theorem km_error : KMeth (KK p) CT "error" 123 := .of rfl (by kernel_rfl) (by kernel_rfl) (by kernel_rfl) (by kernel_rfl)
theorem f_masked : fnOk (KK p) 144 = true := by kernel_rfl
theorem f_read : fnOk (KK p) 151 = true := by kernel_rfl
theorem f_named : fnOk (KK p) 158 = true := by kernel_rfl
theorem g_masked : nsIn (KK p) mainGlobals "_law_masked" = some (some (.ref 144)) := by kernel_rfl
theorem g_read : nsIn (KK p) mainGlobals "_law_read" = some (some (.ref 151)) := by kernel_rfl
theorem g_named : nsIn (KK p) mainGlobals "_law_named" = some (some (.ref 158)) := by kernel_rfl
theorem b_zip : nsIn (KK p) mainGlobals "zip" = some none := by kernel_rfl
theorem b_min : nsIn (KK p) mainGlobals "min" = some none := by kernel_rfl
end
end Mine
namespace Mine
open PySem PySem.W PySem.Calls PySem.Spec PyProof.Rows
theorem s_nl : (Str.ofString "\n").cps.toList = [10] := by decide +kernel
theorem c_err {pp : Params} {X : Cx} {n : Nat} {σ : S} {E : Value → S → Prop} {m l : List Nat} {p : Nat} {Q : V → S → Prop} (ok : Ok X (n + 1)) (hK : X.K = KK pp) (hP : X.prog = PySem.Challenge.rw_ij0062_05.row.prog) (hm : m.length ≤ 1000) (hl : l.length ≤ 1000) (nn : 10 ∉ l) (hp : p ≤ 100000)
    (q : ∀ a d hp', σ.hp a = none → hp' a = some (.exc CP (some d)) → (∀ b o, σ.hp b = some o → hp' b = some o) → Q (.ref a) ⟨σ.loc, hp'⟩) : Call X (.ref CP) [.str m, .str l, .int p] σ Q E := by
  obtain ⟨nm, qn, N, bs, hdct, sn, sub, ab, col, dd, k0, k1, k2, k3, k5, newId, hC, rfl⟩ := kc_exc pp
  refine Call.exc' (names := ["self", "msg", "pattern", "pos"]) (loc0 := fun a => [("self", .ref a), ("msg", .str m), ("pattern", .str l), ("pos", .int p)]) PySem.F.excBase_Exception ok hK hC (km_exc _) (f_perr _) (by simp) (bind4 fun _ _ _ _ _ => by kernel_rfl) (by kernel_rfl) (by decide +kernel) rfl (fun _ => rfl) fun Y a okY hI hE ha => ?_
  have hKY : Y.K = KK pp := hI.K.trans hK
  obtain ⟨L, hE⟩ := hE
  have hCY : Y.K.lookup CP = some (excClassObj nm qn CP N bs [.type "Exception", .type "BaseException", .type "object"] hdct sn sub ab col dd k0 k1 k2 k3 k5 "Exception.__new__") := by rw [hKY]; exact hC
  generalize hcur : upd σ.hp a (.exc CP none) = hp₁
  have e1 : hp₁ a = some (.exc CP none) := by rw [← hcur]; exact upd_self
  have e3 : ∀ b o, σ.hp b = some o → hp₁ b = some o := fun b o e => by
    rw [← hcur, upd_ne (fun z => by rw [z, ha] at e; cases e)]; exact e
  clear hcur
  refine WAt.hide fun Q1 E1 hQ1 hE1 => ?_
  conv in execs (bodyAt _ _) _ => arg 1; whnf
  refine WAt_cons ?_
  ((try dsimp only); ((with_reducible refine WX_SetAttr (hs := ?hsz48) ?_); (case hsz48 => intro _; rfl)))
  ((try dsimp only); ((with_reducible refine W_local (d := ?dz49) (by assumption) ?hkz49 ?hlz49 ?qz49 ?hdz49); (case hkz49 => (have hh := In.scope ‹In _ _ _›; exact kindE hh (by kernel_rfl))); (case hlz49 => ((with_reducible refine lk_skip ?hne2z49 ?hrest2z49); (case hne2z49 => decide +kernel); (with_reducible exact lk_hit))); (case hdz49 => decide +kernel); (try dsimp only)))
  ((try dsimp only); ((with_reducible refine W_local (d := ?dz50) (by assumption) ?hkz50 ?hlz50 ?qz50 ?hdz50); (case hkz50 => (have hh := In.scope ‹In _ _ _›; exact kindE hh (by kernel_rfl))); (case hlz50 => ((with_reducible exact lk_hit))); (case hdz50 => decide +kernel); (try dsimp only)))
  refine sa_exc0 okY e1 (hKY ▸ kxs_msg _) fun d hd => ?_
  replace hd : hp₁ d = none := hd
  have had : a ≠ d := fun z => by rw [← z, e1] at hd; cases hd
  have ud : ∀ b o, σ.hp b = some o → b ≠ d := fun b o e z => by rw [← z, e3 b o e] at hd; cases hd
  have ua : ∀ b o, σ.hp b = some o → b ≠ a := fun b o e z => by rw [z, ha] at e; cases e
  generalize hcur : upd (upd hp₁ a (.exc CP (some d))) d (.dict [("msg", .str m)]) = hp₂
  have g1 : hp₂ a = some (.exc CP (some d)) := by rw [← hcur, upd_ne had, upd_self]
  have g2 : hp₂ d = some (.dict [("msg", .str m)]) := by rw [← hcur, upd_self]
  have g3 : ∀ b o, σ.hp b = some o → hp₂ b = some o := fun b o e => by rw [← hcur, upd_ne (ud b o e), upd_ne (ua b o e)]; exact e3 b o e
  clear hcur
  generalize hfs : ([("msg", .str m)] : List (Str × V)) = fs at g2
  have hfl : fs.length ≤ 1 := by rw [← hfs]; simp
  clear hfs
  dsimp only
  refine WAt_cons ?_
  ((try dsimp only); ((with_reducible refine WX_SetAttr (hs := ?hsz51) ?_); (case hsz51 => intro _; rfl)))
  ((try dsimp only); ((with_reducible refine W_local (d := ?dz52) (by assumption) ?hkz52 ?hlz52 ?qz52 ?hdz52); (case hkz52 => (have hh := In.scope ‹In _ _ _›; exact kindE hh (by kernel_rfl))); (case hlz52 => ((with_reducible refine lk_skip ?hne3z52 ?hrest3z52); (case hne3z52 => decide +kernel); (with_reducible refine lk_skip ?hne2z52 ?hrest2z52); (case hne2z52 => decide +kernel); (with_reducible exact lk_hit))); (case hdz52 => decide +kernel); (try dsimp only)))
  ((try dsimp only); ((with_reducible refine W_local (d := ?dz53) (by assumption) ?hkz53 ?hlz53 ?qz53 ?hdz53); (case hkz53 => (have hh := In.scope ‹In _ _ _›; exact kindE hh (by kernel_rfl))); (case hlz53 => ((with_reducible exact lk_hit))); (case hdz53 => decide +kernel); (try dsimp only)))
  have stp : ∀ (hp : Addr → Option HO) (o : HO), hp a = some (.exc CP (some d)) → (∀ b o, σ.hp b = some o → hp b = some o) → upd hp d o a = some (.exc CP (some d)) ∧ upd hp d o d = some o ∧ ∀ b o', σ.hp b = some o' → upd hp d o b = some o' := fun hp o h1 h3 =>
    ⟨by rw [upd_ne had]; exact h1, upd_self, fun b o' e => by rw [upd_ne (ud b o' e)]; exact h3 b o' e⟩
  refine sa_exc1 okY g1 g2 (hKY ▸ kxs_pattern _) (by omega) ?_
  obtain ⟨h1, h2, h3⟩ := stp _ (.dict (updF fs "pattern" (.str l))) g1 g3
  have hl2 := updF_length fs "pattern" (.str l)
  generalize updF fs "pattern" (.str l) = fs2 at h1 h2 h3 hl2 ⊢
  generalize upd hp₂ d (.dict fs2) = hp₃ at h1 h2 h3 ⊢
  clear g1 g2 g3
  dsimp only
  refine WAt_cons ?_
  ((try dsimp only); ((with_reducible refine WX_SetAttr (hs := ?hsz54) ?_); (case hsz54 => intro _; rfl)))
  ((try dsimp only); ((with_reducible refine W_local (d := ?dz55) (by assumption) ?hkz55 ?hlz55 ?qz55 ?hdz55); (case hkz55 => (have hh := In.scope ‹In _ _ _›; exact kindE hh (by kernel_rfl))); (case hlz55 => ((with_reducible refine lk_skip ?hne4z55 ?hrest4z55); (case hne4z55 => decide +kernel); (with_reducible refine lk_skip ?hne3z55 ?hrest3z55); (case hne3z55 => decide +kernel); (with_reducible refine lk_skip ?hne2z55 ?hrest2z55); (case hne2z55 => decide +kernel); (with_reducible exact lk_hit))); (case hdz55 => decide +kernel); (try dsimp only)))
  ((try dsimp only); ((with_reducible refine W_local (d := ?dz56) (by assumption) ?hkz56 ?hlz56 ?qz56 ?hdz56); (case hkz56 => (have hh := In.scope ‹In _ _ _›; exact kindE hh (by kernel_rfl))); (case hlz56 => ((with_reducible exact lk_hit))); (case hdz56 => decide +kernel); (try dsimp only)))
  refine sa_exc1 okY h1 h2 (hKY ▸ kxs_pos _) (by omega) ?_
  obtain ⟨i1, i2, i3⟩ := stp _ (.dict (updF fs2 "pos" (.int p))) h1 h3
  have hl3 := updF_length fs2 "pos" (.int p)
  generalize updF fs2 "pos" (.int p) = fs3 at i1 i2 i3 hl3 ⊢
  generalize upd hp₃ d (.dict fs3) = hp₄ at i1 i2 i3 ⊢
  clear h1 h2 h3
  dsimp only
  refine WAt_cons ?_
  ((try dsimp only); (with_reducible refine WX_If ?_))
  ((try dsimp only); (with_reducible refine WT_And2 ?_))
  ((try dsimp only); ((with_reducible refine WT_Compare (hm := ?hmz59) ?_); (case hmz59 => with_unfolding_all rfl)))
  ((try dsimp only); ((with_reducible refine W_local (d := ?dz60) (by assumption) ?hkz60 ?hlz60 ?qz60 ?hdz60); (case hkz60 => (have hh := In.scope ‹In _ _ _›; exact kindE hh (by kernel_rfl))); (case hlz60 => ((with_reducible refine lk_skip ?hne3z60 ?hrest3z60); (case hne3z60 => decide +kernel); (with_reducible refine lk_skip ?hne2z60 ?hrest2z60); (case hne2z60 => decide +kernel); (with_reducible exact lk_hit))); (case hdz60 => decide +kernel); (try dsimp only)))
  ((try dsimp only); ((with_reducible refine W_none ?_); (try dsimp only)))
  refine o_notnone trivial (t_bool ?_)
  rw [if_pos (by rfl)]
  ((try dsimp only); ((with_reducible refine WT_Compare (hm := ?hmz62) ?_); (case hmz62 => with_unfolding_all rfl)))
  ((try dsimp only); ((with_reducible refine W_local (d := ?dz63) (by assumption) ?hkz63 ?hlz63 ?qz63 ?hdz63); (case hkz63 => (have hh := In.scope ‹In _ _ _›; exact kindE hh (by kernel_rfl))); (case hlz63 => ((with_reducible refine lk_skip ?hne4z63 ?hrest4z63); (case hne4z63 => decide +kernel); (with_reducible refine lk_skip ?hne3z63 ?hrest3z63); (case hne3z63 => decide +kernel); (with_reducible refine lk_skip ?hne2z63 ?hrest2z63); (case hne2z63 => decide +kernel); (with_reducible exact lk_hit))); (case hdz63 => decide +kernel); (try dsimp only)))
  ((try dsimp only); ((with_reducible refine W_none ?_); (try dsimp only)))
  refine o_notnone trivial (t_bool ?_)
  rw [if_pos (by rfl)]
  ((try dsimp only); (with_reducible refine WXs_cons ?_))
  ((try dsimp only); (with_reducible refine WX_Assign (hs := ?hsz66) (by assumption) ?hkz66 ?_); (case hsz66 => intro _; rfl); (case hkz66 => (have hh := In.scope ‹In _ _ _›; exact kindE hh (by kernel_rfl))))
  ((try dsimp only); (with_reducible refine W_BinOp ?_))
  refine W_str rfl ?_
  refine W_Tuple ?_
  refine WA_cons ?_
  ((try dsimp only); ((with_reducible refine W_local (d := ?dz68) (by assumption) ?hkz68 ?hlz68 ?qz68 ?hdz68); (case hkz68 => (have hh := In.scope ‹In _ _ _›; exact kindE hh (by kernel_rfl))); (case hlz68 => ((with_reducible refine lk_skip ?hne2z68 ?hrest2z68); (case hne2z68 => decide +kernel); (with_reducible exact lk_hit))); (case hdz68 => decide +kernel); (try dsimp only)))
  refine WA_cons ?_
  ((try dsimp only); ((with_reducible refine W_local (d := ?dz69) (by assumption) ?hkz69 ?hlz69 ?qz69 ?hdz69); (case hkz69 => (have hh := In.scope ‹In _ _ _›; exact kindE hh (by kernel_rfl))); (case hlz69 => ((with_reducible refine lk_skip ?hne4z69 ?hrest4z69); (case hne4z69 => decide +kernel); (with_reducible refine lk_skip ?hne3z69 ?hrest3z69); (case hne3z69 => decide +kernel); (with_reducible refine lk_skip ?hne2z69 ?hrest2z69); (case hne2z69 => decide +kernel); (with_reducible exact lk_hit))); (case hdz69 => decide +kernel); (try dsimp only)))
  refine WA_nil ?_
  refine ⟨by simp, ?_⟩
  refine pct_posA rfl (by omega) (by omega) (by omega) fun y => ?_
  ((try dsimp only); (with_reducible refine WXs_cons ?_))
  ((try dsimp only); (with_reducible refine WX_If ?_))
  refine WT_value (he := by intro _ _; rfl) ?_
  refine W_Call (hplain := by intro _; rfl) okY ?_
  refine W_bi (v := .builtin "isinstance") okY hKY (by (have hh := In.scope ‹In _ _ _›; exact kindE hh (by kernel_rfl))) (b_isinst _) (by kernel_rfl) (by decide +kernel) (by decide +kernel) ?_
  refine ⟨_, rfl, keeps_builtin, ?_⟩
  refine WA_cons ?_
  ((try dsimp only); ((with_reducible refine W_local (d := ?dz73) (by assumption) ?hkz73 ?hlz73 ?qz73 ?hdz73); (case hkz73 => (have hh := In.scope ‹In _ _ _›; exact kindE hh (by kernel_rfl))); (case hlz73 => ((with_reducible refine lkp_skip ?hne4z73 ?hrest4z73); (case hne4z73 => decide +kernel); (with_reducible refine lk_skip ?hne3z73 ?hrest3z73); (case hne3z73 => decide +kernel); (with_reducible refine lk_skip ?hne2z73 ?hrest2z73); (case hne2z73 => decide +kernel); (with_reducible exact lk_hit))); (case hdz73 => decide +kernel); (try dsimp only)))
  refine WA_cons ?_
  refine W_bi (v := .type "str") okY hKY (by (have hh := In.scope ‹In _ _ _›; exact kindE hh (by kernel_rfl))) (b_str _) (by kernel_rfl) (by decide +kernel) (by decide +kernel) ?_
  refine WA_nil ?_
  refine c_isstr (t_bool ?_)
  rw [if_pos rfl]
  ((try dsimp only); (with_reducible refine WXs_cons ?_))
  ((try dsimp only); (with_reducible refine WX_Assign (hs := ?hsz76) (by assumption) ?hkz76 ?_); (case hsz76 => intro _; rfl); (case hkz76 => (have hh := In.scope ‹In _ _ _›; exact kindE hh (by kernel_rfl))))
  refine W_str s_nl ?_
  ((try dsimp only); ((with_reducible refine WXs_nil ?_); (try dsimp only)))
  ((try dsimp only); (with_reducible refine WXs_cons ?_))
  ((try dsimp only); ((with_reducible refine WX_SetAttr (hs := ?hsz79) ?_); (case hsz79 => intro _; rfl)))
  ((try dsimp only); (with_reducible refine W_BinOp ?_))
  refine W_Method (hbase := by intro _; rfl) (hfew := by intro _; rfl) (hline := by rfl) (hplain := by intro _; rfl) okY ?_
  ((try dsimp only); ((with_reducible refine W_local (d := ?dz81) (by assumption) ?hkz81 ?hlz81 ?qz81 ?hdz81); (case hkz81 => (have hh := In.scope ‹In _ _ _›; exact kindE hh (by kernel_rfl))); (case hlz81 => ((with_reducible refine lkp_skip ?hne5z81 ?hrest5z81); (case hne5z81 => decide +kernel); (with_reducible refine lkp_skip ?hne4z81 ?hrest4z81); (case hne4z81 => decide +kernel); (with_reducible refine lk_skip ?hne3z81 ?hrest3z81); (case hne3z81 => decide +kernel); (with_reducible refine lk_skip ?hne2z81 ?hrest2z81); (case hne2z81 => decide +kernel); (with_reducible exact lk_hit))); (case hdz81 => decide +kernel); (try dsimp only)))
  refine gm_str F.slot_str_count F.type_str_count ⟨keeps_builtin, ?_⟩
  refine WA_cons ?_
  ((try dsimp only); ((with_reducible refine W_local (d := ?dz82) (by assumption) ?hkz82 ?hlz82 ?qz82 ?hdz82); (case hkz82 => (have hh := In.scope ‹In _ _ _›; exact kindE hh (by kernel_rfl))); (case hlz82 => ((with_reducible exact lk_put_self))); (case hdz82 => decide +kernel); (try dsimp only)))
  refine WA_cons ?_
  ((try dsimp only); ((with_reducible refine W_int ?_); (try dsimp only)))
  refine WA_cons ?_
  ((try dsimp only); ((with_reducible refine W_local (d := ?dz84) (by assumption) ?hkz84 ?hlz84 ?qz84 ?hdz84); (case hkz84 => (have hh := In.scope ‹In _ _ _›; exact kindE hh (by kernel_rfl))); (case hlz84 => ((with_reducible refine lkp_skip ?hne6z84 ?hrest6z84); (case hne6z84 => decide +kernel); (with_reducible refine lkp_skip ?hne5z84 ?hrest5z84); (case hne5z84 => decide +kernel); (with_reducible refine lk_skip ?hne4z84 ?hrest4z84); (case hne4z84 => decide +kernel); (with_reducible refine lk_skip ?hne3z84 ?hrest3z84); (case hne3z84 => decide +kernel); (with_reducible refine lk_skip ?hne2z84 ?hrest2z84); (case hne2z84 => decide +kernel); (with_reducible exact lk_hit))); (case hdz84 => decide +kernel); (try dsimp only)))
  refine WA_nil ?_
  refine c_count4 (i := 0) fun c hc => ?_
  ((try dsimp only); ((with_reducible refine W_int ?_); (try dsimp only)))
  refine o_addi ?_
  ((try dsimp only); ((with_reducible refine W_local (d := ?dz86) (by assumption) ?hkz86 ?hlz86 ?qz86 ?hdz86); (case hkz86 => (have hh := In.scope ‹In _ _ _›; exact kindE hh (by kernel_rfl))); (case hlz86 => ((with_reducible refine lkp_skip ?hne3z86 ?hrest3z86); (case hne3z86 => decide +kernel); (with_reducible refine lkp_skip ?hne2z86 ?hrest2z86); (case hne2z86 => decide +kernel); (with_reducible exact lk_hit))); (case hdz86 => decide +kernel); (try dsimp only)))
  refine sa_exc1 okY i1 i2 (hKY ▸ kxs_lineno _) (by omega) ?_
  obtain ⟨j1, j2, j3⟩ := stp _ (.dict (updF fs3 "lineno" (.int (c + 1)))) i1 i3
  have hl4 := updF_length fs3 "lineno" (.int (c + 1))
  generalize hfs4 : updF fs3 "lineno" (.int (c + 1)) = fs4 at j1 j2 j3 hl4 ⊢
  generalize upd hp₄ d (.dict fs4) = hp₅ at j1 j2 j3 ⊢
  clear i1 i2 i3
  ((try dsimp only); (with_reducible refine WXs_cons ?_))
  ((try dsimp only); ((with_reducible refine WX_SetAttr (hs := ?hsz88) ?_); (case hsz88 => intro _; rfl)))
  ((try dsimp only); (with_reducible refine W_BinOp ?_))
  ((try dsimp only); ((with_reducible refine W_local (d := ?dz90) (by assumption) ?hkz90 ?hlz90 ?qz90 ?hdz90); (case hkz90 => (have hh := In.scope ‹In _ _ _›; exact kindE hh (by kernel_rfl))); (case hlz90 => ((with_reducible refine lkp_skip ?hne6z90 ?hrest6z90); (case hne6z90 => decide +kernel); (with_reducible refine lkp_skip ?hne5z90 ?hrest5z90); (case hne5z90 => decide +kernel); (with_reducible refine lk_skip ?hne4z90 ?hrest4z90); (case hne4z90 => decide +kernel); (with_reducible refine lk_skip ?hne3z90 ?hrest3z90); (case hne3z90 => decide +kernel); (with_reducible refine lk_skip ?hne2z90 ?hrest2z90); (case hne2z90 => decide +kernel); (with_reducible exact lk_hit))); (case hdz90 => decide +kernel); (try dsimp only)))
  refine W_Method (hbase := by intro _; rfl) (hfew := by intro _; rfl) (hline := by rfl) (hplain := by intro _; rfl) okY ?_
  ((try dsimp only); ((with_reducible refine W_local (d := ?dz91) (by assumption) ?hkz91 ?hlz91 ?qz91 ?hdz91); (case hkz91 => (have hh := In.scope ‹In _ _ _›; exact kindE hh (by kernel_rfl))); (case hlz91 => ((with_reducible refine lkp_skip ?hne5z91 ?hrest5z91); (case hne5z91 => decide +kernel); (with_reducible refine lkp_skip ?hne4z91 ?hrest4z91); (case hne4z91 => decide +kernel); (with_reducible refine lk_skip ?hne3z91 ?hrest3z91); (case hne3z91 => decide +kernel); (with_reducible refine lk_skip ?hne2z91 ?hrest2z91); (case hne2z91 => decide +kernel); (with_reducible exact lk_hit))); (case hdz91 => decide +kernel); (try dsimp only)))
  refine gm_str F.slot_str_rfind F.type_str_rfind ⟨keeps_builtin, ?_⟩
  refine WA_cons ?_
  ((try dsimp only); ((with_reducible refine W_local (d := ?dz92) (by assumption) ?hkz92 ?hlz92 ?qz92 ?hdz92); (case hkz92 => (have hh := In.scope ‹In _ _ _›; exact kindE hh (by kernel_rfl))); (case hlz92 => ((with_reducible exact lk_put_self))); (case hdz92 => decide +kernel); (try dsimp only)))
  refine WA_cons ?_
  ((try dsimp only); ((with_reducible refine W_int ?_); (try dsimp only)))
  refine WA_cons ?_
  ((try dsimp only); ((with_reducible refine W_local (d := ?dz94) (by assumption) ?hkz94 ?hlz94 ?qz94 ?hdz94); (case hkz94 => (have hh := In.scope ‹In _ _ _›; exact kindE hh (by kernel_rfl))); (case hlz94 => ((with_reducible refine lkp_skip ?hne6z94 ?hrest6z94); (case hne6z94 => decide +kernel); (with_reducible refine lkp_skip ?hne5z94 ?hrest5z94); (case hne5z94 => decide +kernel); (with_reducible refine lk_skip ?hne4z94 ?hrest4z94); (case hne4z94 => decide +kernel); (with_reducible refine lk_skip ?hne3z94 ?hrest3z94); (case hne3z94 => decide +kernel); (with_reducible refine lk_skip ?hne2z94 ?hrest2z94); (case hne2z94 => decide +kernel); (with_reducible exact lk_hit))); (case hdz94 => decide +kernel); (try dsimp only)))
  refine WA_nil ?_
  refine c_rfind4 (i := 0) (by decide) fun r r1 r2 => ?_
  refine o_subi ?_
  ((try dsimp only); ((with_reducible refine W_local (d := ?dz95) (by assumption) ?hkz95 ?hlz95 ?qz95 ?hdz95); (case hkz95 => (have hh := In.scope ‹In _ _ _›; exact kindE hh (by kernel_rfl))); (case hlz95 => ((with_reducible refine lkp_skip ?hne3z95 ?hrest3z95); (case hne3z95 => decide +kernel); (with_reducible refine lkp_skip ?hne2z95 ?hrest2z95); (case hne2z95 => decide +kernel); (with_reducible exact lk_hit))); (case hdz95 => decide +kernel); (try dsimp only)))
  refine sa_exc1 okY j1 j2 (hKY ▸ kxs_colno _) (by omega) ?_
  obtain ⟨k1', k2', k3'⟩ := stp _ (.dict (updF fs4 "colno" (.int (p - r)))) j1 j3
  generalize upd hp₅ d (.dict (updF fs4 "colno" (.int (p - r)))) = hp₆ at k1' k2' k3' ⊢
  clear j1 j2 j3
  ((try dsimp only); (with_reducible refine WXs_cons ?_))
  ((try dsimp only); (with_reducible refine WX_If ?_))
  ((try dsimp only); ((with_reducible refine WT_Compare (hm := ?hmz98) ?_); (case hmz98 => with_unfolding_all rfl)))
  ((try dsimp only); ((with_reducible refine W_local (d := ?dz99) (by assumption) ?hkz99 ?hlz99 ?qz99 ?hdz99); (case hkz99 => (have hh := In.scope ‹In _ _ _›; exact kindE hh (by kernel_rfl))); (case hlz99 => ((with_reducible exact lk_put_self))); (case hdz99 => decide +kernel); (try dsimp only)))
  ((try dsimp only); ((with_reducible refine W_local (d := ?dz100) (by assumption) ?hkz100 ?hlz100 ?qz100 ?hdz100); (case hkz100 => (have hh := In.scope ‹In _ _ _›; exact kindE hh (by kernel_rfl))); (case hlz100 => ((with_reducible refine lkp_skip ?hne5z100 ?hrest5z100); (case hne5z100 => decide +kernel); (with_reducible refine lkp_skip ?hne4z100 ?hrest4z100); (case hne4z100 => decide +kernel); (with_reducible refine lk_skip ?hne3z100 ?hrest3z100); (case hne3z100 => decide +kernel); (with_reducible refine lk_skip ?hne2z100 ?hrest2z100); (case hne2z100 => decide +kernel); (with_reducible exact lk_hit))); (case hdz100 => decide +kernel); (try dsimp only)))
  refine o_inno nn (t_bool ?_)
  have ksup : KSup Y 38 CP "self" :=
    { func := by rw [hE]; rfl
      fd := by rw [hKY]; exact ⟨_, _, _, _, _, rfl, rfl, rfl⟩
      code := by
        rw [hKY, hE, hI.prog, hP]
        exact ⟨37, _, _, _, _, _, _, by kernel_rfl, rfl, rfl, by kernel_rfl⟩
      top := by rw [hI.prog, hP]; kernel_rfl
      super := by (have hh := In.scope ‹In _ _ _›; exact kindE hh (by kernel_rfl))
      cls := by (have hh := In.scope ‹In _ _ _›; exact kindE hh (by kernel_rfl))
      cell := by
        rw [hKY, hE]
        exact ⟨25, _, _, _, by kernel_rfl, rfl⟩
      glob := by rw [hKY]; exact b_super _
      boot := by kernel_rfl
      sub := by rw [hKY]; kernel_rfl
      exc := by rw [hKY]; kernel_rfl
      opaq := by rw [hKY]; kernel_rfl
      selfLoc := by (have hh := In.scope ‹In _ _ _›; exact kindE hh (by kernel_rfl)) }
  rw [if_neg (by decide)]
  ((try dsimp only); ((with_reducible refine WXs_nil ?_); (try dsimp only)))
  ((try dsimp only); ((with_reducible refine WXs_nil ?_); (try dsimp only)))
  refine WAt_last (WAt_super (a := a) (dy := .str y) PySem.F.excBase_Exception okY hCY rfl ksup ?hs k1' ?hm (by (have hh := In.scope ‹In _ _ _›; exact kindE hh (by kernel_rfl))) (by decide +kernel) (by rfl) (fun _ => by rfl) ?_)
  case hs => ((with_reducible refine lkp_skip ?hne3z107 ?hrest3z107); (case hne3z107 => decide +kernel); (with_reducible refine lkp_skip ?hne2z107 ?hrest2z107); (case hne2z107 => decide +kernel); (with_reducible exact lk_hit))
  case hm => ((with_reducible refine lkp_skip ?hne2z108 ?hrest2z108); (case hne2z108 => decide +kernel); (with_reducible exact lk_put_self))
  exact hQ1 _ _ ⟨rfl, q a d _ ha k1' k3'⟩
end Mine
namespace Mine
open PySem PySem.W PySem.Calls PySem.Spec PyProof.Rows
noncomputable def tokFs (l : List Nat) (i : Nat) (d : V) : List (Str × V) := [("istext", .bool true), ("string", .str l), ("decoded_string", .str l), ("index", .int i), ("next", d)]
theorem tok_index (l : List Nat) (i : Nat) (d : V) : lk (tokFs l i d) "index" = some (.int i) := by kernel_rfl
theorem tok_next (l : List Nat) (i : Nat) (d : V) : lk (tokFs l i d) "next" = some d := by kernel_rfl
theorem tok_str (l : List Nat) (i : Nat) (d : V) : lk (tokFs l i d) "string" = some (.str l) := by kernel_rfl
theorem tok_dec (l : List Nat) (i : Nat) (d : V) : lk (tokFs l i d) "decoded_string" = some (.str l) := by kernel_rfl
theorem up_index (l : List Nat) (i j : Nat) (d : V) : updF (tokFs l i d) "index" (.int j) = tokFs l j d := by kernel_rfl
theorem up_next (l : List Nat) (i : Nat) (d e : V) : updF (tokFs l i d) "next" e = tokFs l i e := by kernel_rfl
theorem s_bs : (Str.ofString "\\").cps.toList = [92] := by decide +kernel
theorem match_ierr {X : Cx} : Match X (.type "IndexError") (.type "IndexError") true := match_builtin (by rw [isSubtype_type]; kernel_rfl) (by kernel_rfl) (by rw [isSubtype_type]; kernel_rfl)
structure Tk (hp : Addr → Option HO) (a dx : Addr) (l : List Nat) (i : Nat) (d : V) : Prop where
  inst : hp a = some (.inst CT dx)
  dict : hp dx = some (.dict (tokFs l i d))
  nn : 10 ∉ l
theorem c_next {pp : Params} {X : Cx} {n : Nat} {σ : S} {E : Value → S → Prop} {a dx : Addr} {l : List Nat} {i : Nat} {d : V} {Q : V → S → Prop} (ok : Ok X (n + 2)) (hK : X.K = KK pp) (hP : X.prog = PySem.Challenge.rw_ij0062_05.row.prog) (hc : X.ctx = none) (tk : Tk σ.hp a dx l i d) (hl : l.length ≤ 1000) (hi : i ≤ 1000)
    (q : match l[i]? with
      | none => Q .none { σ with hp := upd σ.hp dx (.dict (tokFs l i .none)) }
      | some c => if c = 92 then (match l[i + 1]? with
          | none => E (.ref CP) σ
          | some c2 => Q .none { σ with hp := upd σ.hp dx (.dict (tokFs l (i + 2) (.str [92, c2]))) })
        else Q .none { σ with hp := upd σ.hp dx (.dict (tokFs l (i + 1) (.str [c]))) }) : Call X (.ref 65) [.ref a] σ Q E := by
  refine Call.fn' (names := ["self"]) (loc0 := [("self", .ref a)]) (n := n + 1) ok hK (f_next _) (bind1 fun v _ => by kernel_rfl) (by kernel_rfl) (by decide +kernel) rfl rfl fun Y okY hI => ?_
  have hKY : Y.K = KK pp := hI.K.trans hK
  have hcY : Y.ctx = none := hI.ctx.trans hc
  obtain ⟨t1, t2, nn⟩ := tk
  have had : a ≠ dx := kd_ne t1 t2 rfl
  conv in bodyAt _ _ => whnf
  refine W.hide fun Q1 E1 hQ1 hE1 => ?_
  ((try dsimp only); (with_reducible refine WXs_cons ?_))
  ((try dsimp only); (with_reducible refine WX_Assign (hs := ?hsz144) (by assumption) ?hkz144 ?_); (case hsz144 => intro _; rfl); (case hkz144 => (have hh := In.scope ‹In _ _ _›; exact kindE hh (by kernel_rfl))))
  refine W_field (by assumption) ?_ (by decide +kernel) (by ((with_reducible exact lk_hit))) t1 t2 (hKY ▸ kg_index _) (tok_index _ _ _) (nl rfl) ?_
  · (have hh := In.scope ‹In _ _ _›; exact kindE hh (by kernel_rfl))
  dsimp only
  ((try dsimp only); (with_reducible refine WXs_cons ?_))
  refine WX_Try (n := n + 1) (c := .type "IndexError") okY hI.env (ht_bi okY hKY (by (have hh := In.scope ‹In _ _ _›; exact kindE hh (by kernel_rfl))) (b_ierr _) (by kernel_rfl) (by decide +kernel) (by decide +kernel)) ?_
  ((try dsimp only); (with_reducible refine WXs_cons ?_))
  ((try dsimp only); (with_reducible refine WX_Assign (hs := ?hsz150) (by assumption) ?hkz150 ?_); (case hsz150 => intro _; rfl); (case hkz150 => (have hh := In.scope ‹In _ _ _›; exact kindE hh (by kernel_rfl))))
  ((try dsimp only); (with_reducible refine W_Sub ?_))
  refine W_field (by assumption) ?_ (by decide +kernel) (by ((with_reducible refine lkp_skip ?hne2z152 ?hrest2z152); (case hne2z152 => decide +kernel); (with_reducible exact lk_hit))) t1 t2 (hKY ▸ kg_dec _) (tok_dec _ _ _) (nl rfl) ?_
  · (have hh := In.scope ‹In _ _ _›; exact kindE hh (by kernel_rfl))
  ((try dsimp only); ((with_reducible refine W_local (d := ?dz154) (by assumption) ?hkz154 ?hlz154 ?qz154 ?hdz154); (case hkz154 => (have hh := In.scope ‹In _ _ _›; exact kindE hh (by kernel_rfl))); (case hlz154 => ((with_reducible exact lk_put_self))); (case hdz154 => decide +kernel); (try dsimp only)))
  refine s_strItem (hs := by intro _ _ _ _; with_unfolding_all rfl) (ht := by intro _ _ _; with_unfolding_all rfl) okY hcY (by omega) (by omega) ?_
  cases hli : l[i]? with
  | none =>
    rw [hli] at q
    dsimp only at q ⊢
    refine ⟨true, match_ierr, ?_⟩
    rw [if_pos rfl]
    intro e okm
    ((try dsimp only); (with_reducible refine WXs_cons ?_))
    ((try dsimp only); ((with_reducible refine WX_SetAttr (hs := ?hsz156) ?_); (case hsz156 => intro _; rfl)))
    ((try dsimp only); ((with_reducible refine W_none ?_); (try dsimp only)))
    ((try dsimp only); ((with_reducible refine W_local (d := ?dz158) (by assumption) ?hkz158 ?hlz158 ?qz158 ?hdz158); (case hkz158 => (have hh := In.scope ‹In _ _ _›; exact kindE hh (by kernel_rfl))); (case hlz158 => ((with_reducible refine lkp_skip ?hne2z158 ?hrest2z158); (case hne2z158 => decide +kernel); (with_reducible exact lk_hit))); (case hdz158 => decide +kernel); (try dsimp only)))
    refine sa_inst okm t1 t2 (hKY ▸ ks_next _) (by show 5 ≤ 90; decide) ?_
    rw [up_next]
    ((try dsimp only); (with_reducible refine WXs_cons ?_))
    ((try dsimp only); ((with_reducible refine WX_Return0 ?_); (try dsimp only)))
    exact hQ1 _ _ q
  | some c =>
    rw [hli] at q
    dsimp only at q ⊢
    ((try dsimp only); ((with_reducible refine WXs_nil ?_); (try dsimp only)))
    ((try dsimp only); (with_reducible refine WXs_cons ?_))
    ((try dsimp only); (with_reducible refine WX_If ?_))
    ((try dsimp only); ((with_reducible refine WT_Compare (hm := ?hmz164) ?_); (case hmz164 => with_unfolding_all rfl)))
    ((try dsimp only); ((with_reducible refine W_local (d := ?dz165) (by assumption) ?hkz165 ?hlz165 ?qz165 ?hdz165); (case hkz165 => (have hh := In.scope ‹In _ _ _›; exact kindE hh (by kernel_rfl))); (case hlz165 => ((with_reducible exact lk_put_self))); (case hdz165 => decide +kernel); (try dsimp only)))
    refine W_str s_bs ?_
    refine o_eqs (t_bool ?_)
    by_cases h92 : c = 92
    · subst h92
      rw [if_pos rfl] at q
      rw [if_pos (show ([92] == [92]) = true from rfl)]
      ((try dsimp only); (with_reducible refine WXs_cons ?_))
      ((try dsimp only); (with_reducible refine WX_Aug (d := ?dz167) (by assumption) ?hkz167 ?hlz167 ?_); (case hkz167 => (have hh := In.scope ‹In _ _ _›; exact kindE hh (by kernel_rfl))); (case hlz167 => ((with_reducible refine lkp_skip ?hne2z167 ?hrest2z167); (case hne2z167 => decide +kernel); (with_reducible exact lk_put_self))))
      ((try dsimp only); ((with_reducible refine W_int ?_); (try dsimp only)))
      refine o_iaddi ?_
      ((try dsimp only); (with_reducible refine WXs_cons ?_))
      refine WX_Try (n := n + 1) (c := .type "IndexError") okY hI.env (ht_bi okY hKY (by (have hh := In.scope ‹In _ _ _›; exact kindE hh (by kernel_rfl))) (b_ierr _) (by kernel_rfl) (by decide +kernel) (by decide +kernel)) ?_
      ((try dsimp only); (with_reducible refine WXs_cons ?_))
      ((try dsimp only); (with_reducible refine WX_Aug (d := ?dz172) (by assumption) ?hkz172 ?hlz172 ?_); (case hkz172 => (have hh := In.scope ‹In _ _ _›; exact kindE hh (by kernel_rfl))); (case hlz172 => ((with_reducible refine lkp_skip ?hne2z172 ?hrest2z172); (case hne2z172 => decide +kernel); (with_reducible exact lk_put_self))))
      ((try dsimp only); (with_reducible refine W_Sub ?_))
      refine W_field (by assumption) ?_ (by decide +kernel) (by ((with_reducible refine lkp_skip ?hne4z174 ?hrest4z174); (case hne4z174 => decide +kernel); (with_reducible refine lkp_skip ?hne3z174 ?hrest3z174); (case hne3z174 => decide +kernel); (with_reducible refine lkp_skip ?hne2z174 ?hrest2z174); (case hne2z174 => decide +kernel); (with_reducible exact lk_hit))) t1 t2 (hKY ▸ kg_dec _) (tok_dec _ _ _) (nl rfl) ?_
      · (have hh := In.scope ‹In _ _ _›; exact kindE hh (by kernel_rfl))
      ((try dsimp only); ((with_reducible refine W_local (d := ?dz176) (by assumption) ?hkz176 ?hlz176 ?qz176 ?hdz176); (case hkz176 => (have hh := In.scope ‹In _ _ _›; exact kindE hh (by kernel_rfl))); (case hlz176 => ((with_reducible exact lk_put_self))); (case hdz176 => decide +kernel); (try dsimp only)))
      refine s_strItem (hs := by intro _ _ _ _; with_unfolding_all rfl) (ht := by intro _ _ _; with_unfolding_all rfl) (k := i + 1) okY hcY (by omega) (by omega) ?_
      cases hli2 : l[i + 1]? with
      | none =>
        rw [hli2] at q
        dsimp only at q ⊢
        refine ⟨true, match_ierr, ?_⟩
        rw [if_pos rfl]
        intro e okm
        ((try dsimp only); (with_reducible refine WXs_cons ?_))
        refine WX_RaiseFrom okm (fun p hp => by cases hp; rfl) ?_
        refine W_Call (hplain := by intro _; rfl) okm ?_
        refine W_gl okm hKY (by (have hh := In.scope ‹In _ _ _›; exact kindE hh (by kernel_rfl))) (g_err _) (by decide +kernel) ?_
        (try dsimp only)
        refine ⟨_, rfl, keeps_fn hKY (by kernel_rfl), ?_⟩
        refine WA_cons ?_
        refine W_str rfl ?_
        refine WA_cons ?_
        refine W_field (by assumption) ?_ (by decide +kernel) (by ((with_reducible refine lkp_skip ?hne4z179 ?hrest4z179); (case hne4z179 => decide +kernel); (with_reducible refine lkp_skip ?hne3z179 ?hrest3z179); (case hne3z179 => decide +kernel); (with_reducible refine lkp_skip ?hne2z179 ?hrest2z179); (case hne2z179 => decide +kernel); (with_reducible exact lk_hit))) t1 t2 (hKY ▸ kg_string _) (tok_str _ _ _) (nl rfl) ?_
        · (have hh := In.scope ‹In _ _ _›; exact kindE hh (by kernel_rfl))
        refine WA_cons ?_
        ((try dsimp only); (with_reducible refine W_BinOp ?_))
        refine W_Call (hplain := by intro _; rfl) okm ?_
        refine W_bi (v := .builtin "len") okm hKY (by (have hh := In.scope ‹In _ _ _›; exact kindE hh (by kernel_rfl))) (b_len _) (by kernel_rfl) (by decide +kernel) (by decide +kernel) ?_
        refine ⟨_, rfl, keeps_builtin, ?_⟩
        refine WA_cons ?_
        refine W_field (by assumption) ?_ (by decide +kernel) (by ((with_reducible refine lkp_skip ?hne4z183 ?hrest4z183); (case hne4z183 => decide +kernel); (with_reducible refine lkp_skip ?hne3z183 ?hrest3z183); (case hne3z183 => decide +kernel); (with_reducible refine lkp_skip ?hne2z183 ?hrest2z183); (case hne2z183 => decide +kernel); (with_reducible exact lk_hit))) t1 t2 (hKY ▸ kg_string _) (tok_str _ _ _) (nl rfl) ?_
        · (have hh := In.scope ‹In _ _ _›; exact kindE hh (by kernel_rfl))
        refine WA_nil ?_
        refine c_lens (by omega) ?_
        ((try dsimp only); ((with_reducible refine W_int ?_); (try dsimp only)))
        refine o_subi ?_
        refine WA_nil ?_
        have hlen : i < l.length := (List.getElem?_eq_some_iff.mp hli).1
        rw [show ((l.length : Int) - 1) = ((l.length - 1 : Nat) : Int) from by omega]
        refine c_err (n := n) okm hKY (hI.prog.trans hP) (by rw [show (Str.ofString "bad escape (end of pattern)").cps.toList.length = 27 from by decide +kernel]; omega) hl nn (by omega) fun ea de hp' h1 h2 h3 => ?_
        exact ⟨ea, CP, some de, σ.hp, rfl, h2, hKY ▸ kx_exc _, h3, h1, hE1 _ _ q⟩
      | some c2 =>
        rw [hli2] at q
        dsimp only at q ⊢
        refine o_iadds (by simp) ?_
        ((try dsimp only); ((with_reducible refine WXs_nil ?_); (try dsimp only)))
        ((try dsimp only); ((with_reducible refine WXs_nil ?_); (try dsimp only)))
        ((try dsimp only); (with_reducible refine WXs_cons ?_))
        ((try dsimp only); ((with_reducible refine WX_SetAttr (hs := ?hsz189) ?_); (case hsz189 => intro _; rfl)))
        ((try dsimp only); (with_reducible refine W_BinOp ?_))
        ((try dsimp only); ((with_reducible refine W_local (d := ?dz191) (by assumption) ?hkz191 ?hlz191 ?qz191 ?hdz191); (case hkz191 => (have hh := In.scope ‹In _ _ _›; exact kindE hh (by kernel_rfl))); (case hlz191 => ((with_reducible refine lkp_skip ?hne2z191 ?hrest2z191); (case hne2z191 => decide +kernel); (with_reducible exact lk_put_self))); (case hdz191 => decide +kernel); (try dsimp only)))
        ((try dsimp only); ((with_reducible refine W_int ?_); (try dsimp only)))
        refine o_addi ?_
        ((try dsimp only); ((with_reducible refine W_local (d := ?dz193) (by assumption) ?hkz193 ?hlz193 ?qz193 ?hdz193); (case hkz193 => (have hh := In.scope ‹In _ _ _›; exact kindE hh (by kernel_rfl))); (case hlz193 => ((with_reducible refine lkp_skip ?hne5z193 ?hrest5z193); (case hne5z193 => decide +kernel); (with_reducible refine lkp_skip ?hne4z193 ?hrest4z193); (case hne4z193 => decide +kernel); (with_reducible refine lkp_skip ?hne3z193 ?hrest3z193); (case hne3z193 => decide +kernel); (with_reducible refine lkp_skip ?hne2z193 ?hrest2z193); (case hne2z193 => decide +kernel); (with_reducible exact lk_hit))); (case hdz193 => decide +kernel); (try dsimp only)))
        refine sa_inst okY t1 t2 (hKY ▸ ks_index _) (by show 5 ≤ 90; decide) ?_
        rw [show ((i : Int) + 1 + 1) = ((i + 2 : Nat) : Int) from rfl, up_index]
        ((try dsimp only); (with_reducible refine WXs_cons ?_))
        ((try dsimp only); ((with_reducible refine WX_SetAttr (hs := ?hsz195) ?_); (case hsz195 => intro _; rfl)))
        ((try dsimp only); ((with_reducible refine W_local (d := ?dz196) (by assumption) ?hkz196 ?hlz196 ?qz196 ?hdz196); (case hkz196 => (have hh := In.scope ‹In _ _ _›; exact kindE hh (by kernel_rfl))); (case hlz196 => ((with_reducible exact lk_put_self))); (case hdz196 => decide +kernel); (try dsimp only)))
        ((try dsimp only); ((with_reducible refine W_local (d := ?dz197) (by assumption) ?hkz197 ?hlz197 ?qz197 ?hdz197); (case hkz197 => (have hh := In.scope ‹In _ _ _›; exact kindE hh (by kernel_rfl))); (case hlz197 => ((with_reducible refine lkp_skip ?hne5z197 ?hrest5z197); (case hne5z197 => decide +kernel); (with_reducible refine lkp_skip ?hne4z197 ?hrest4z197); (case hne4z197 => decide +kernel); (with_reducible refine lkp_skip ?hne3z197 ?hrest3z197); (case hne3z197 => decide +kernel); (with_reducible refine lkp_skip ?hne2z197 ?hrest2z197); (case hne2z197 => decide +kernel); (with_reducible exact lk_hit))); (case hdz197 => decide +kernel); (try dsimp only)))
        refine sa_inst okY (C := CT) (dx := dx) (fs := tokFs l (i + 2) d) ?_ upd_self (hKY ▸ ks_next _) (by show 5 ≤ 90; decide) ?_
        · show upd σ.hp dx _ a = _
          rw [upd_ne had]; exact t1
        rw [up_next, upd_upd]
        ((try dsimp only); ((with_reducible refine WXs_nil ?_); (try dsimp only)))
        exact hQ1 _ _ q
    · rw [if_neg h92] at q
      have : ([c] == [92]) = false := by simp [h92]
      rw [this, if_neg (by decide)]
      ((try dsimp only); ((with_reducible refine WXs_nil ?_); (try dsimp only)))
      ((try dsimp only); (with_reducible refine WXs_cons ?_))
      ((try dsimp only); ((with_reducible refine WX_SetAttr (hs := ?hsz201) ?_); (case hsz201 => intro _; rfl)))
      ((try dsimp only); (with_reducible refine W_BinOp ?_))
      ((try dsimp only); ((with_reducible refine W_local (d := ?dz203) (by assumption) ?hkz203 ?hlz203 ?qz203 ?hdz203); (case hkz203 => (have hh := In.scope ‹In _ _ _›; exact kindE hh (by kernel_rfl))); (case hlz203 => ((with_reducible refine lkp_skip ?hne2z203 ?hrest2z203); (case hne2z203 => decide +kernel); (with_reducible exact lk_put_self))); (case hdz203 => decide +kernel); (try dsimp only)))
      ((try dsimp only); ((with_reducible refine W_int ?_); (try dsimp only)))
      refine o_addi ?_
      ((try dsimp only); ((with_reducible refine W_local (d := ?dz205) (by assumption) ?hkz205 ?hlz205 ?qz205 ?hdz205); (case hkz205 => (have hh := In.scope ‹In _ _ _›; exact kindE hh (by kernel_rfl))); (case hlz205 => ((with_reducible refine lkp_skip ?hne3z205 ?hrest3z205); (case hne3z205 => decide +kernel); (with_reducible refine lkp_skip ?hne2z205 ?hrest2z205); (case hne2z205 => decide +kernel); (with_reducible exact lk_hit))); (case hdz205 => decide +kernel); (try dsimp only)))
      refine sa_inst okY t1 t2 (hKY ▸ ks_index _) (by show 5 ≤ 90; decide) ?_
      rw [show ((i : Int) + 1) = ((i + 1 : Nat) : Int) from rfl, up_index]
      ((try dsimp only); (with_reducible refine WXs_cons ?_))
      ((try dsimp only); ((with_reducible refine WX_SetAttr (hs := ?hsz207) ?_); (case hsz207 => intro _; rfl)))
      ((try dsimp only); ((with_reducible refine W_local (d := ?dz208) (by assumption) ?hkz208 ?hlz208 ?qz208 ?hdz208); (case hkz208 => (have hh := In.scope ‹In _ _ _›; exact kindE hh (by kernel_rfl))); (case hlz208 => ((with_reducible exact lk_put_self))); (case hdz208 => decide +kernel); (try dsimp only)))
      ((try dsimp only); ((with_reducible refine W_local (d := ?dz209) (by assumption) ?hkz209 ?hlz209 ?qz209 ?hdz209); (case hkz209 => (have hh := In.scope ‹In _ _ _›; exact kindE hh (by kernel_rfl))); (case hlz209 => ((with_reducible refine lkp_skip ?hne3z209 ?hrest3z209); (case hne3z209 => decide +kernel); (with_reducible refine lkp_skip ?hne2z209 ?hrest2z209); (case hne2z209 => decide +kernel); (with_reducible exact lk_hit))); (case hdz209 => decide +kernel); (try dsimp only)))
      refine sa_inst okY (C := CT) (dx := dx) (fs := tokFs l (i + 1) d) ?_ upd_self (hKY ▸ ks_next _) (by show 5 ≤ 90; decide) ?_
      · show upd σ.hp dx _ a = _
        rw [upd_ne had]; exact t1
      rw [up_next, upd_upd]
      ((try dsimp only); ((with_reducible refine WXs_nil ?_); (try dsimp only)))
      exact hQ1 _ _ q
end Mine
namespace Mine
open PySem PySem.W PySem.Calls PySem.Spec PyProof.Rows
noncomputable def sg (l : List Nat) (i : Nat) : Option (Nat × V) := match l[i]? with
  | none => some (i, .none)
  | some c => if c = 92 then (match l[i + 1]? with
      | none => none
      | some c2 => some (i + 2, .str [92, c2]))
    else some (i + 1, .str [c])
theorem c_next' {pp : Params} {X : Cx} {n : Nat} {σ : S} {E : Value → S → Prop} {a dx : Addr} {l : List Nat} {i : Nat} {d : V} {Q : V → S → Prop} (ok : Ok X (n + 2)) (hK : X.K = KK pp) (hP : X.prog = PySem.Challenge.rw_ij0062_05.row.prog) (hc : X.ctx = none) (tk : Tk σ.hp a dx l i d) (hl : l.length ≤ 1000) (hi : i ≤ 1000)
    (q : match sg l i with
      | none => E (.ref CP) σ
      | some (j, e) => Q .none { σ with hp := upd σ.hp dx (.dict (tokFs l j e)) }) : Call X (.ref 65) [.ref a] σ Q E := by
  refine c_next ok hK hP hc tk hl hi ?_
  unfold sg at q
  cases h : l[i]? with
  | none => rw [h] at q; exact q
  | some c =>
    rw [h] at q
    dsimp only at q ⊢
    split
    · rename_i hc
      rw [if_pos hc] at q
      cases h2 : l[i + 1]? with
      | none => rw [h2] at q; exact q
      | some c2 => rw [h2] at q; exact q
    · rename_i hc
      rw [if_neg hc] at q
      exact q
theorem Tk.upd {hp : Addr → Option HO} {a dx : Addr} {l : List Nat} {i : Nat} {d : V} (t : Tk hp a dx l i d) (j : Nat) (e : V) : Tk (Mine.upd hp dx (.dict (tokFs l j e))) a dx l j e := by
  obtain ⟨t1, t2, nn⟩ := t
  have had : a ≠ dx := kd_ne t1 t2 rfl
  exact ⟨(upd_ne had).trans t1, upd_self, nn⟩
theorem c_get {pp : Params} {X : Cx} {n : Nat} {σ : S} {E : Value → S → Prop} {a dx : Addr} {l : List Nat} {i : Nat} {d : V} {Q : V → S → Prop} (ok : Ok X (n + 3)) (hK : X.K = KK pp) (hP : X.prog = PySem.Challenge.rw_ij0062_05.row.prog) (hc : X.ctx = none) (tk : Tk σ.hp a dx l i d) (hd : ∀ w, d ≠ .lit w) (hl : l.length ≤ 1000) (hi : i ≤ 1000)
    (q : match sg l i with
      | none => E (.ref CP) σ
      | some (j, e) => Q d { σ with hp := upd σ.hp dx (.dict (tokFs l j e)) }) : Call X (.ref 79) [.ref a] σ Q E := by
  refine Call.fn' (names := ["self"]) (loc0 := [("self", .ref a)]) (n := n + 2) ok hK (f_get _) (bind1 fun v _ => by kernel_rfl) (by kernel_rfl) (by decide +kernel) rfl rfl fun Y okY hI => ?_
  have hKY : Y.K = KK pp := hI.K.trans hK
  have hcY : Y.ctx = none := hI.ctx.trans hc
  have hPY := hI.prog.trans hP
  have t1 := tk.inst
  have t2 := tk.dict
  conv in bodyAt _ _ => whnf
  ((try dsimp only); (with_reducible refine WXs_cons ?_))
  ((try dsimp only); (with_reducible refine WX_Assign (hs := ?hsz2) (by assumption) ?hkz2 ?_); (case hsz2 => intro _; rfl); (case hkz2 => (have hh := In.scope ‹In _ _ _›; exact kindE hh (by kernel_rfl))))
  refine W_field (by assumption) ?_ (by decide +kernel) (by ((with_reducible exact lk_hit))) t1 t2 (hKY ▸ kg_next _) (tok_next _ _ _) hd ?_
  · (have hh := In.scope ‹In _ _ _›; exact kindE hh (by kernel_rfl))
  ((try dsimp only); (with_reducible refine WXs_cons ?_))
  refine WX_Expr (hs := by intro _; rfl) okY ?_
  refine W_Method (hbase := by intro _; rfl) (hfew := by intro _; rfl) (hline := by rfl) (hplain := by intro _; rfl) okY ?_
  ((try dsimp only); ((with_reducible refine W_local (d := ?dz6) (by assumption) ?hkz6 ?hlz6 ?qz6 ?hdz6); (case hkz6 => (have hh := In.scope ‹In _ _ _›; exact kindE hh (by kernel_rfl))); (case hlz6 => ((with_reducible refine lkp_skip ?hne2z6 ?hrest2z6); (case hne2z6 => decide +kernel); (with_reducible exact lk_hit))); (case hdz6 => decide +kernel); (try dsimp only)))
  refine getm_inst okY t1 t2 (hKY ▸ km_next _) (by kernel_rfl) ⟨keeps_fn hKY (by kernel_rfl), ?_⟩
  refine WA_nil ?_
  refine c_next' (n := n) okY hKY hPY hcY tk hl hi ?_
  cases h : sg l i with
  | none => rw [h] at q; exact q
  | some je =>
    obtain ⟨j, e⟩ := je
    rw [h] at q
    dsimp only at q ⊢
    ((try dsimp only); (with_reducible refine WXs_cons ?_))
    ((try dsimp only); (with_reducible refine WX_Return ?_))
    ((try dsimp only); ((with_reducible refine W_local (d := ?dz9) (by assumption) ?hkz9 ?hlz9 ?qz9 ?hdz9); (case hkz9 => (have hh := In.scope ‹In _ _ _›; exact kindE hh (by kernel_rfl))); (case hlz9 => ((with_reducible exact lk_put_self))); (case hdz9 => decide +kernel); (try dsimp only)))
    exact q
theorem c_seek {pp : Params} {X : Cx} {n : Nat} {σ : S} {E : Value → S → Prop} {a dx : Addr} {l : List Nat} {i k : Nat} {d : V} {Q : V → S → Prop} (ok : Ok X (n + 3)) (hK : X.K = KK pp) (hP : X.prog = PySem.Challenge.rw_ij0062_05.row.prog) (hc : X.ctx = none) (tk : Tk σ.hp a dx l i d) (hl : l.length ≤ 1000) (hk : k ≤ 1000)
    (q : match sg l k with
      | none => E (.ref CP) { σ with hp := upd σ.hp dx (.dict (tokFs l k d)) }
      | some (j, e) => Q .none { σ with hp := upd σ.hp dx (.dict (tokFs l j e)) }) : Call X (.ref 115) [.ref a, .int k] σ Q E := by
  refine Call.fn' (names := ["self", "index"]) (loc0 := [("self", .ref a), ("index", .int k)]) (n := n + 2) ok hK (f_seek _) (bind2 fun v w _ => by kernel_rfl) (by kernel_rfl) (by decide +kernel) rfl rfl fun Y okY hI => ?_
  have hKY : Y.K = KK pp := hI.K.trans hK
  have hcY : Y.ctx = none := hI.ctx.trans hc
  have hPY := hI.prog.trans hP
  have t1 := tk.inst
  have t2 := tk.dict
  have tk' := tk.upd k d
  conv in bodyAt _ _ => whnf
  ((try dsimp only); (with_reducible refine WXs_cons ?_))
  ((try dsimp only); ((with_reducible refine WX_SetAttr (hs := ?hsz11) ?_); (case hsz11 => intro _; rfl)))
  ((try dsimp only); ((with_reducible refine W_local (d := ?dz12) (by assumption) ?hkz12 ?hlz12 ?qz12 ?hdz12); (case hkz12 => (have hh := In.scope ‹In _ _ _›; exact kindE hh (by kernel_rfl))); (case hlz12 => ((with_reducible refine lk_skip ?hne2z12 ?hrest2z12); (case hne2z12 => decide +kernel); (with_reducible exact lk_hit))); (case hdz12 => decide +kernel); (try dsimp only)))
  ((try dsimp only); ((with_reducible refine W_local (d := ?dz13) (by assumption) ?hkz13 ?hlz13 ?qz13 ?hdz13); (case hkz13 => (have hh := In.scope ‹In _ _ _›; exact kindE hh (by kernel_rfl))); (case hlz13 => ((with_reducible exact lk_hit))); (case hdz13 => decide +kernel); (try dsimp only)))
  refine sa_inst okY t1 t2 (hKY ▸ ks_index _) (by show 5 ≤ 90; decide) ?_
  rw [up_index]
  ((try dsimp only); (with_reducible refine WXs_cons ?_))
  refine WX_Expr (hs := by intro _; rfl) okY ?_
  refine W_Method (hbase := by intro _; rfl) (hfew := by intro _; rfl) (hline := by rfl) (hplain := by intro _; rfl) okY ?_
  ((try dsimp only); ((with_reducible refine W_local (d := ?dz15) (by assumption) ?hkz15 ?hlz15 ?qz15 ?hdz15); (case hkz15 => (have hh := In.scope ‹In _ _ _›; exact kindE hh (by kernel_rfl))); (case hlz15 => ((with_reducible exact lk_hit))); (case hdz15 => decide +kernel); (try dsimp only)))
  refine getm_inst okY tk'.inst tk'.dict (hKY ▸ km_next _) (by kernel_rfl) ⟨keeps_fn hKY (by kernel_rfl), ?_⟩
  refine WA_nil ?_
  refine c_next' (n := n) okY hKY hPY hcY tk' hl hk ?_
  cases h : sg l k with
  | none => rw [h] at q; exact q
  | some je =>
    obtain ⟨j, e⟩ := je
    rw [h] at q
    dsimp only at q ⊢
    ((try dsimp only); ((with_reducible refine WXs_nil ?_); (try dsimp only)))
    rw [upd_upd]
    exact q
theorem c_new {pp : Params} {X : Cx} {n : Nat} {σ : S} {E : Value → S → Prop} {l : List Nat} {Q : V → S → Prop} (ok : Ok X (n + 3)) (hK : X.K = KK pp) (hP : X.prog = PySem.Challenge.rw_ij0062_05.row.prog) (hc : X.ctx = none) (hl : l.length ≤ 1000) (nn : 10 ∉ l)
    (q : ∀ a dx hp', σ.hp a = none → σ.hp dx = none → (∀ b o, σ.hp b = some o → hp' b = some o) → match sg l 0 with
      | none => E (.ref CP) ⟨σ.loc, hp'⟩
      | some (j, e) => Tk hp' a dx l j e → Q (.ref a) ⟨σ.loc, hp'⟩) : Call X (.ref CT) [.str l] σ Q E := by
  refine Call.make' (names := ["self", "string"]) (loc0 := fun a => [("self", .ref a), ("string", .str l)]) (n := n + 2) ok hK (km_make _) (f_init _) (bind2 fun v w _ => by kernel_rfl) (by kernel_rfl) (by decide +kernel) rfl (fun _ => rfl) fun Y a dx okY hI ha hdx hne => ?_
  have hKY : Y.K = KK pp := hI.K.trans hK
  have hcY : Y.ctx = none := hI.ctx.trans hc
  have hPY := hI.prog.trans hP
  have stp : ∀ o : HO, upd (upd (upd σ.hp dx (.dict [])) a (.inst CT dx)) dx o a = some (.inst CT dx) ∧ upd (upd (upd σ.hp dx (.dict [])) a (.inst CT dx)) dx o dx = some o ∧ ∀ b o', σ.hp b = some o' → upd (upd (upd σ.hp dx (.dict [])) a (.inst CT dx)) dx o b = some o' := fun o =>
    ⟨by rw [upd_ne hne, upd_self], upd_self, fun b o' e => by
      rw [upd_ne (fun z => by rw [z, hdx] at e; cases e), upd_ne (fun z => by rw [z, ha] at e; cases e), upd_ne (fun z => by rw [z, hdx] at e; cases e)]; exact e⟩
  have t1 : upd (upd σ.hp dx (.dict [])) a (.inst CT dx) a = some (.inst CT dx) := upd_self
  have t2 : upd (upd σ.hp dx (.dict [])) a (.inst CT dx) dx = some (.dict []) := by rw [upd_ne hne.symm, upd_self]
  conv in bodyAt _ _ => whnf
  ((try dsimp only); (with_reducible refine WXs_cons ?_))
  ((try dsimp only); ((with_reducible refine WX_SetAttr (hs := ?hsz18) ?_); (case hsz18 => intro _; rfl)))
  refine W_Call (hplain := by intro _; rfl) okY ?_
  refine W_bi (v := .builtin "isinstance") okY hKY (by (have hh := In.scope ‹In _ _ _›; exact kindE hh (by kernel_rfl))) (b_isinst _) (by kernel_rfl) (by decide +kernel) (by decide +kernel) ?_
  refine ⟨_, rfl, keeps_builtin, ?_⟩
  refine WA_cons ?_
  ((try dsimp only); ((with_reducible refine W_local (d := ?dz20) (by assumption) ?hkz20 ?hlz20 ?qz20 ?hdz20); (case hkz20 => (have hh := In.scope ‹In _ _ _›; exact kindE hh (by kernel_rfl))); (case hlz20 => ((with_reducible refine lk_skip ?hne2z20 ?hrest2z20); (case hne2z20 => decide +kernel); (with_reducible exact lk_hit))); (case hdz20 => decide +kernel); (try dsimp only)))
  refine WA_cons ?_
  refine W_bi (v := .type "str") okY hKY (by (have hh := In.scope ‹In _ _ _›; exact kindE hh (by kernel_rfl))) (b_str _) (by kernel_rfl) (by decide +kernel) (by decide +kernel) ?_
  refine WA_nil ?_
  refine c_isstr ?_
  ((try dsimp only); ((with_reducible refine W_local (d := ?dz22) (by assumption) ?hkz22 ?hlz22 ?qz22 ?hdz22); (case hkz22 => (have hh := In.scope ‹In _ _ _›; exact kindE hh (by kernel_rfl))); (case hlz22 => ((with_reducible exact lk_hit))); (case hdz22 => decide +kernel); (try dsimp only)))
  refine sa_inst okY t1 t2 (hKY ▸ ks_istext _) (Nat.le_of_ble_eq_true (by kernel_rfl)) ?_
  ((try dsimp only); (with_reducible refine WXs_cons ?_))
  ((try dsimp only); ((with_reducible refine WX_SetAttr (hs := ?hsz24) ?_); (case hsz24 => intro _; rfl)))
  ((try dsimp only); ((with_reducible refine W_local (d := ?dz25) (by assumption) ?hkz25 ?hlz25 ?qz25 ?hdz25); (case hkz25 => (have hh := In.scope ‹In _ _ _›; exact kindE hh (by kernel_rfl))); (case hlz25 => ((with_reducible refine lk_skip ?hne2z25 ?hrest2z25); (case hne2z25 => decide +kernel); (with_reducible exact lk_hit))); (case hdz25 => decide +kernel); (try dsimp only)))
  ((try dsimp only); ((with_reducible refine W_local (d := ?dz26) (by assumption) ?hkz26 ?hlz26 ?qz26 ?hdz26); (case hkz26 => (have hh := In.scope ‹In _ _ _›; exact kindE hh (by kernel_rfl))); (case hlz26 => ((with_reducible exact lk_hit))); (case hdz26 => decide +kernel); (try dsimp only)))
  refine sa_inst okY (stp _).1 (stp _).2.1 (hKY ▸ ks_string _) (Nat.le_of_ble_eq_true (by kernel_rfl)) ?_
  rw [upd_upd]
  ((try dsimp only); (with_reducible refine WXs_cons ?_))
  ((try dsimp only); (with_reducible refine WX_If ?_))
  ((try dsimp only); (with_reducible refine WT_Not ?_))
  refine WT_value (he := by intro _ _; rfl) ?_
  refine W_field (d := .bool true) (by assumption) ?_ (by decide +kernel) (by ((with_reducible exact lk_hit))) (stp _).1 (stp _).2.1 (hKY ▸ kg_istext _) (by kernel_rfl) (nl rfl) (t_bool ?_)
  · (have hh := In.scope ‹In _ _ _›; exact kindE hh (by kernel_rfl))
  rw [if_neg (by decide)]
  ((try dsimp only); ((with_reducible refine WXs_nil ?_); (try dsimp only)))
  ((try dsimp only); (with_reducible refine WXs_cons ?_))
  ((try dsimp only); ((with_reducible refine WX_SetAttr (hs := ?hsz34) ?_); (case hsz34 => intro _; rfl)))
  ((try dsimp only); ((with_reducible refine W_local (d := ?dz35) (by assumption) ?hkz35 ?hlz35 ?qz35 ?hdz35); (case hkz35 => (have hh := In.scope ‹In _ _ _›; exact kindE hh (by kernel_rfl))); (case hlz35 => ((with_reducible refine lk_skip ?hne2z35 ?hrest2z35); (case hne2z35 => decide +kernel); (with_reducible exact lk_hit))); (case hdz35 => decide +kernel); (try dsimp only)))
  ((try dsimp only); ((with_reducible refine W_local (d := ?dz36) (by assumption) ?hkz36 ?hlz36 ?qz36 ?hdz36); (case hkz36 => (have hh := In.scope ‹In _ _ _›; exact kindE hh (by kernel_rfl))); (case hlz36 => ((with_reducible exact lk_hit))); (case hdz36 => decide +kernel); (try dsimp only)))
  refine sa_inst okY (stp _).1 (stp _).2.1 (hKY ▸ ks_dec _) (Nat.le_of_ble_eq_true (by kernel_rfl)) ?_
  rw [upd_upd]
  ((try dsimp only); (with_reducible refine WXs_cons ?_))
  ((try dsimp only); ((with_reducible refine WX_SetAttr (hs := ?hsz38) ?_); (case hsz38 => intro _; rfl)))
  ((try dsimp only); ((with_reducible refine W_int ?_); (try dsimp only)))
  ((try dsimp only); ((with_reducible refine W_local (d := ?dz40) (by assumption) ?hkz40 ?hlz40 ?qz40 ?hdz40); (case hkz40 => (have hh := In.scope ‹In _ _ _›; exact kindE hh (by kernel_rfl))); (case hlz40 => ((with_reducible exact lk_hit))); (case hdz40 => decide +kernel); (try dsimp only)))
  refine sa_inst okY (stp _).1 (stp _).2.1 (hKY ▸ ks_index _) (Nat.le_of_ble_eq_true (by kernel_rfl)) ?_
  rw [upd_upd]
  ((try dsimp only); (with_reducible refine WXs_cons ?_))
  ((try dsimp only); ((with_reducible refine WX_SetAttr (hs := ?hsz42) ?_); (case hsz42 => intro _; rfl)))
  ((try dsimp only); ((with_reducible refine W_none ?_); (try dsimp only)))
  ((try dsimp only); ((with_reducible refine W_local (d := ?dz44) (by assumption) ?hkz44 ?hlz44 ?qz44 ?hdz44); (case hkz44 => (have hh := In.scope ‹In _ _ _›; exact kindE hh (by kernel_rfl))); (case hlz44 => ((with_reducible exact lk_hit))); (case hdz44 => decide +kernel); (try dsimp only)))
  refine sa_inst okY (stp _).1 (stp _).2.1 (hKY ▸ ks_next _) (Nat.le_of_ble_eq_true (by kernel_rfl)) ?_
  rw [upd_upd]
  rw [show updF (updF (updF (updF (updF [] (Str.ofString "istext") (V.bool true)) (Str.ofString "string") (V.str l)) (Str.ofString "decoded_string") (V.str l)) (Str.ofString "index") (V.int 0)) (Str.ofString "next") V.none = tokFs l 0 .none from by kernel_rfl]
  have tk : Tk (upd (upd (upd σ.hp dx (.dict [])) a (.inst CT dx)) dx (.dict (tokFs l 0 .none))) a dx l 0 .none := ⟨(stp _).1, (stp _).2.1, nn⟩
  ((try dsimp only); (with_reducible refine WXs_cons ?_))
  refine WX_Expr (hs := by intro _; rfl) okY ?_
  refine W_Method (hbase := by intro _; rfl) (hfew := by intro _; rfl) (hline := by rfl) (hplain := by intro _; rfl) okY ?_
  ((try dsimp only); ((with_reducible refine W_local (d := ?dz46) (by assumption) ?hkz46 ?hlz46 ?qz46 ?hdz46); (case hkz46 => (have hh := In.scope ‹In _ _ _›; exact kindE hh (by kernel_rfl))); (case hlz46 => ((with_reducible exact lk_hit))); (case hdz46 => decide +kernel); (try dsimp only)))
  refine getm_inst okY tk.inst tk.dict (hKY ▸ km_next _) (by kernel_rfl) ⟨keeps_fn hKY (by kernel_rfl), ?_⟩
  refine WA_nil ?_
  refine c_next' (n := n) okY hKY hPY hcY tk hl (by omega) ?_
  cases h : sg l 0 with
  | none =>
    have q' := q a dx _ ha hdx (stp (.dict (tokFs l 0 .none))).2.2
    rw [h] at q'; exact q'
  | some je =>
    obtain ⟨j, e⟩ := je
    have q' := q a dx _ ha hdx (stp (.dict (tokFs l j e))).2.2
    rw [h] at q'
    dsimp only at q' ⊢
    ((try dsimp only); ((with_reducible refine WXs_nil ?_); (try dsimp only)))
    rw [upd_upd]
    exact ⟨rfl, q' ⟨(stp _).1, (stp _).2.1, nn⟩⟩
end Mine
namespace Mine
open PySem PySem.W PySem.Calls PySem.Spec PyProof.Rows
inductive Rd (l : List Nat) (i : Nat) (err : Bool) : V → List (List Nat) → Prop
  | nil : i ≤ l.length → l.length ≤ i → err = false → Rd l i err .none []
  | cons (s : List Nat) (S' : List (List Nat)) : i ≤ l.length → s ≠ [] → s.length ≤ 2 → rs (l.drop i) = (S', err) → Rd l i err (.str s) (s :: S')
theorem Rd.le {l : List Nat} {i : Nat} {err : Bool} {d : V} {S : List (List Nat)} (x : Rd l i err d S) : i ≤ l.length := by cases x <;> assumption
theorem Rd.lit {l : List Nat} {i : Nat} {err : Bool} {d : V} {S : List (List Nat)} (x : Rd l i err d S) : ∀ w, d ≠ .lit w := by cases x <;> (intro w e; cases e)
theorem sg_rs {l : List Nat} {i : Nat} (hi : i ≤ l.length) : match sg l i with
    | none => rs (l.drop i) = ([], true)
    | some (j, d) => Rd l j (rs (l.drop i)).2 d (rs (l.drop i)).1 := by
  unfold sg
  cases h : l[i]? with
  | none =>
    have hl : l.length ≤ i := List.getElem?_eq_none_iff.mp h
    have : l.drop i = [] := List.drop_eq_nil_of_le hl
    dsimp only
    rw [this]
    exact .nil hi hl rfl
  | some c =>
    obtain ⟨hlt, hc⟩ := List.getElem?_eq_some_iff.mp h
    have e1 : l.drop i = c :: l.drop (i + 1) := by rw [List.drop_eq_getElem_cons hlt, hc]
    dsimp only
    by_cases h92 : c = 92
    · subst h92
      rw [if_pos rfl]
      cases h2 : l[i + 1]? with
      | none =>
        have : l.drop (i + 1) = [] := List.drop_eq_nil_of_le (List.getElem?_eq_none_iff.mp h2)
        dsimp only
        rw [e1, this]; rfl
      | some c2 =>
        obtain ⟨hlt2, hc2⟩ := List.getElem?_eq_some_iff.mp h2
        have e2 : l.drop (i + 1) = c2 :: l.drop (i + 2) := by rw [List.drop_eq_getElem_cons hlt2, hc2]
        dsimp only
        rw [e1, e2, rs_esc]
        exact .cons _ _ (by omega) (by simp) (by simp) rfl
    · rw [if_neg h92]
      dsimp only
      rw [e1, rs_plain _ h92]
      exact .cons _ _ (by omega) (by simp) (by simp) rfl
theorem sg_cons {l : List Nat} {i : Nat} {err : Bool} {s : List Nat} {S' : List (List Nat)} (x : Rd l i err (.str s) (s :: S')) : match sg l i with
    | none => S' = [] ∧ err = true
    | some (j, d) => Rd l j err d S' := by
  cases x with
  | cons _ _ hi h1 h2 h3 =>
    have y := sg_rs hi
    rw [h3] at y
    cases h : sg l i with
    | none => rw [h] at y; simpa using y
    | some jd => rw [h] at y; exact y
theorem sg_nil {l : List Nat} {i : Nat} {err : Bool} (x : Rd l i err .none []) : sg l i = some (i, .none) := by
  cases x with
  | nil h1 h2 _ => unfold sg; rw [List.getElem?_eq_none_iff.mpr h2]
theorem s_e : (Str.ofString "").cps.toList = [] := by decide +kernel
noncomputable def npV (p : List Nat → Bool) : V → Bool
  | .str z => !p z
  | _ => true
noncomputable def nlen : V → Nat
  | .str s => s.length
  | _ => 0
theorem Rd.sgn {l : List Nat} {i : Nat} {err : Bool} {d : V} {S : List (List Nat)} (x : Rd l i err d S) : d = .none ∨ ∃ s, s ≠ [] ∧ s.length ≤ 2 ∧ d = .str s := by
  cases x with
  | nil => exact .inl rfl
  | cons s S' h1 h2 h3 h4 => exact .inr ⟨s, h2, h3, rfl⟩
theorem c_tell {pp : Params} {X : Cx} {n : Nat} {σ : S} {E : Value → S → Prop} {a dx : Addr} {l : List Nat} {i : Nat} {d : V} {Q : V → S → Prop} (ok : Ok X (n + 1)) (hK : X.K = KK pp) (tk : Tk σ.hp a dx l i d) (hd : d = .none ∨ ∃ s, s ≠ [] ∧ s.length ≤ 2 ∧ d = .str s)
    (q : Q (.int ((i : Int) - (nlen d : Nat))) σ) : Call X (.ref 108) [.ref a] σ Q E := by
  refine Call.fn' (names := ["self"]) (loc0 := [("self", .ref a)]) (n := n) ok hK (f_tell _) (bind1 fun v _ => by kernel_rfl) (by kernel_rfl) (by decide +kernel) rfl rfl fun Y okY hI => ?_
  have hKY : Y.K = KK pp := hI.K.trans hK
  obtain ⟨t1, t2, nn⟩ := tk
  conv in bodyAt _ _ => whnf
  refine W.hide fun Q1 E1 hQ1 hE1 => ?_
  ((try dsimp only); (with_reducible refine WXs_cons ?_))
  ((try dsimp only); (with_reducible refine WX_Return ?_))
  ((try dsimp only); (with_reducible refine W_BinOp ?_))
  refine W_field (by assumption) ?_ (by decide +kernel) (by ((with_reducible exact lk_hit))) t1 t2 (hKY ▸ kg_index _) (tok_index _ _ _) (nl rfl) ?_
  · (have hh := In.scope ‹In _ _ _›; exact kindE hh (by kernel_rfl))
  refine W_Call (hplain := by intro _; rfl) okY ?_
  refine W_bi (v := .builtin "len") okY hKY (by (have hh := In.scope ‹In _ _ _›; exact kindE hh (by kernel_rfl))) (b_len _) (by kernel_rfl) (by decide +kernel) (by decide +kernel) ?_
  refine ⟨_, rfl, keeps_builtin, ?_⟩
  refine WA_cons ?_
  refine W_Or ?_
  refine W_field (by assumption) ?_ (by decide +kernel) (by ((with_reducible exact lk_hit))) t1 t2 (hKY ▸ kg_next _) (tok_next _ _ _) ?_ ?_
  · (have hh := In.scope ‹In _ _ _›; exact kindE hh (by kernel_rfl))
  · rcases hd with rfl | ⟨s, _, _, rfl⟩ <;> (intro w e; cases e)
  rcases hd with rfl | ⟨s, h1, h2, rfl⟩
  · refine t_none ?_
    rw [if_neg (by decide)]
    refine W_str s_e ?_
    refine WA_nil ?_
    refine c_lens (by simp) ?_
    exact o_subi (hQ1 _ _ q)
  · refine t_str (by omega) ?_
    have hne : (!s.isEmpty) = true := by cases s with | nil => exact absurd rfl h1 | cons _ _ => rfl
    rw [hne, if_pos rfl]
    refine WA_nil ?_
    refine c_lens (by omega) ?_
    exact o_subi (hQ1 _ _ q)
end Mine
namespace Mine
open PySem PySem.W PySem.Calls PySem.Spec PyProof.Rows
theorem c_error {pp : Params} {X : Cx} {n : Nat} {σ : S} {E : Value → S → Prop} {a dx : Addr} {l m : List Nat} {i o : Nat} {d : V} {Q : V → S → Prop} (ok : Ok X (n + 2)) (hK : X.K = KK pp) (hP : X.prog = PySem.Challenge.rw_ij0062_05.row.prog) (tk : Tk σ.hp a dx l i d) (hd : d = .none ∨ ∃ s, s ≠ [] ∧ s.length ≤ 2 ∧ d = .str s) (hm : m.length ≤ 1000) (hl : l.length ≤ 1000) (hi : i ≤ 1000) (ho : nlen d + o ≤ i)
    (q : ∀ ea d' hp', σ.hp ea = none → hp' ea = some (.exc CP (some d')) → (∀ b o, σ.hp b = some o → hp' b = some o) → Q (.ref ea) ⟨σ.loc, hp'⟩) : Call X (.ref 123) [.ref a, .str m, .int o] σ Q E := by
  refine Call.fn' (names := ["self", "msg", "offset"]) (loc0 := [("self", .ref a), ("msg", .str m), ("offset", .int o)]) (n := n + 1) ok hK (f_error _) (bind3 fun u v w _ => by kernel_rfl) (by kernel_rfl) (by decide +kernel) rfl rfl fun Y okY hI => ?_
  have hKY : Y.K = KK pp := hI.K.trans hK
  have t1 := tk.inst
  have t2 := tk.dict
  conv in bodyAt _ _ => whnf
  refine W.hide fun Q1 E1 hQ1 hE1 => ?_
  ((try dsimp only); (with_reducible refine WXs_cons ?_))
  refine WX_If ?_
  refine WT_Not ?_
  refine WT_value (he := by intro _ _; rfl) ?_
  refine W_field (d := .bool true) (by assumption) ?_ (by decide +kernel) (by ((with_reducible exact lk_hit))) t1 t2 (hKY ▸ kg_istext _) (by kernel_rfl) (nl rfl) (t_bool ?_)
  · (have hh := In.scope ‹In _ _ _›; exact kindE hh (by kernel_rfl))
  rw [if_neg (by decide)]
  ((try dsimp only); ((with_reducible refine WXs_nil ?_); (try dsimp only)))
  ((try dsimp only); (with_reducible refine WXs_cons ?_))
  ((try dsimp only); (with_reducible refine WX_Return ?_))
  refine W_Call (hplain := by intro _; rfl) okY ?_
  refine W_gl okY hKY (by (have hh := In.scope ‹In _ _ _›; exact kindE hh (by kernel_rfl))) (g_err _) (by decide +kernel) ?_
  refine ⟨_, rfl, keeps_fn hKY (by kernel_rfl), ?_⟩
  refine WA_cons ?_
  ((try dsimp only); ((with_reducible refine W_local (d := ?dz124) (by assumption) ?hkz124 ?hlz124 ?qz124 ?hdz124); (case hkz124 => (have hh := In.scope ‹In _ _ _›; exact kindE hh (by kernel_rfl))); (case hlz124 => ((with_reducible refine lk_skip ?hne2z124 ?hrest2z124); (case hne2z124 => decide +kernel); (with_reducible exact lk_hit))); (case hdz124 => decide +kernel); (try dsimp only)))
  refine WA_cons ?_
  refine W_field (by assumption) ?_ (by decide +kernel) (by ((with_reducible exact lk_hit))) t1 t2 (hKY ▸ kg_string _) (tok_str _ _ _) (nl rfl) ?_
  · (have hh := In.scope ‹In _ _ _›; exact kindE hh (by kernel_rfl))
  refine WA_cons ?_
  ((try dsimp only); (with_reducible refine W_BinOp ?_))
  refine W_Method (hbase := by intro _; rfl) (hfew := by intro _; rfl) (hline := by rfl) (hplain := by intro _; rfl) okY ?_
  ((try dsimp only); ((with_reducible refine W_local (d := ?dz128) (by assumption) ?hkz128 ?hlz128 ?qz128 ?hdz128); (case hkz128 => (have hh := In.scope ‹In _ _ _›; exact kindE hh (by kernel_rfl))); (case hlz128 => ((with_reducible exact lk_hit))); (case hdz128 => decide +kernel); (try dsimp only)))
  refine getm_inst okY t1 t2 (hKY ▸ km_tell _) (by kernel_rfl) ⟨keeps_fn hKY (by kernel_rfl), ?_⟩
  refine WA_nil ?_
  refine c_tell (n := n) okY hKY tk hd ?_
  ((try dsimp only); ((with_reducible refine W_local (d := ?dz129) (by assumption) ?hkz129 ?hlz129 ?qz129 ?hdz129); (case hkz129 => (have hh := In.scope ‹In _ _ _›; exact kindE hh (by kernel_rfl))); (case hlz129 => ((with_reducible refine lk_skip ?hne3z129 ?hrest3z129); (case hne3z129 => decide +kernel); (with_reducible refine lk_skip ?hne2z129 ?hrest2z129); (case hne2z129 => decide +kernel); (with_reducible exact lk_hit))); (case hdz129 => decide +kernel); (try dsimp only)))
  refine o_subi ?_
  refine WA_nil ?_
  rw [show ((i : Int) - (nlen d : Nat) - (o : Nat)) = ((i - nlen d - o : Nat) : Int) from by omega]
  refine c_err (n := n) okY hKY (hI.prog.trans hP) hm hl tk.nn (by omega) fun ea de hp' h1 h2 h3 => ?_
  exact hQ1 _ _ (q ea de hp' h1 h2 h3)
theorem c_error0 {pp : Params} {X : Cx} {n : Nat} {σ : S} {E : Value → S → Prop} {a dx : Addr} {l m : List Nat} {i : Nat} {d : V} {Q : V → S → Prop} (ok : Ok X (n + 2)) (hK : X.K = KK pp) (hP : X.prog = PySem.Challenge.rw_ij0062_05.row.prog) (tk : Tk σ.hp a dx l i d) (hd : d = .none ∨ ∃ s, s ≠ [] ∧ s.length ≤ 2 ∧ d = .str s) (hm : m.length ≤ 1000) (hl : l.length ≤ 1000) (hi : i ≤ 1000) (ho : nlen d ≤ i)
    (q : ∀ ea d' hp', σ.hp ea = none → hp' ea = some (.exc CP (some d')) → (∀ b o, σ.hp b = some o → hp' b = some o) → Q (.ref ea) ⟨σ.loc, hp'⟩) : Call X (.ref 123) [.ref a, .str m] σ Q E := by
  refine Call.fnD (names := ["self", "msg"]) (x := "offset") (v0 := .int 0 330) (d0 := .int 0) (loc0 := [("self", .ref a), ("msg", .str m), ("offset", .int 0)]) (n := n + 1) ok hK (f_error _) (bind2 fun u v _ => by kernel_rfl) (by kernel_rfl) (by decide +kernel) rfl (fun _ _ => .int _ _) rfl fun Y okY hI => ?_
  have hKY : Y.K = KK pp := hI.K.trans hK
  have t1 := tk.inst
  have t2 := tk.dict
  conv in bodyAt _ _ => whnf
  refine W.hide fun Q1 E1 hQ1 hE1 => ?_
  ((try dsimp only); (with_reducible refine WXs_cons ?_))
  refine WX_If ?_
  refine WT_Not ?_
  refine WT_value (he := by intro _ _; rfl) ?_
  refine W_field (d := .bool true) (by assumption) ?_ (by decide +kernel) (by ((with_reducible exact lk_hit))) t1 t2 (hKY ▸ kg_istext _) (by kernel_rfl) (nl rfl) (t_bool ?_)
  · (have hh := In.scope ‹In _ _ _›; exact kindE hh (by kernel_rfl))
  rw [if_neg (by decide)]
  ((try dsimp only); ((with_reducible refine WXs_nil ?_); (try dsimp only)))
  ((try dsimp only); (with_reducible refine WXs_cons ?_))
  ((try dsimp only); (with_reducible refine WX_Return ?_))
  refine W_Call (hplain := by intro _; rfl) okY ?_
  refine W_gl okY hKY (by (have hh := In.scope ‹In _ _ _›; exact kindE hh (by kernel_rfl))) (g_err _) (by decide +kernel) ?_
  refine ⟨_, rfl, keeps_fn hKY (by kernel_rfl), ?_⟩
  refine WA_cons ?_
  ((try dsimp only); ((with_reducible refine W_local (d := ?dz137) (by assumption) ?hkz137 ?hlz137 ?qz137 ?hdz137); (case hkz137 => (have hh := In.scope ‹In _ _ _›; exact kindE hh (by kernel_rfl))); (case hlz137 => ((with_reducible refine lk_skip ?hne2z137 ?hrest2z137); (case hne2z137 => decide +kernel); (with_reducible exact lk_hit))); (case hdz137 => decide +kernel); (try dsimp only)))
  refine WA_cons ?_
  refine W_field (by assumption) ?_ (by decide +kernel) (by ((with_reducible exact lk_hit))) t1 t2 (hKY ▸ kg_string _) (tok_str _ _ _) (nl rfl) ?_
  · (have hh := In.scope ‹In _ _ _›; exact kindE hh (by kernel_rfl))
  refine WA_cons ?_
  ((try dsimp only); (with_reducible refine W_BinOp ?_))
  refine W_Method (hbase := by intro _; rfl) (hfew := by intro _; rfl) (hline := by rfl) (hplain := by intro _; rfl) okY ?_
  ((try dsimp only); ((with_reducible refine W_local (d := ?dz141) (by assumption) ?hkz141 ?hlz141 ?qz141 ?hdz141); (case hkz141 => (have hh := In.scope ‹In _ _ _›; exact kindE hh (by kernel_rfl))); (case hlz141 => ((with_reducible exact lk_hit))); (case hdz141 => decide +kernel); (try dsimp only)))
  refine getm_inst okY t1 t2 (hKY ▸ km_tell _) (by kernel_rfl) ⟨keeps_fn hKY (by kernel_rfl), ?_⟩
  refine WA_nil ?_
  refine c_tell (n := n) okY hKY tk hd ?_
  ((try dsimp only); ((with_reducible refine W_local (d := ?dz142) (by assumption) ?hkz142 ?hlz142 ?qz142 ?hdz142); (case hkz142 => (have hh := In.scope ‹In _ _ _›; exact kindE hh (by kernel_rfl))); (case hlz142 => ((with_reducible refine lk_skip ?hne3z142 ?hrest3z142); (case hne3z142 => decide +kernel); (with_reducible refine lk_skip ?hne2z142 ?hrest2z142); (case hne2z142 => decide +kernel); (with_reducible exact lk_hit))); (case hdz142 => decide +kernel); (try dsimp only)))
  refine o_subi ?_
  refine WA_nil ?_
  rw [show ((i : Int) - (nlen d : Nat) - 0) = ((i - nlen d : Nat) : Int) from by omega]
  refine c_err (n := n) okY hKY (hI.prog.trans hP) hm hl tk.nn (by omega) fun ea de hp' h1 h2 h3 => ?_
  exact hQ1 _ _ (q ea de hp' h1 h2 h3)
end Mine
namespace Mine
open PySem PySem.W PySem.Calls PySem.Spec PyProof.Rows
theorem Rd.posE {l : List Nat} {i : Nat} {err : Bool} {d : V} {S : List (List Nat)} (x : Rd l i err d S) : (i : Int) - (nlen d : Nat) = (l.length : Int) - S.flatten.length - (if err then 1 else 0) := by
  cases x with
  | nil h1 h2 h3 => simp [nlen, h3]; omega
  | cons s S' h1 h2 h3 h4 =>
    have h := rs_flat (l.drop i)
    rw [h4] at h
    have e := congrArg List.length h
    cases err
    · simp only [Bool.false_eq_true, if_false, List.append_nil, List.length_drop] at e ⊢
      simp only [nlen, List.flatten_cons, List.length_append]
      omega
    · simp only [if_true, List.length_append, List.length_drop, List.length_cons, List.length_nil] at e ⊢
      simp only [nlen, List.flatten_cons, List.length_append]
      omega
noncomputable def gu (t : List Nat) : List Nat → List (List Nat) → Bool → Option (List Nat × List (List Nat))
  | _, [], _ => none
  | res, s :: S, err => if S = [] ∧ err = true then none else if s = t then (if res = [] then none else some (res, S)) else gu t (res ++ s) S err
inductive UInv (t nm l : List Nat) (err : Bool) (SS : List (List Nat)) (hp : Addr → Option HO) (a dx : Addr) (k : Nat) (σ' : S) : Prop
  | mk (j : Nat) (dd : V) (S' : List (List Nat)) (res : List Nat) (e : k = S'.length) (rd : Rd l j err dd S') (eg : gu t res S' err = gu t [] SS err) (hf : (res.length : Int) + S'.flatten.length + (if err then 1 else 0) ≤ l.length) (eh : σ'.hp = upd hp dx (.dict (tokFs l j dd)))
    (et : lk σ'.loc "self" = some (.ref a)) (etm : lk σ'.loc "terminator" = some (.str t)) (en : lk σ'.loc "name" = some (.str nm)) (er : lk σ'.loc "result" = some (.str res))
theorem s_miss : (Str.ofString "missing ").cps.toList = [109, 105, 115, 115, 105, 110, 103, 32] := by decide +kernel
theorem c_gun {pp : Params} {X : Cx} {n : Nat} {σ : S} {E : Value → S → Prop} {a dx : Addr} {l t nm : List Nat} {i : Nat} {d : V} {err : Bool} {SS : List (List Nat)} {Q : V → S → Prop} (ok : Ok X (n + 3)) (hK : X.K = KK pp) (hP : X.prog = PySem.Challenge.rw_ij0062_05.row.prog) (hc : X.ctx = none) (tk : Tk σ.hp a dx l i d) (hl : l.length ≤ 1000) (rd : Rd l i err d SS) (ht : t.length ≤ 100) (hnm : nm.length ≤ 100) (hS : (SS.flatten.length : Int) + (if err then 1 else 0) ≤ l.length)
    (q : match gu t [] SS err with
      | none => ∀ j e, (∀ w, e ≠ .lit w) → E (.ref CP) { σ with hp := upd σ.hp dx (.dict (tokFs l j e)) }
      | some (r, S') => ∀ j e, Rd l j err e S' → Q (.str r) { σ with hp := upd σ.hp dx (.dict (tokFs l j e)) }) : Call X (.ref 93) [.ref a, .str t, .str nm] σ Q E := by
  refine Call.fn' (names := ["self", "terminator", "name"]) (loc0 := [("self", .ref a), ("terminator", .str t), ("name", .str nm)]) (n := n + 2) ok hK (f_gun _) (bind3 fun u v w _ => by kernel_rfl) (by kernel_rfl) (by decide +kernel) rfl rfl fun Y okY hI => ?_
  have hKY : Y.K = KK pp := hI.K.trans hK
  have hcY : Y.ctx = none := hI.ctx.trans hc
  have hPY := hI.prog.trans hP
  obtain ⟨t1, t2, nn⟩ := tk
  have had : a ≠ dx := kd_ne t1 t2 rfl
  conv in bodyAt _ _ => whnf
  refine W.hide fun Q1 E1 hQ1 hE1 => ?_
  ((try dsimp only); (with_reducible refine WXs_cons ?_))
  ((try dsimp only); (with_reducible refine WX_Assign (hs := ?hsz248) (by assumption) ?hkz248 ?_); (case hsz248 => intro _; rfl); (case hkz248 => (have hh := In.scope ‹In _ _ _›; exact kindE hh (by kernel_rfl))))
  refine W_str s_e ?_
  ((try dsimp only); (with_reducible refine WXs_cons ?_))
  refine WX_While okY hI.env (UInv t nm l err SS σ.hp a dx) (fun k σ' inv => ?_) SS.length ⟨i, d, SS, [], rfl, rd, rfl, by rw [List.length_nil, Int.natCast_zero, Int.zero_add]; exact hS, ?_, by ((with_reducible refine lkp_skip ?hne2z250 ?hrest2z250); (case hne2z250 => decide +kernel); (with_reducible exact lk_hit)), by ((with_reducible refine lkp_skip ?hne3z251 ?hrest3z251); (case hne3z251 => decide +kernel); (with_reducible refine lk_skip ?hne2z251 ?hrest2z251); (case hne2z251 => decide +kernel); (with_reducible exact lk_hit)), by ((with_reducible refine lkp_skip ?hne4z252 ?hrest4z252); (case hne4z252 => decide +kernel); (with_reducible refine lk_skip ?hne3z252 ?hrest3z252); (case hne3z252 => decide +kernel); (with_reducible refine lk_skip ?hne2z252 ?hrest2z252); (case hne2z252 => decide +kernel); (with_reducible exact lk_hit)), by ((with_reducible exact lk_put_self))⟩
  · obtain ⟨loc, hp⟩ := σ'
    obtain ⟨j, dd, S', res, rfl, rd', eg, hf, eh, et, etm, en, er⟩ := inv
    dsimp only at et etm en er eh
    have tk1 : Tk hp a dx l j dd := eh ▸ ⟨(upd_ne had).trans t1, upd_self, nn⟩
    have hjl := rd'.le
    have hpos := rd'.posE
    refine WT_value (he := by intro _ _; rfl) ?_
    ((try dsimp only); ((with_reducible refine W_bool ?_); (try dsimp only)))
    refine t_bool ?_
    rw [if_pos rfl]
    refine W.hideQ fun Q2 hQ2 => ?_
    ((try dsimp only); (with_reducible refine WXs_cons ?_))
    ((try dsimp only); (with_reducible refine WX_Assign (hs := ?hsz256) (by assumption) ?hkz256 ?_); (case hsz256 => intro _; rfl); (case hkz256 => (have hh := In.scope ‹In _ _ _›; exact kindE hh (by kernel_rfl))))
    refine W_field (by assumption) ?_ (by decide +kernel) (by ((with_reducible assumption))) tk1.inst tk1.dict (hKY ▸ kg_next _) (tok_next _ _ _) rd'.lit ?_
    · (have hh := In.scope ‹In _ _ _›; exact kindE hh (by kernel_rfl))
    ((try dsimp only); (with_reducible refine WXs_cons ?_))
    refine WX_Expr (hs := by intro _; rfl) okY ?_
    refine W_Method (hbase := by intro _; rfl) (hfew := by intro _; rfl) (hline := by rfl) (hplain := by intro _; rfl) okY ?_
    ((try dsimp only); ((with_reducible refine W_local (d := ?dz260) (by assumption) ?hkz260 ?hlz260 ?qz260 ?hdz260); (case hkz260 => (have hh := In.scope ‹In _ _ _›; exact kindE hh (by kernel_rfl))); (case hlz260 => ((with_reducible refine lkp_skip ?hne2z260 ?hrest2z260); (case hne2z260 => decide +kernel); (with_reducible assumption))); (case hdz260 => decide +kernel); (try dsimp only)))
    refine getm_inst okY tk1.inst tk1.dict (hKY ▸ km_next _) (by kernel_rfl) ⟨keeps_fn hKY (by kernel_rfl), ?_⟩
    refine WA_nil ?_
    refine c_next' (n := n) okY hKY hPY hcY tk1 hl (by omega) ?_
    have hctx : ∀ p, Y.ctx = some p → p.2 = true := fun p hp => by rw [hcY] at hp; cases hp
    have com : ∀ D, upd hp dx D = upd σ.hp dx D := fun D => by rw [eh, upd_upd]
    cases rd' with
    | nil h1 h2 h3 =>
      have rd' : Rd l j err .none [] := .nil h1 h2 h3
      rw [← eg, show gu t res [] err = none from by cases res <;> rfl] at q
      dsimp only at q
      rw [sg_nil rd']
      dsimp only
      have tk2 := tk1.upd j .none
      have qq := q j .none (nl rfl)
      rw [← com] at qq
      generalize upd hp dx (.dict (tokFs l j .none)) = hp2 at tk2 qq ⊢
      ((try dsimp only); (with_reducible refine WXs_cons ?_))
      ((try dsimp only); (with_reducible refine WX_If ?_))
      ((try dsimp only); ((with_reducible refine WT_Compare (hm := ?hmz263) ?_); (case hmz263 => with_unfolding_all rfl)))
      ((try dsimp only); ((with_reducible refine W_local (d := ?dz264) (by assumption) ?hkz264 ?hlz264 ?qz264 ?hdz264); (case hkz264 => (have hh := In.scope ‹In _ _ _›; exact kindE hh (by kernel_rfl))); (case hlz264 => ((with_reducible exact lk_put_self))); (case hdz264 => decide +kernel); (try dsimp only)))
      ((try dsimp only); ((with_reducible refine W_none ?_); (try dsimp only)))
      refine o_isnone trivial (t_bool ?_)
      rw [if_pos (by rfl)]
      ((try dsimp only); (with_reducible refine WXs_cons ?_))
      refine WX_If ?_
      refine WT_Not ?_
      refine WT_value (he := by intro _ _; rfl) ?_
      ((try dsimp only); ((with_reducible refine W_local (d := ?dz267) (by assumption) ?hkz267 ?hlz267 ?qz267 ?hdz267); (case hkz267 => (have hh := In.scope ‹In _ _ _›; exact kindE hh (by kernel_rfl))); (case hlz267 => ((with_reducible refine lkp_skip ?hne2z267 ?hrest2z267); (case hne2z267 => decide +kernel); (with_reducible assumption))); (case hdz267 => decide +kernel); (try dsimp only)))
      refine t_str (by omega) ?_
      by_cases hr : res = []
      · rw [if_pos (by rw [hr]; rfl)]
        ((try dsimp only); (with_reducible refine WXs_cons ?_))
        refine WX_Raise okY hctx ?_
        refine W_Method (hbase := by intro _; rfl) (hfew := by intro _; rfl) (hline := by rfl) (hplain := by intro _; rfl) okY ?_
        ((try dsimp only); ((with_reducible refine W_local (d := ?dz269) (by assumption) ?hkz269 ?hlz269 ?qz269 ?hdz269); (case hkz269 => (have hh := In.scope ‹In _ _ _›; exact kindE hh (by kernel_rfl))); (case hlz269 => ((with_reducible refine lkp_skip ?hne2z269 ?hrest2z269); (case hne2z269 => decide +kernel); (with_reducible assumption))); (case hdz269 => decide +kernel); (try dsimp only)))
        refine getm_inst okY tk2.inst tk2.dict (hKY ▸ km_error _) (by kernel_rfl) ⟨keeps_fn hKY (by kernel_rfl), ?_⟩
        refine WA_cons ?_
        ((try dsimp only); (with_reducible refine W_BinOp ?_))
        refine W_str s_miss ?_
        ((try dsimp only); ((with_reducible refine W_local (d := ?dz271) (by assumption) ?hkz271 ?hlz271 ?qz271 ?hdz271); (case hkz271 => (have hh := In.scope ‹In _ _ _›; exact kindE hh (by kernel_rfl))); (case hlz271 => ((with_reducible refine lkp_skip ?hne2z271 ?hrest2z271); (case hne2z271 => decide +kernel); (with_reducible assumption))); (case hdz271 => decide +kernel); (try dsimp only)))
        refine o_adds (by simp; omega) ?_
        refine WA_nil ?_
        refine c_error0 (n := n) okY hKY hPY tk2 (.inl rfl) (by simp; omega) hl (by omega) (by simp [nlen]) fun ea d' hp' u1 u2 u3 => ?_
        exact ⟨ea, CP, some d', hp2, rfl, u2, hKY ▸ kx_exc _, u3, u1, hE1 _ _ qq⟩
      · rw [if_neg (by simpa using hr)]
        ((try dsimp only); ((with_reducible refine WXs_nil ?_); (try dsimp only)))
        ((try dsimp only); (with_reducible refine WXs_cons ?_))
        refine WX_Raise okY hctx ?_
        refine W_Method (hbase := by intro _; rfl) (hfew := by intro _; rfl) (hline := by rfl) (hplain := by intro _; rfl) okY ?_
        ((try dsimp only); ((with_reducible refine W_local (d := ?dz274) (by assumption) ?hkz274 ?hlz274 ?qz274 ?hdz274); (case hkz274 => (have hh := In.scope ‹In _ _ _›; exact kindE hh (by kernel_rfl))); (case hlz274 => ((with_reducible refine lkp_skip ?hne2z274 ?hrest2z274); (case hne2z274 => decide +kernel); (with_reducible assumption))); (case hdz274 => decide +kernel); (try dsimp only)))
        refine getm_inst okY tk2.inst tk2.dict (hKY ▸ km_error _) (by kernel_rfl) ⟨keeps_fn hKY (by kernel_rfl), ?_⟩
        refine WA_cons ?_
        ((try dsimp only); (with_reducible refine W_BinOp ?_))
        refine W_str rfl ?_
        ((try dsimp only); ((with_reducible refine W_local (d := ?dz276) (by assumption) ?hkz276 ?hlz276 ?qz276 ?hdz276); (case hkz276 => (have hh := In.scope ‹In _ _ _›; exact kindE hh (by kernel_rfl))); (case hlz276 => ((with_reducible refine lkp_skip ?hne2z276 ?hrest2z276); (case hne2z276 => decide +kernel); (with_reducible assumption))); (case hdz276 => decide +kernel); (try dsimp only)))
        refine pct_name rfl (by omega) fun y hy => ?_
        refine WA_cons ?_
        refine W_Call (hplain := by intro _; rfl) okY ?_
        refine W_bi (v := .builtin "len") okY hKY (by (have hh := In.scope ‹In _ _ _›; exact kindE hh (by kernel_rfl))) (b_len _) (by kernel_rfl) (by decide +kernel) (by decide +kernel) ?_
        refine ⟨_, rfl, keeps_builtin, ?_⟩
        refine WA_cons ?_
        ((try dsimp only); ((with_reducible refine W_local (d := ?dz278) (by assumption) ?hkz278 ?hlz278 ?qz278 ?hdz278); (case hkz278 => (have hh := In.scope ‹In _ _ _›; exact kindE hh (by kernel_rfl))); (case hlz278 => ((with_reducible refine lkp_skip ?hne2z278 ?hrest2z278); (case hne2z278 => decide +kernel); (with_reducible assumption))); (case hdz278 => decide +kernel); (try dsimp only)))
        refine WA_nil ?_
        refine c_lens (by omega) ?_
        refine WA_nil ?_
        refine c_error (n := n) (o := res.length) okY hKY hPY tk2 (.inl rfl) (by omega) hl (by omega) (by simp only [nlen]; omega) fun ea d' hp' u1 u2 u3 => ?_
        exact ⟨ea, CP, some d', hp2, rfl, u2, hKY ▸ kx_exc _, u3, u1, hE1 _ _ qq⟩
    | cons s S'' h1 h2 h3 h4 =>
      have rd' : Rd l j err (.str s) (s :: S'') := .cons s S'' h1 h2 h3 h4
      have hsg := sg_cons rd'
      have hlen : 0 < s.length := List.length_pos_iff.mpr h2
      rw [List.flatten_cons, List.length_append] at hf hpos
      cases hs : sg l j with
      | none =>
        rw [hs] at hsg
        rw [← eg, show gu t res (s :: S'') err = none from by unfold gu; rw [if_pos hsg]] at q
        dsimp only at q ⊢
        have qq := q j (.str s) (nl rfl)
        rw [← eh] at qq
        exact hE1 _ _ qq
      | some je =>
        obtain ⟨j1, d1⟩ := je
        rw [hs] at hsg
        dsimp only at hsg ⊢
        have hns : ¬ (S'' = [] ∧ err = true) := fun h => by
          obtain ⟨rfl, rfl⟩ := h
          cases hsg
          simp_all
        have hp1 := hsg.posE
        have tk2 := tk1.upd j1 d1
        have eh2 := com (.dict (tokFs l j1 d1))
        generalize upd hp dx (.dict (tokFs l j1 d1)) = hp2 at tk2 eh2 ⊢
        ((try dsimp only); (with_reducible refine WXs_cons ?_))
        ((try dsimp only); (with_reducible refine WX_If ?_))
        ((try dsimp only); ((with_reducible refine WT_Compare (hm := ?hmz281) ?_); (case hmz281 => with_unfolding_all rfl)))
        ((try dsimp only); ((with_reducible refine W_local (d := ?dz282) (by assumption) ?hkz282 ?hlz282 ?qz282 ?hdz282); (case hkz282 => (have hh := In.scope ‹In _ _ _›; exact kindE hh (by kernel_rfl))); (case hlz282 => ((with_reducible exact lk_put_self))); (case hdz282 => decide +kernel); (try dsimp only)))
        ((try dsimp only); ((with_reducible refine W_none ?_); (try dsimp only)))
        refine o_isnone trivial (t_bool ?_)
        rw [if_neg (by simp [isN])]
        ((try dsimp only); ((with_reducible refine WXs_nil ?_); (try dsimp only)))
        ((try dsimp only); (with_reducible refine WXs_cons ?_))
        ((try dsimp only); (with_reducible refine WX_If ?_))
        ((try dsimp only); ((with_reducible refine WT_Compare (hm := ?hmz287) ?_); (case hmz287 => with_unfolding_all rfl)))
        ((try dsimp only); ((with_reducible refine W_local (d := ?dz288) (by assumption) ?hkz288 ?hlz288 ?qz288 ?hdz288); (case hkz288 => (have hh := In.scope ‹In _ _ _›; exact kindE hh (by kernel_rfl))); (case hlz288 => ((with_reducible exact lk_put_self))); (case hdz288 => decide +kernel); (try dsimp only)))
        ((try dsimp only); ((with_reducible refine W_local (d := ?dz289) (by assumption) ?hkz289 ?hlz289 ?qz289 ?hdz289); (case hkz289 => (have hh := In.scope ‹In _ _ _›; exact kindE hh (by kernel_rfl))); (case hlz289 => ((with_reducible refine lkp_skip ?hne2z289 ?hrest2z289); (case hne2z289 => decide +kernel); (with_reducible assumption))); (case hdz289 => decide +kernel); (try dsimp only)))
        refine o_eqs (t_bool ?_)
        by_cases hst : s = t
        · rw [if_pos (by simpa using hst)]
          have hgu : gu t res (s :: S'') err = (if res = [] then none else some (res, S'')) := by
            conv => lhs; unfold gu
            rw [if_neg hns, if_pos hst]
          rw [← eg, hgu] at q
          ((try dsimp only); (with_reducible refine WXs_cons ?_))
          refine WX_If ?_
          refine WT_Not ?_
          refine WT_value (he := by intro _ _; rfl) ?_
          ((try dsimp only); ((with_reducible refine W_local (d := ?dz291) (by assumption) ?hkz291 ?hlz291 ?qz291 ?hdz291); (case hkz291 => (have hh := In.scope ‹In _ _ _›; exact kindE hh (by kernel_rfl))); (case hlz291 => ((with_reducible refine lkp_skip ?hne2z291 ?hrest2z291); (case hne2z291 => decide +kernel); (with_reducible assumption))); (case hdz291 => decide +kernel); (try dsimp only)))
          refine t_str (by omega) ?_
          by_cases hr : res = []
          · rw [if_pos (by rw [hr]; rfl)]
            rw [if_pos hr] at q
            have qq := q j1 d1 hsg.lit
            rw [← eh2] at qq
            ((try dsimp only); (with_reducible refine WXs_cons ?_))
            refine WX_Raise okY hctx ?_
            refine W_Method (hbase := by intro _; rfl) (hfew := by intro _; rfl) (hline := by rfl) (hplain := by intro _; rfl) okY ?_
            ((try dsimp only); ((with_reducible refine W_local (d := ?dz293) (by assumption) ?hkz293 ?hlz293 ?qz293 ?hdz293); (case hkz293 => (have hh := In.scope ‹In _ _ _›; exact kindE hh (by kernel_rfl))); (case hlz293 => ((with_reducible refine lkp_skip ?hne2z293 ?hrest2z293); (case hne2z293 => decide +kernel); (with_reducible assumption))); (case hdz293 => decide +kernel); (try dsimp only)))
            refine getm_inst okY tk2.inst tk2.dict (hKY ▸ km_error _) (by kernel_rfl) ⟨keeps_fn hKY (by kernel_rfl), ?_⟩
            refine WA_cons ?_
            ((try dsimp only); (with_reducible refine W_BinOp ?_))
            refine W_str s_miss ?_
            ((try dsimp only); ((with_reducible refine W_local (d := ?dz295) (by assumption) ?hkz295 ?hlz295 ?qz295 ?hdz295); (case hkz295 => (have hh := In.scope ‹In _ _ _›; exact kindE hh (by kernel_rfl))); (case hlz295 => ((with_reducible refine lkp_skip ?hne2z295 ?hrest2z295); (case hne2z295 => decide +kernel); (with_reducible assumption))); (case hdz295 => decide +kernel); (try dsimp only)))
            refine o_adds (by simp; omega) ?_
            refine WA_cons ?_
            ((try dsimp only); ((with_reducible refine W_int ?_); (try dsimp only)))
            refine WA_nil ?_
            have hjl1 := hsg.le
            refine c_error (n := n) (o := 1) okY hKY hPY tk2 hsg.sgn (by simp; omega) hl (by omega) (by omega) fun ea d' hp' u1 u2 u3 => ?_
            exact ⟨ea, CP, some d', hp2, rfl, u2, hKY ▸ kx_exc _, u3, u1, hE1 _ _ qq⟩
          · rw [if_neg (by simpa using hr)]
            rw [if_neg hr] at q
            have qq := q j1 d1 hsg
            rw [← eh2] at qq
            ((try dsimp only); ((with_reducible refine WXs_nil ?_); (try dsimp only)))
            ((try dsimp only); (with_reducible refine WXs_cons ?_))
            refine WX_Break ?_
            refine hQ2 _ _ ?_
            ((try dsimp only); (with_reducible refine WXs_cons ?_))
            ((try dsimp only); (with_reducible refine WX_Return ?_))
            ((try dsimp only); ((with_reducible refine W_local (d := ?dz301) (by assumption) ?hkz301 ?hlz301 ?qz301 ?hdz301); (case hkz301 => (have hh := In.scope ‹In _ _ _›; exact kindE hh (by kernel_rfl))); (case hlz301 => ((with_reducible refine lkp_skip ?hne2z301 ?hrest2z301); (case hne2z301 => decide +kernel); (with_reducible assumption))); (case hdz301 => decide +kernel); (try dsimp only)))
            exact hQ1 _ _ qq
        · rw [if_neg (by simpa using hst)]
          ((try dsimp only); ((with_reducible refine WXs_nil ?_); (try dsimp only)))
          ((try dsimp only); (with_reducible refine WXs_cons ?_))
          ((try dsimp only); (with_reducible refine WX_Aug (d := ?dz304) (by assumption) ?hkz304 ?hlz304 ?_); (case hkz304 => (have hh := In.scope ‹In _ _ _›; exact kindE hh (by kernel_rfl))); (case hlz304 => ((with_reducible refine lkp_skip ?hne2z304 ?hrest2z304); (case hne2z304 => decide +kernel); (with_reducible assumption))))
          ((try dsimp only); ((with_reducible refine W_local (d := ?dz305) (by assumption) ?hkz305 ?hlz305 ?qz305 ?hdz305); (case hkz305 => (have hh := In.scope ‹In _ _ _›; exact kindE hh (by kernel_rfl))); (case hlz305 => ((with_reducible exact lk_put_self))); (case hdz305 => decide +kernel); (try dsimp only)))
          refine o_iadds (by omega) ?_
          ((try dsimp only); ((with_reducible refine WXs_nil ?_); (try dsimp only)))
          refine hQ2 _ _ ⟨S''.length, by simp, j1, d1, S'', res ++ s, rfl, hsg, ?_, by rw [List.length_append]; omega, eh2, by ((with_reducible refine lkp_skip ?hne3z307 ?hrest3z307); (case hne3z307 => decide +kernel); (with_reducible refine lkp_skip ?hne2z307 ?hrest2z307); (case hne2z307 => decide +kernel); (with_reducible assumption)), by ((with_reducible refine lkp_skip ?hne3z308 ?hrest3z308); (case hne3z308 => decide +kernel); (with_reducible refine lkp_skip ?hne2z308 ?hrest2z308); (case hne2z308 => decide +kernel); (with_reducible assumption)), by ((with_reducible refine lkp_skip ?hne3z309 ?hrest3z309); (case hne3z309 => decide +kernel); (with_reducible refine lkp_skip ?hne2z309 ?hrest2z309); (case hne2z309 => decide +kernel); (with_reducible assumption)), by ((with_reducible exact lk_put_self))⟩
          rw [← eg]
          conv => rhs; unfold gu
          rw [if_neg hns, if_neg hst]
  · exact (upd_same t2).symm
end Mine
namespace Mine
open PySem PySem.W PySem.Calls PySem.Spec PyProof.Rows
noncomputable def gwe (p : List Nat → Bool) : Nat → List (List Nat) → Bool → Bool
  | 0, _, _ => false
  | _ + 1, [], _ => false
  | n + 1, s :: S, err => if p s then (if S = [] ∧ err = true then true else gwe p n S err) else false
inductive GInv (err : Bool) (p : List Nat → Bool) (C : V → Prop) (N : Nat) (l : List Nat) (SS : List (List Nat)) (hp : Addr → Option HO) (a dx : Addr) (cs : V) (i : Nat) (σ' : S) : Prop
  | mk (j : Nat) (dd : V) (S' acc : List (List Nat)) (rd : Rd l j err dd S') (e0 : gwe p (N - i) S' err = gwe p N SS err) (e1 : acc ++ (gw p (N - i) S').1 = (gw p N SS).1) (e2 : (gw p (N - i) S').2 = (gw p N SS).2) (hs : ∀ s ∈ S'.take (N - i), C (.str s)) (hn : S'.length < N - i → C .none) (hf : acc.flatten.length + S'.flatten.length ≤ 1002)
    (eh : σ'.hp = upd hp dx (.dict (tokFs l j dd))) (et : lk σ'.loc "self" = some (.ref a)) (ec : lk σ'.loc "charset" = some cs) (er : lk σ'.loc "result" = some (.str acc.flatten))
inductive GFin (err : Bool) (p : List Nat → Bool) (N : Nat) (l : List Nat) (SS : List (List Nat)) (hp : Addr → Option HO) (dx : Addr) (σ' : S) : Prop
  | mk (j : Nat) (dd : V) (ef : gwe p N SS err = false) (rd : Rd l j err dd (gw p N SS).2) (eh : σ'.hp = upd hp dx (.dict (tokFs l j dd))) (er : lk σ'.loc "result" = some (.str (gw p N SS).1.flatten))
theorem c_gwh {pp : Params} {X : Cx} {n : Nat} {σ : S} {E : Value → S → Prop} {a dx : Addr} {l : List Nat} {i N : Nat} {d cs : V} {err : Bool} {SS : List (List Nat)} {p : List Nat → Bool} {C : V → Prop} {Q : V → S → Prop} (ok : Ok X (n + 3)) (hK : X.K = KK pp) (hP : X.prog = PySem.Challenge.rw_ij0062_05.row.prog) (hc : X.ctx = none) (tk : Tk σ.hp a dx l i d) (hl : l.length ≤ 1000) (rd : Rd l i err d SS) (hN : N ≤ 1000) (hS : SS.flatten.length ≤ 1002)
    (hs : ∀ s ∈ SS.take N, C (.str s)) (hn : SS.length < N → C .none) (hcs : ∀ {Y : Cx} {σ' : S} {d' : V} {Q' : V → S → Prop} {E' : Value → S → Prop}, Ok Y 0 → C d' → Q' (.bool (npV p d')) σ' → Op2 Y (compareOp .NotIn) d' cs σ' Q' E')
    (qe : gwe p N SS err = true → ∀ j e, (∀ w, e ≠ .lit w) → E (.ref CP) { σ with hp := upd σ.hp dx (.dict (tokFs l j e)) })
    (q : gwe p N SS err = false → ∀ j dd, Rd l j err dd (gw p N SS).2 → Q (.str (gw p N SS).1.flatten) { σ with hp := upd σ.hp dx (.dict (tokFs l j dd)) }) : Call X (.ref 86) [.ref a, .int N, cs] σ Q E := by
  refine Call.fn' (names := ["self", "n", "charset"]) (loc0 := [("self", .ref a), ("n", .int N), ("charset", cs)]) (n := n + 2) ok hK (f_gwh _) (bind3 fun u v w _ => by kernel_rfl) (by kernel_rfl) (by decide +kernel) rfl rfl fun Y okY hI => ?_
  have hKY : Y.K = KK pp := hI.K.trans hK
  have hcY : Y.ctx = none := hI.ctx.trans hc
  have hPY := hI.prog.trans hP
  obtain ⟨t1, t2, nn⟩ := tk
  have had : a ≠ dx := kd_ne t1 t2 rfl
  conv in bodyAt _ _ => whnf
  refine W.hide fun Q1 E1 hQ1 hE1 => ?_
  ((try dsimp only); (with_reducible refine WXs_cons ?_))
  ((try dsimp only); (with_reducible refine WX_Assign (hs := ?hsz212) (by assumption) ?hkz212 ?_); (case hsz212 => intro _; rfl); (case hkz212 => (have hh := In.scope ‹In _ _ _›; exact kindE hh (by kernel_rfl))))
  refine W_str s_e ?_
  ((try dsimp only); (with_reducible refine WXs_cons ?_))
  refine W.hideQ fun QF hQF => ?_
  have ret : ∀ σ', GFin err p N l SS σ.hp dx σ' → QF .next σ' := fun σ' g => by
    obtain ⟨loc, hp⟩ := σ'
    obtain ⟨j, dd, ef, rd, eh, er⟩ := g
    dsimp only at eh er
    subst eh
    refine hQF _ _ ?_
    ((try dsimp only); (with_reducible refine WXs_cons ?_))
    ((try dsimp only); (with_reducible refine WX_Return ?_))
    ((try dsimp only); ((with_reducible refine W_local (d := ?dz216) (by assumption) ?hkz216 ?hlz216 ?qz216 ?hdz216); (case hkz216 => (have hh := In.scope ‹In _ _ _›; exact kindE hh (by kernel_rfl))); (case hlz216 => ((with_reducible assumption))); (case hdz216 => decide +kernel); (try dsimp only)))
    exact hQ1 _ _ (q ef j dd rd)
  refine WX_For (hs := by intro _ _; rfl) okY hcY hI.env (by (have hh := In.scope ‹In _ _ _›; exact kindE hh (by kernel_rfl))) (GInv err p C N l SS σ.hp a dx cs) ?_
  refine wit_range1 okY (KB.of hKY (by (have hh := In.scope ‹In _ _ _›; exact kindE hh (by kernel_rfl))) (b_range _) (by kernel_rfl)) (fun _ => rfl) ?_
  refine WA_cons ?_
  ((try dsimp only); ((with_reducible refine W_local (d := ?dz219) (by assumption) ?hkz219 ?hlz219 ?qz219 ?hdz219); (case hkz219 => (have hh := In.scope ‹In _ _ _›; exact kindE hh (by kernel_rfl))); (case hlz219 => ((with_reducible refine lkp_skip ?hne3z219 ?hrest3z219); (case hne3z219 => decide +kernel); (with_reducible refine lk_skip ?hne2z219 ?hrest2z219); (case hne2z219 => decide +kernel); (with_reducible exact lk_hit))); (case hdz219 => decide +kernel); (try dsimp only)))
  refine WA_nil ⟨N, rfl, by omega, ⟨i, d, SS, [], rd, rfl, rfl, rfl, hs, hn, by simpa using hS, by rw [upd_same t2], by ((with_reducible refine lkp_skip ?hne2z220 ?hrest2z220); (case hne2z220 => decide +kernel); (with_reducible exact lk_hit)), by ((with_reducible refine lkp_skip ?hne4z221 ?hrest4z221); (case hne4z221 => decide +kernel); (with_reducible refine lk_skip ?hne3z221 ?hrest3z221); (case hne3z221 => decide +kernel); (with_reducible refine lk_skip ?hne2z221 ?hrest2z221); (case hne2z221 => decide +kernel); (with_reducible exact lk_hit)), by show lk _ _ = some (.str []); ((with_reducible exact lk_put_self))⟩, fun k σ' wr hk inv okw => ?_, fun σ' inv => ?_⟩
  · obtain ⟨loc, hp⟩ := σ'
    obtain ⟨j, dd, S', acc, rd', e0, e1, e2, hs', hn', hf, eh, et, ec, er⟩ := inv
    dsimp only at et ec er eh
    have tk' : Tk hp a dx l j dd := eh ▸ ⟨(upd_ne had).trans t1, upd_self, nn⟩
    have hup : ∀ o, upd hp dx o = upd σ.hp dx o := fun o => by rw [eh, upd_upd]
    have hjl := rd'.le
    rw [show N - k = (N - (k + 1)) + 1 from by omega] at e0 e1 e2 hn' hs'
    have fin : ∀ loc', lk loc' "result" = some (.str acc.flatten) → (gw p (N - (k + 1) + 1) S') = ([], S') → gwe p (N - (k + 1) + 1) S' err = false → GFin err p N l SS σ.hp dx ⟨loc', hp⟩ := fun loc' h1 h2 h3 => by
      rw [h2] at e1 e2
      refine ⟨j, dd, by rw [← e0]; exact h3, by rw [← e2]; exact rd', eh, ?_⟩
      rw [← e1]; simpa using h1
    refine W.hideQ fun Q2 hQ2 => ?_
    ((try dsimp only); (with_reducible refine WXs_cons ?_))
    ((try dsimp only); (with_reducible refine WX_Assign (hs := ?hsz224) (by assumption) ?hkz224 ?_); (case hsz224 => intro _; rfl); (case hkz224 => (have hh := In.scope ‹In _ _ _›; exact kindE hh (by kernel_rfl))))
    refine W_field (by assumption) ?_ (by decide +kernel) (by ((with_reducible refine lkp_skip ?hne2z225 ?hrest2z225); (case hne2z225 => decide +kernel); (with_reducible assumption))) tk'.inst tk'.dict (hKY ▸ kg_next _) (tok_next _ _ _) rd'.lit ?_
    · (have hh := In.scope ‹In _ _ _›; exact kindE hh (by kernel_rfl))
    ((try dsimp only); (with_reducible refine WXs_cons ?_))
    ((try dsimp only); (with_reducible refine WX_If ?_))
    ((try dsimp only); ((with_reducible refine WT_Compare (hm := ?hmz229) ?_); (case hmz229 => with_unfolding_all rfl)))
    ((try dsimp only); ((with_reducible refine W_local (d := ?dz230) (by assumption) ?hkz230 ?hlz230 ?qz230 ?hdz230); (case hkz230 => (have hh := In.scope ‹In _ _ _›; exact kindE hh (by kernel_rfl))); (case hlz230 => ((with_reducible exact lk_put_self))); (case hdz230 => decide +kernel); (try dsimp only)))
    ((try dsimp only); ((with_reducible refine W_local (d := ?dz231) (by assumption) ?hkz231 ?hlz231 ?qz231 ?hdz231); (case hkz231 => (have hh := In.scope ‹In _ _ _›; exact kindE hh (by kernel_rfl))); (case hlz231 => ((with_reducible refine lkp_skip ?hne3z231 ?hrest3z231); (case hne3z231 => decide +kernel); (with_reducible refine lkp_skip ?hne2z231 ?hrest2z231); (case hne2z231 => decide +kernel); (with_reducible assumption))); (case hdz231 => decide +kernel); (try dsimp only)))
    have ok0 : Ok (Y.watch wr) 0 := ⟨okw.inK, okw.top, okw.frames, okw.frame, okw.eframe, okw.kind, okw.genv, okw.benv, okw.above, okw.locProt, okw.handled, okw.ctxIn, by have := okw.depth; omega, by have := okw.units; omega⟩
    cases rd' with
    | nil h1 h2 h3 =>
      refine hcs ok0 (hn' (by simp)) (t_bool ?_)
      rw [if_pos (show npV p .none = true from rfl)]
      ((try dsimp only); (with_reducible refine WXs_cons ?_))
      refine WX_Break ?_
      exact hQ2 _ _ (ret _ (fin _ (by ((with_reducible refine lkp_skip ?hne3z233 ?hrest3z233); (case hne3z233 => decide +kernel); (with_reducible refine lkp_skip ?hne2z233 ?hrest2z233); (case hne2z233 => decide +kernel); (with_reducible assumption))) rfl rfl))
    | cons s S'' h1 h2 h3 h4 =>
      refine hcs ok0 (hs' s (by simp)) (t_bool ?_)
      by_cases hps : p s = true
      · rw [if_neg (by show ¬ (!p s) = true; rw [hps]; decide)]
        simp only [List.flatten_cons, List.length_append] at hf
        ((try dsimp only); ((with_reducible refine WXs_nil ?_); (try dsimp only)))
        ((try dsimp only); (with_reducible refine WXs_cons ?_))
        ((try dsimp only); (with_reducible refine WX_Aug (d := ?dz236) (by assumption) ?hkz236 ?hlz236 ?_); (case hkz236 => (have hh := In.scope ‹In _ _ _›; exact kindE hh (by kernel_rfl))); (case hlz236 => ((with_reducible refine lkp_skip ?hne3z236 ?hrest3z236); (case hne3z236 => decide +kernel); (with_reducible refine lkp_skip ?hne2z236 ?hrest2z236); (case hne2z236 => decide +kernel); (with_reducible assumption))))
        ((try dsimp only); ((with_reducible refine W_local (d := ?dz237) (by assumption) ?hkz237 ?hlz237 ?qz237 ?hdz237); (case hkz237 => (have hh := In.scope ‹In _ _ _›; exact kindE hh (by kernel_rfl))); (case hlz237 => ((with_reducible exact lk_put_self))); (case hdz237 => decide +kernel); (try dsimp only)))
        refine o_iadds (by omega) ?_
        ((try dsimp only); (with_reducible refine WXs_cons ?_))
        refine WX_Expr (hs := by intro _; rfl) okw ?_
        refine W_Method (hbase := by intro _; rfl) (hfew := by intro _; rfl) (hline := by rfl) (hplain := by intro _; rfl) okw ?_
        ((try dsimp only); ((with_reducible refine W_local (d := ?dz239) (by assumption) ?hkz239 ?hlz239 ?qz239 ?hdz239); (case hkz239 => (have hh := In.scope ‹In _ _ _›; exact kindE hh (by kernel_rfl))); (case hlz239 => ((with_reducible refine lkp_skip ?hne4z239 ?hrest4z239); (case hne4z239 => decide +kernel); (with_reducible refine lkp_skip ?hne3z239 ?hrest3z239); (case hne3z239 => decide +kernel); (with_reducible refine lkp_skip ?hne2z239 ?hrest2z239); (case hne2z239 => decide +kernel); (with_reducible assumption))); (case hdz239 => decide +kernel); (try dsimp only)))
        refine getm_inst okw tk'.inst tk'.dict (hKY ▸ km_next _) (by kernel_rfl) ⟨keeps_fn hKY (by kernel_rfl), ?_⟩
        refine WA_nil ?_
        refine c_next' (n := n) okw hKY hPY hcY tk' hl (by omega) ?_
        have hsg := sg_cons (.cons s S'' h1 h2 h3 h4 : Rd l j err (.str s) (s :: S''))
        cases hq : sg l j with
        | none =>
          rw [hq] at hsg
          have qq := qe (by rw [← e0, gwe, if_pos hps, if_pos hsg]) j (.str s) (nl rfl)
          rw [← eh] at qq
          exact hE1 _ _ qq
        | some je =>
          obtain ⟨j1, d1⟩ := je
          rw [hq] at hsg
          dsimp only at hsg ⊢
          rw [hup]
          have hns : ¬ (S'' = [] ∧ err = true) := fun h => by
            obtain ⟨rfl, rfl⟩ := h
            cases hsg
            simp_all
          ((try dsimp only); ((with_reducible refine WXs_nil ?_); (try dsimp only)))
          have hfl : (acc ++ [s]).flatten = acc.flatten ++ s := by simp
          refine hQ2 _ _ ⟨j1, d1, S'', acc ++ [s], hsg, by rw [← e0, gwe, if_pos hps, if_neg hns], ?_, ?_, fun z hz => hs' z (by simp [hz]), fun hz => hn' (by simp; omega), by rw [hfl, List.length_append]; omega, rfl, by ((with_reducible refine lkp_skip ?hne4z241 ?hrest4z241); (case hne4z241 => decide +kernel); (with_reducible refine lkp_skip ?hne3z241 ?hrest3z241); (case hne3z241 => decide +kernel); (with_reducible refine lkp_skip ?hne2z241 ?hrest2z241); (case hne2z241 => decide +kernel); (with_reducible assumption)), by ((with_reducible refine lkp_skip ?hne4z242 ?hrest4z242); (case hne4z242 => decide +kernel); (with_reducible refine lkp_skip ?hne3z242 ?hrest3z242); (case hne3z242 => decide +kernel); (with_reducible refine lkp_skip ?hne2z242 ?hrest2z242); (case hne2z242 => decide +kernel); (with_reducible assumption)), ?_⟩
          · rw [← e1, gw, if_pos hps]; simp
          · rw [← e2, gw, if_pos hps]
          · rw [hfl]; ((with_reducible exact lk_put_self))
      · rw [Bool.not_eq_true] at hps
        rw [if_pos (by show (!p s) = true; rw [hps]; decide)]
        ((try dsimp only); (with_reducible refine WXs_cons ?_))
        refine WX_Break ?_
        exact hQ2 _ _ (ret _ (fin _ (by ((with_reducible refine lkp_skip ?hne3z245 ?hrest3z245); (case hne3z245 => decide +kernel); (with_reducible refine lkp_skip ?hne2z245 ?hrest2z245); (case hne2z245 => decide +kernel); (with_reducible assumption))) (by rw [gw, if_neg (by simp [hps])]) (by rw [gwe, if_neg (by simp [hps])])))
  · obtain ⟨loc, hp⟩ := σ'
    obtain ⟨j, dd, S', acc, rd', e0, e1, e2, hs', hn', hf, eh, et, ec, er⟩ := inv
    dsimp only at et ec er eh
    rw [Nat.sub_self] at e0 e1 e2
    ((try dsimp only); ((with_reducible refine WXs_nil ?_); (try dsimp only)))
    exact ret _ ⟨j, dd, by rw [← e0]; rfl, by rw [← e2]; exact rd', eh, by rw [← e1]; simpa [gw] using er⟩
end Mine
namespace Mine
open PySem PySem.W
theorem gwe_iff (p : List Nat → Bool) : ∀ (n : Nat) (S : List (List Nat)) (err : Bool), gwe p n S err = true ↔ err = true ∧ S ≠ [] ∧ (gw p n S).2 = []
  | 0, S, err => by simp [gwe, gw]
  | n + 1, [], err => by simp [gwe]
  | n + 1, s :: S, err => by
    unfold gwe gw
    by_cases h : p s = true
    · rw [if_pos h, if_pos h]
      by_cases h2 : S = [] ∧ err = true
      · rw [if_pos h2]
        obtain ⟨rfl, rfl⟩ := h2
        cases n <;> simp [gw]
      · rw [if_neg h2, gwe_iff p n S err]
        constructor
        · rintro ⟨a, b, c⟩; exact ⟨a, by simp, c⟩
        · rintro ⟨a, _, c⟩
          refine ⟨a, fun e => h2 ⟨e, a⟩, c⟩
    · rw [if_neg h, if_neg h]; simp
theorem gu_none (t : List Nat) : ∀ (S : List (List Nat)) (res : List Nat) (err : Bool), t ∉ S → gu t res S err = none
  | [], res, err, _ => by cases res <;> rfl
  | s :: S, res, err, h => by
    unfold gu
    split
    · rfl
    · rw [if_neg (fun e => h (by simp [e])), gu_none t S _ _ (fun e => h (by simp [e]))]
theorem gu_some (t : List Nat) (B : List (List Nat)) : ∀ (A : List (List Nat)) (res : List Nat) (err : Bool), t ∉ A → gu t res (A ++ t :: B) err = if B = [] ∧ err = true then none else if res ++ A.flatten = [] then none else some (res ++ A.flatten, B)
  | [], res, err, _ => by
    show gu t res (t :: B) err = _
    unfold gu
    simp
  | s :: A, res, err, h => by
    show gu t res (s :: (A ++ t :: B)) err = _
    unfold gu
    rw [if_neg (by simp), if_neg (fun e => h (by simp [e])), gu_some t B A _ _ (fun e => h (by simp [e]))]
    simp
theorem fnd_app (c : Nat) (x y : List Nat) (h : c ∉ x) : fnd c (x ++ y) = (fnd c y).map (· + x.length) := by
  induction x with
  | nil => cases h : fnd c y <;> simp [h]
  | cons a x ih =>
    show (if a = c then some 0 else (fnd c (x ++ y)).map (· + 1)) = _
    rw [if_neg (fun e => h (by simp [e])), ih (fun e => h (by simp [e])), Option.map_map]
    cases fnd c y with
    | none => rfl
    | some k => show some (k + x.length + 1) = some (k + (x.length + 1)); rw [Nat.add_assoc]
theorem fnd_no (c : Nat) (x : List Nat) (h : c ∉ x) : fnd c x = none := fnd_none fun k hk => h (List.mem_of_getElem? hk)
theorem mS_no62 (g : List (List Nat)) (h : ∀ z ∈ g, Sh z) (h2 : [62] ∉ g) : 62 ∉ mS g := by
  intro hm
  unfold mS at hm
  obtain ⟨l, hl, hm⟩ := List.mem_flatten.mp hm
  obtain ⟨z, hz, rfl⟩ := List.mem_map.mp hl
  rcases h z hz with rfl | rfl | rfl | ⟨d, rfl⟩
  · simp at hm
  · simp at hm
  · exact h2 hz
  · simp at hm
theorem first_split {α : Type} [DecidableEq α] (t : α) : ∀ (S : List α), t ∈ S → ∃ A B, S = A ++ t :: B ∧ t ∉ A
  | [], h => by cases h
  | s :: S, h => by
    by_cases e : s = t
    · exact ⟨[], S, by rw [e]; rfl, by simp⟩
    · rcases List.mem_cons.mp h with e2 | h
      · exact absurd e2.symm e
      · obtain ⟨A, B, e1, e2⟩ := first_split t S h
        exact ⟨s :: A, B, by rw [e1]; rfl, by simp [e2, Ne.symm e]⟩
noncomputable def nmd (place : Int) (n : Nat) (SS : List (List Nat)) (err : Bool) : List V :=
  if err = true ∧ (gw pab n SS).2 = [] then [.none] else [.tup [.str (gw pab n SS).1.flatten, .int (place + ((gw pab n SS).1.flatten.length : Nat))],
    match gu [62] [] (gw pab n SS).2 err with
    | none => .none
    | some (x, S') => .tup [.str x, .int (place + ((gw pab n SS).1.flatten.length : Nat) + (x.length : Nat) + 1)]]
theorem flat_ne {g : List (List Nat)} (h : ∀ z ∈ g, Sh z) (e : g.flatten.length = 0) : g = [] := by
  cases g with
  | nil => rfl
  | cons z g =>
    rw [List.flatten_cons, List.length_append] at e
    rcases h z (by simp) with rfl | rfl | rfl | ⟨d, rfl⟩ <;> simp at e
noncomputable def ahd (SS : List (List Nat)) (err : Bool) : Int := match fnd 62 (mS SS ++ (if err then [92] else [])) with | some k => (k : Int) | none => -1
structure NmdSpec (place : Int) (n : Nat) (rest : List Nat) (SS : List (List Nat)) (err : Bool) (f : Nat) : Prop where
  lone : err = true → (f : Int) = SS.flatten.length → nmd place n SS err = [.none]
  full : ¬ (err = true ∧ (f : Int) = SS.flatten.length) → (f : Int) < ahd SS err → ¬ (err = true ∧ ahd SS err + 1 = SS.flatten.length) → ∃ k : Nat, ahd SS err = k ∧ f ≤ k ∧ k ≤ rest.length ∧ nmd place n SS err = [.tup [.str (rest.take f), .int (place + f)], .tup [.str ((rest.drop f).take (k - f)), .int (place + k + 1)]]
  half : ¬ (err = true ∧ (f : Int) = SS.flatten.length) → ¬ ((f : Int) < ahd SS err ∧ ¬ (err = true ∧ ahd SS err + 1 = SS.flatten.length)) → nmd place n SS err = [.tup [.str (rest.take f), .int (place + f)], .none]
theorem nmd_spec (place : Int) (n : Nat) {rest : List Nat} {SS : List (List Nat)} {err : Bool} (hf : SS.flatten ++ (if err then [92] else []) = rest) (h : ∀ z ∈ SS, Sh z) : NmdSpec place n rest SS err (gw pab n SS).1.flatten.length := by
  have hp := gw_parts pab n SS
  have hpp := gw_p pab n SS
  have hn : nmd place n SS err = (if err = true ∧ (gw pab n SS).2 = [] then [.none] else [.tup [.str (gw pab n SS).1.flatten, .int (place + ((gw pab n SS).1.flatten.length : Nat))],
    match gu [62] [] (gw pab n SS).2 err with
    | none => .none
    | some (x, S') => .tup [.str x, .int (place + ((gw pab n SS).1.flatten.length : Nat) + (x.length : Nat) + 1)]]) := rfl
  generalize (gw pab n SS).1 = F at hp hpp hn ⊢
  generalize (gw pab n SS).2 = R at hp hn ⊢
  have hlen : SS.flatten.length = F.flatten.length + R.flatten.length := by rw [← hp]; simp
  have hRs : ∀ z ∈ R, Sh z := fun z hz => h z (by rw [← hp]; simp [hz])
  have hFs : ∀ z ∈ F, Sh z := fun z hz => h z (by rw [← hp]; simp [hz])
  have hR0 : R = [] ↔ F.flatten.length = SS.flatten.length := ⟨fun e => by rw [hlen, e]; simp, fun e => flat_ne hRs (by omega)⟩
  have htake : rest.take F.flatten.length = F.flatten := by rw [← hf, ← hp, List.flatten_append, List.append_assoc, List.take_left]
  have hF62 : [62] ∉ F := fun hm => by have := hpp _ hm; simp [pab] at this
  have hcond : (err = true ∧ (F.flatten.length : Int) = SS.flatten.length) ↔ (err = true ∧ R = []) := ⟨fun e => ⟨e.1, hR0.mpr (by have := e.2; omega)⟩, fun e => ⟨e.1, by have := hR0.mp e.2; omega⟩⟩
  refine ⟨fun h1 h2 => ?_, fun h1 h2 h3 => ?_, fun h1 h2 => ?_⟩
  · rw [hn, if_pos (hcond.mp ⟨h1, h2⟩)]
  · rw [hn, if_neg (fun e => h1 (hcond.mpr e))]
    by_cases hm : [62] ∈ R
    · obtain ⟨A, B, rfl, hA⟩ := first_split [62] R hm
      have hAs : ∀ z ∈ A, Sh z := fun z hz => hRs z (by simp [hz])
      have ha : ahd SS err = ((F.flatten.length + A.flatten.length : Nat) : Int) := by
        unfold ahd
        rw [← hp, mS_app, mS_app, mS_cons, List.append_assoc, List.append_assoc, fnd_app _ _ _ (mS_no62 F hFs hF62), fnd_app _ _ _ (mS_no62 A hAs hA)]
        rw [if_neg (by decide)]
        simp [fnd, mS_len]
        omega
      rw [ha] at h2 h3 ⊢
      have hB : ¬ (B = [] ∧ err = true) := fun e => h3 ⟨e.2, by rw [hlen, e.1]; simp; omega⟩
      have hAne : ¬ ([] ++ A.flatten = []) := fun e => by
        have e' : A.flatten = [] := by simpa using e
        rw [e'] at h2; simp at h2
      rw [gu_some _ _ _ _ _ hA, if_neg hB, if_neg hAne]
      refine ⟨F.flatten.length + A.flatten.length, rfl, by omega, ?_, ?_⟩
      · rw [← hf, ← hp]; simp
      · rw [htake]
        have : (rest.drop F.flatten.length).take (F.flatten.length + A.flatten.length - F.flatten.length) = A.flatten := by
          rw [← hf, ← hp, List.flatten_append, List.append_assoc, List.drop_left, Nat.add_sub_cancel_left]
          rw [List.flatten_append, List.append_assoc, List.take_left]
        rw [this]
        simp only [List.nil_append]
        rw [show place + (F.flatten.length : Nat) + (A.flatten.length : Nat) + 1 = place + ((F.flatten.length + A.flatten.length : Nat) : Int) + 1 from by omega]
    · exfalso
      have : ahd SS err = -1 := by
        unfold ahd
        rw [fnd_no]
        rw [List.mem_append]
        rintro (e | e)
        · exact mS_no62 SS h (by rw [← hp, List.mem_append]; rintro (e | e); exact hF62 e; exact hm e) e
        · cases err <;> simp at e
      omega
  · rw [hn, if_neg (fun e => h1 (hcond.mpr e)), htake]
    by_cases hm : [62] ∈ R
    · obtain ⟨A, B, rfl, hA⟩ := first_split [62] R hm
      have hAs : ∀ z ∈ A, Sh z := fun z hz => hRs z (by simp [hz])
      have ha : ahd SS err = ((F.flatten.length + A.flatten.length : Nat) : Int) := by
        unfold ahd
        rw [← hp, mS_app, mS_app, mS_cons, List.append_assoc, List.append_assoc, fnd_app _ _ _ (mS_no62 F hFs hF62), fnd_app _ _ _ (mS_no62 A hAs hA)]
        rw [if_neg (by decide)]
        simp [fnd, mS_len]
        omega
      rw [ha] at h2
      rw [gu_some _ _ _ _ _ hA]
      by_cases hB : B = [] ∧ err = true
      · rw [if_pos hB]
      · rw [if_neg hB]
        by_cases hA0 : A.flatten.length = 0
        · rw [if_pos (by simpa using List.length_eq_zero_iff.mp hA0)]
        · exfalso
          refine h2 ⟨by omega, fun e => hB ⟨?_, e.1⟩⟩
          have e2 := e.2
          rw [hlen] at e2
          simp at e2
          exact flat_ne (fun z hz => hRs z (by simp [hz])) (by simp; omega)
    · rw [gu_none _ _ _ _ hm]
end Mine
namespace Mine
open PySem PySem.W PySem.Calls PySem.Spec PyProof.Rows
theorem rs_bounds (l : List Nat) : (rs l).1.flatten.length ≤ l.length ∧ (rs l).1.length ≤ l.length := by
  induction l using rs.induct with
  | case1 => simp [rs]
  | case2 => simp [rs]
  | case3 c h => simp [rs, h]
  | case4 d r ih => rw [rs_esc]; simp at ih ⊢; omega
  | case5 c d r h ih => rw [rs_plain _ h]; simp at ih ⊢; omega
theorem rs_tot (l : List Nat) : ((rs l).1.flatten.length : Int) + (if (rs l).2 then 1 else 0) = l.length := by
  have h := rs_flat l
  cases hb : (rs l).2
  · rw [hb] at h
    have h := congrArg List.length h
    simp at h ⊢; omega
  · rw [hb] at h
    have h := congrArg List.length h
    simp at h ⊢; omega
theorem match_perr {pp : Params} {X : Cx} (hK : X.K = KK pp) : Match X (.ref CP) (.ref CP) true := by
  obtain ⟨nm, qn, N, bs, hdct, sn, sub, ab, col, dd, k0, k1, k2, k3, k5, newId, hC, rfl⟩ := kc_exc pp
  exact match_own (by rw [hK]; exact hC) (by rw [hK]; kernel_rfl) (by rw [hK]; kernel_rfl) (by rw [hK]; kernel_rfl)
noncomputable def tv (p : V × V) : V := .tup [p.1, p.2]
theorem rws_len (z : Int) (S : List (List Nat)) : (rws z S).length = S.length := by
  induction S generalizing z with
  | nil => rfl
  | cons s S ih => simp [rws, ih]
theorem s_let5 : (Str.ofString "\\ab>").cps.toList = [92, 97, 98, 62] := by decide +kernel
theorem s_00 : (Str.ofString "00").cps.toList = [48, 48] := by decide +kernel
inductive MInv5 (l : List Nat) (hp : Addr → Option HO) (i : Nat) (σ' : S) : Prop
  | mk (eh : σ'.hp = hp) (et : lk σ'.loc "text" = some (.str (mk5 l i)))
theorem c_masked {pp : Params} {X : Cx} {n : Nat} {σ : S} {E : Value → S → Prop} {l : List Nat} {Q : V → S → Prop} (ok : Ok X (n + 1)) (hK : X.K = KK pp) (hP : X.prog = PySem.Challenge.rw_ij0062_05.row.prog) (hc : X.ctx = none) (hl : l.length ≤ 1000)
    (q : Q (.str (mk5 l 4)) σ) : Call X (.ref 144) [.str l] σ Q E := by
  refine Call.fn' (names := ["text"]) (loc0 := [("text", .str l)]) (n := n) ok hK (f_masked _) (bind1 fun v _ => by kernel_rfl) (by kernel_rfl) (by decide +kernel) rfl rfl fun Y okY hI => ?_
  have hKY : Y.K = KK pp := hI.K.trans hK
  have hcY : Y.ctx = none := hI.ctx.trans hc
  have hPY := hI.prog.trans hP
  have hml := mk5_len l
  conv in bodyAt _ _ => whnf
  refine W.hide fun Q1 E1 hQ1 hE1 => ?_
  ((try dsimp only); (with_reducible refine WXs_cons ?_))
  refine WX_For (hs := by intro _ _; rfl) okY hcY hI.env (by (have hh := In.scope ‹In _ _ _›; exact kindE hh (by kernel_rfl))) (MInv5 l σ.hp) ?_
  refine wit_val (W_str s_let5 ⟨_, _, itb_str, ⟨rfl, by show lk _ _ = some (.str l); ((with_reducible exact lk_hit))⟩, fun i σ' wr hi inv okw => ?_, fun σ' inv => ?_⟩)
  · obtain ⟨loc, hp⟩ := σ'
    obtain ⟨eh, et⟩ := inv
    dsimp only at et eh
    ((try dsimp only); (with_reducible refine WXs_cons ?_))
    ((try dsimp only); (with_reducible refine WX_Assign (hs := ?hsz315) (by assumption) ?hkz315 ?_); (case hsz315 => intro _; rfl); (case hkz315 => (have hh := In.scope ‹In _ _ _›; exact kindE hh (by kernel_rfl))))
    refine W_Repl okw (by (have hh := In.scope ‹In _ _ _›; exact kindE hh (by kernel_rfl))) (by (have hh := In.scope ‹In _ _ _›; exact kindE hh (by kernel_rfl))) (by ((with_reducible refine lkp_skip ?hne2z318 ?hrest2z318); (case hne2z318 => decide +kernel); (with_reducible assumption))) (by ((with_reducible exact lk_put_self))) s_bs s_00 (by simp) (by simp) (by rw [hml]; omega) (by simp) (by simp) (by simp) ?_ (by rfl) (by decide +kernel) (by decide +kernel)
    ((try dsimp only); ((with_reducible refine WXs_nil ?_); (try dsimp only)))
    exact ⟨eh, by rw [mk5_succ l i hi]; exact lk_put_self⟩
  · obtain ⟨loc, hp⟩ := σ'
    obtain ⟨rfl, et⟩ := inv
    dsimp only at et
    replace et : lk loc "text" = some (.str (mk5 l 4)) := et
    ((try dsimp only); ((with_reducible refine WXs_nil ?_); (try dsimp only)))
    ((try dsimp only); (with_reducible refine WXs_cons ?_))
    ((try dsimp only); (with_reducible refine WX_Return ?_))
    ((try dsimp only); ((with_reducible refine W_local (d := ?dz324) (by assumption) ?hkz324 ?hlz324 ?qz324 ?hdz324); (case hkz324 => (have hh := In.scope ‹In _ _ _›; exact kindE hh (by kernel_rfl))); (case hlz324 => ((with_reducible assumption))); (case hdz324 => decide +kernel); (try dsimp only)))
    exact hQ1 _ _ q
theorem pos_eq {l : List Nat} {i k : Nat} {err : Bool} {d : V} {SS : List (List Nat)} (x : Rd l i err d SS) (ht : (SS.flatten.length : Int) + (if err then 1 else 0) = ((l.length - k : Nat) : Int)) (hk : k ≤ l.length) : (i : Int) - (nlen d : Nat) = k := by
  rw [x.posE]
  generalize (if err = true then (1 : Int) else 0) = z at *
  omega
inductive RInv5 (l : List Nat) (err : Bool) (SS : List (List Nat)) (z : Int) (hp : Addr → Option HO) (a b dx : Addr) (k : Nat) (σ' : S) : Prop
  | mk (j : Nat) (dd : V) (S' : List (List Nat)) (acc : List (V × V)) (e : k = S'.length) (rd' : Rd l j err dd S') (hka : acc ++ rws ((j : Int) - (nlen dd : Nat)) S' = rws z SS) (eh : σ'.hp = upd (upd hp dx (.dict (tokFs l j dd))) b (.lst (acc.map tv)))
    (et : lk σ'.loc "t" = some (.ref a)) (ek : lk σ'.loc "row" = some (.ref b))
noncomputable def rdV (place : Int) (size : Nat) (x : List (List Nat) × Bool) : V := .tup [.lst ((rws place x.1).map tv), if x.2 then .none else .int size]
theorem c_read {pp : Params} {X : Cx} {n : Nat} {σ : S} {E : Value → S → Prop} {a dx : Addr} {l : List Nat} {i k : Nat} {d : V} {Q : V → S → Prop} (ok : Ok X (n + 4)) (hK : X.K = KK pp) (hP : X.prog = PySem.Challenge.rw_ij0062_05.row.prog) (hc : X.ctx = none) (tk : Tk σ.hp a dx l i d) (hdl : ∀ w, d ≠ .lit w) (hl : l.length ≤ 1000) (hk : k ≤ l.length)
    (q : ∀ j e, (∀ w, e ≠ .lit w) → Q (rdV k l.length (rs (l.drop k))) { σ with hp := upd σ.hp dx (.dict (tokFs l j e)) }) : Call X (.ref 151) [.ref a, .int k] σ Q E := by
  refine Call.fz ?_
  refine Call.fn' (names := ["t", "place"]) (loc0 := [("t", .ref a), ("place", .int k)]) (n := n + 3) ok hK (f_read _) (bind2 fun v w _ => by kernel_rfl) (by kernel_rfl) (by decide +kernel) rfl rfl fun Y okY hI => ?_
  have hKY : Y.K = KK pp := hI.K.trans hK
  have hcY : Y.ctx = none := hI.ctx.trans hc
  have hPY := hI.prog.trans hP
  have hbd := rs_bounds (l.drop k)
  rw [List.length_drop] at hbd
  have htot := rs_tot (l.drop k)
  rw [List.length_drop] at htot
  have hsk := sg_rs hk
  generalize hSS : (rs (l.drop k)).1 = SS at *
  generalize herr : (rs (l.drop k)).2 = err at *
  have hpair : rs (l.drop k) = (SS, err) := by rw [← hSS, ← herr]
  rw [hpair] at q
  have hrl := rws_len k SS
  conv in bodyAt _ _ => whnf
  refine W.hide fun Q1 E1 hQ1 hE1 => ?_
  ((try dsimp only); (with_reducible refine WXs_cons ?_))
  ((try dsimp only); (with_reducible refine WX_Assign (hs := ?hsz326) (by assumption) ?hkz326 ?_); (case hsz326 => intro _; rfl); (case hkz326 => (have hh := In.scope ‹In _ _ _›; exact kindE hh (by kernel_rfl))))
  refine W_ListO okY ?_
  refine WA_nil ⟨by simp, fun b hb => ?_⟩
  ((try dsimp only); (with_reducible refine WXs_cons ?_))
  have t1 := tk.inst
  have t2 := tk.dict
  have hb' : σ.hp b = none := hb
  have hbd2 : b ≠ dx := hp_ne t2 hb'
  have hba : b ≠ a := hp_ne t1 hb'
  have had : a ≠ dx := kd_ne t1 t2 rfl
  have tkb : ∀ j dd L, Tk (upd (upd σ.hp dx (.dict (tokFs l j dd))) b L) a dx l j dd := fun j dd L =>
    ⟨(upd_ne hba.symm).trans ((upd_ne had).trans t1), (upd_ne hbd2.symm).trans upd_self, tk.nn⟩
  have com := fun D D' L => upd_com (hp := σ.hp) hbd2 D D' L
  have com0 := fun D' L => upd_com0 (hp := σ.hp) hbd2 D' L
  have sub := fun D L => upd_sub hbd2 hb' D L
  have tk0 : Tk (upd σ.hp b (.lst [])) a dx l i d := ⟨(upd_ne hba.symm).trans t1, (upd_ne hbd2.symm).trans t2, tk.nn⟩
  refine WX_Try (n := n + 3) (c := .ref CP) okY hI.env (ht_gl okY hKY (by (have hh := In.scope ‹In _ _ _›; exact kindE hh (by kernel_rfl))) (g_perr _) (by decide +kernel)) ?_
  refine W.hide fun Q2 E2 hQ2 hE2 => ?_
  ((try dsimp only); (with_reducible refine WXs_cons ?_))
  refine WX_Expr (hs := by intro _; rfl) okY ?_
  refine W_Method (hbase := by intro _; rfl) (hfew := by intro _; rfl) (hline := by rfl) (hplain := by intro _; rfl) okY ?_
  ((try dsimp only); ((with_reducible refine W_local (d := ?dz330) (by assumption) ?hkz330 ?hlz330 ?qz330 ?hdz330); (case hkz330 => (have hh := In.scope ‹In _ _ _›; exact kindE hh (by kernel_rfl))); (case hlz330 => ((with_reducible refine lkp_skip ?hne2z330 ?hrest2z330); (case hne2z330 => decide +kernel); (with_reducible exact lk_hit))); (case hdz330 => decide +kernel); (try dsimp only)))
  refine getm_inst okY tk0.inst tk0.dict (hKY ▸ km_seek _) (by kernel_rfl) ⟨keeps_fn hKY (by kernel_rfl), ?_⟩
  refine WA_cons ?_
  ((try dsimp only); ((with_reducible refine W_local (d := ?dz331) (by assumption) ?hkz331 ?hlz331 ?qz331 ?hdz331); (case hkz331 => (have hh := In.scope ‹In _ _ _›; exact kindE hh (by kernel_rfl))); (case hlz331 => ((with_reducible refine lkp_skip ?hne3z331 ?hrest3z331); (case hne3z331 => decide +kernel); (with_reducible refine lk_skip ?hne2z331 ?hrest2z331); (case hne2z331 => decide +kernel); (with_reducible exact lk_hit))); (case hdz331 => decide +kernel); (try dsimp only)))
  refine WA_nil ?_
  refine c_seek (n := n) okY hKY hPY hcY tk0 hl (by omega) ?_
  cases hs0 : sg l k with
  | none =>
    rw [hs0] at hsk
    cases (show (SS, err) = ([], true) from hpair.symm.trans hsk)
    dsimp only
    rw [com0]
    have hq := q k d hdl
    have g1 : upd (upd σ.hp dx (.dict (tokFs l k d))) b (.lst []) b = some (.lst []) := upd_self
    have g2 := sub (.dict (tokFs l k d)) (.lst [])
    generalize upd (upd σ.hp dx (.dict (tokFs l k d))) b (.lst []) = hp1 at g1 g2 ⊢
    refine hE2 _ _ ⟨true, match_perr hKY, ?_⟩
    rw [if_pos rfl]
    intro ee okm
    ((try dsimp only); (with_reducible refine WXs_cons ?_))
    ((try dsimp only); (with_reducible refine WX_Return ?_))
    refine W_Tuple ?_
    refine WA_cons ?_
    ((try dsimp only); ((with_reducible refine W_local (d := ?dz334) (by assumption) ?hkz334 ?hlz334 ?qz334 ?hdz334); (case hkz334 => (have hh := In.scope ‹In _ _ _›; exact kindE hh (by kernel_rfl))); (case hlz334 => ((with_reducible exact lk_put_self))); (case hdz334 => decide +kernel); (try dsimp only)))
    refine WA_cons ?_
    ((try dsimp only); ((with_reducible refine W_none ?_); (try dsimp only)))
    refine WA_nil ⟨by simp, ?_⟩
    exact hQ1 _ _ ⟨_, _, g2, .pair (.own g1 (by rw [upd_ne hbd2]; exact hb')) (.refl _), hq⟩
  | some je =>
    obtain ⟨j0, e0⟩ := je
    rw [hs0] at hsk
    dsimp only at hsk ⊢
    rw [com0]
    ((try dsimp only); (with_reducible refine WXs_cons ?_))
    refine WX_While okY hI.env (RInv5 l err SS k σ.hp a b dx) (fun m σ' inv => ?_) SS.length ⟨j0, e0, SS, [], rfl, hsk, by
      rw [show (j0 : Int) - (nlen e0 : Nat) = k from pos_eq hsk htot hk]; rfl, rfl, by ((with_reducible refine lkp_skip ?hne2z337 ?hrest2z337); (case hne2z337 => decide +kernel); (with_reducible exact lk_hit)), by ((with_reducible exact lk_put_self))⟩
    obtain ⟨loc, hp⟩ := σ'
    obtain ⟨j, dd, S', acc, rfl, rd', hka, eh, et, ek⟩ := inv
    dsimp only at et ek eh
    have t1' : hp a = _ := eh ▸ (tkb j dd (.lst (acc.map tv))).inst
    have t2' : hp dx = _ := eh ▸ (tkb j dd (.lst (acc.map tv))).dict
    have hpb : hp b = some (.lst (acc.map tv)) := by rw [eh, upd_self]
    have hjl := rd'.le
    have hal : (acc.map tv).length ≤ 1001 := by
      have := congrArg List.length hka
      rw [List.length_append] at this
      rw [List.length_map]; omega
    have hpos := rd'.posE
    have hsgn := rd'.sgn
    ((try dsimp only); ((with_reducible refine WT_Compare (hm := ?hmz339) ?_); (case hmz339 => with_unfolding_all rfl)))
    refine W_field (by assumption) ?_ (by decide +kernel) (by ((with_reducible assumption))) t1' t2' (hKY ▸ kg_next _) (tok_next _ _ _) rd'.lit ?_
    · (have hh := In.scope ‹In _ _ _›; exact kindE hh (by kernel_rfl))
    ((try dsimp only); ((with_reducible refine W_none ?_); (try dsimp only)))
    cases rd' with
    | nil h1 h2 h3 =>
      refine o_notnone trivial (t_bool ?_)
      rw [if_neg (by decide)]
      ((try dsimp only); ((with_reducible refine WXs_nil ?_); (try dsimp only)))
      ((try dsimp only); ((with_reducible refine WXs_nil ?_); (try dsimp only)))
      refine hQ2 _ _ ?_
      ((try dsimp only); (with_reducible refine WXs_cons ?_))
      ((try dsimp only); (with_reducible refine WX_Return ?_))
      refine W_Tuple ?_
      refine WA_cons ?_
      ((try dsimp only); ((with_reducible refine W_local (d := ?dz347) (by assumption) ?hkz347 ?hlz347 ?qz347 ?hdz347); (case hkz347 => (have hh := In.scope ‹In _ _ _›; exact kindE hh (by kernel_rfl))); (case hlz347 => ((with_reducible assumption))); (case hdz347 => decide +kernel); (try dsimp only)))
      refine WA_cons ?_
      refine W_Method (hbase := by intro _; rfl) (hfew := by intro _; rfl) (hline := by rfl) (hplain := by intro _; rfl) okY ?_
      ((try dsimp only); ((with_reducible refine W_local (d := ?dz348) (by assumption) ?hkz348 ?hlz348 ?qz348 ?hdz348); (case hkz348 => (have hh := In.scope ‹In _ _ _›; exact kindE hh (by kernel_rfl))); (case hlz348 => ((with_reducible assumption))); (case hdz348 => decide +kernel); (try dsimp only)))
      refine getm_inst okY t1' t2' (hKY ▸ km_tell _) (by kernel_rfl) ⟨keeps_fn hKY (by kernel_rfl), ?_⟩
      refine WA_nil ?_
      refine c_tell (n := n + 2) okY hKY ⟨t1', t2', tk.nn⟩ hsgn ?_
      refine WA_nil ⟨by simp, ?_⟩
      have hq := q j .none (nl rfl)
      subst h3
      have hrow : acc = rws k SS := by rw [← hka]; simp [rws]
      subst hrow
      have hjs : (j : Int) - (nlen .none : Nat) = l.length := by simp only [nlen]; omega
      rw [hjs]
      refine hQ1 _ _ ⟨upd σ.hp dx (.dict (tokFs l j .none)), rdV k l.length (SS, false), fun c o e => ?_, ?_, hq⟩
      · show hp c = _
        rw [eh]; exact sub _ _ c o e
      · exact .pair (.own hpb (by rw [upd_ne hbd2]; exact hb')) (.refl _)
    | cons s S'' h1 h2 h3 h4 =>
      have rd' : Rd l j err (.str s) (s :: S'') := .cons s S'' h1 h2 h3 h4
      refine o_notnone trivial (t_bool ?_)
      rw [if_pos (by rfl)]
      refine W.hideQ fun Q3 hQ3 => ?_
      ((try dsimp only); (with_reducible refine WXs_cons ?_))
      ((try dsimp only); (with_reducible refine WX_Assign (hs := ?hsz350) (by assumption) ?hkz350 ?_); (case hsz350 => intro _; rfl); (case hkz350 => (have hh := In.scope ‹In _ _ _›; exact kindE hh (by kernel_rfl))))
      refine W_field (by assumption) ?_ (by decide +kernel) (by ((with_reducible assumption))) t1' t2' (hKY ▸ kg_next _) (tok_next _ _ _) (nl rfl) ?_
      · (have hh := In.scope ‹In _ _ _›; exact kindE hh (by kernel_rfl))
      ((try dsimp only); (with_reducible refine WXs_cons ?_))
      refine WX_Expr (hs := by intro _; rfl) okY ?_
      refine W_Method (hbase := by intro _; rfl) (hfew := by intro _; rfl) (hline := by rfl) (hplain := by intro _; rfl) okY ?_
      ((try dsimp only); ((with_reducible refine W_local (d := ?dz354) (by assumption) ?hkz354 ?hlz354 ?qz354 ?hdz354); (case hkz354 => (have hh := In.scope ‹In _ _ _›; exact kindE hh (by kernel_rfl))); (case hlz354 => ((with_reducible refine lkp_skip ?hne2z354 ?hrest2z354); (case hne2z354 => decide +kernel); (with_reducible assumption))); (case hdz354 => decide +kernel); (try dsimp only)))
      refine gm_append (ds := acc.map tv) hpb ⟨keeps_builtin, ?_⟩
      refine WA_cons ?_
      refine W_Tuple ?_
      refine WA_cons ?_
      refine W_Method (hbase := by intro _; rfl) (hfew := by intro _; rfl) (hline := by rfl) (hplain := by intro _; rfl) okY ?_
      ((try dsimp only); ((with_reducible refine W_local (d := ?dz355) (by assumption) ?hkz355 ?hlz355 ?qz355 ?hdz355); (case hkz355 => (have hh := In.scope ‹In _ _ _›; exact kindE hh (by kernel_rfl))); (case hlz355 => ((with_reducible refine lkp_skip ?hne2z355 ?hrest2z355); (case hne2z355 => decide +kernel); (with_reducible assumption))); (case hdz355 => decide +kernel); (try dsimp only)))
      refine getm_inst okY t1' t2' (hKY ▸ km_tell _) (by kernel_rfl) ⟨keeps_fn hKY (by kernel_rfl), ?_⟩
      refine WA_nil ?_
      refine c_tell (n := n + 2) okY hKY ⟨t1', t2', tk.nn⟩ hsgn ?_
      refine WA_cons ?_
      ((try dsimp only); ((with_reducible refine W_local (d := ?dz356) (by assumption) ?hkz356 ?hlz356 ?qz356 ?hdz356); (case hkz356 => (have hh := In.scope ‹In _ _ _›; exact kindE hh (by kernel_rfl))); (case hlz356 => ((with_reducible exact lk_put_self))); (case hdz356 => decide +kernel); (try dsimp only)))
      refine WA_nil ⟨by simp, ?_⟩
      refine WA_nil ?_
      refine c_append (ds := acc.map tv) okY hpb (by omega) ?_
      have hrow : acc.map tv ++ [.tup [.int ((j : Int) - (nlen (.str s) : Nat)), .str s]] = (acc ++ [(V.int ((j : Int) - (nlen (.str s) : Nat)), V.str s)]).map tv := by
        rw [List.map_append]; rfl
      rw [hrow]
      rw [show rws ((j : Int) - (nlen (.str s) : Nat)) (s :: S'') = [(V.int ((j : Int) - (nlen (.str s) : Nat)), V.str s)] ++ rws ((j : Int) - (nlen (.str s) : Nat) + (s.length : Nat)) S'' from rfl, ← List.append_assoc] at hka
      generalize acc ++ [(V.int ((j : Int) - (nlen (.str s) : Nat)), V.str s)] = acc1 at hka ⊢
      have eh1 : upd hp b (.lst (acc1.map tv)) = upd (upd σ.hp dx (.dict (tokFs l j (.str s)))) b (.lst (acc1.map tv)) := by rw [eh, upd_upd]
      have tk1 : Tk (upd hp b (.lst (acc1.map tv))) a dx l j (.str s) := eh1 ▸ tkb _ _ _
      have sub1 : ∀ c o, upd σ.hp dx (.dict (tokFs l j (.str s))) c = some o → upd hp b (.lst (acc1.map tv)) c = some o := fun c o e => by rw [eh1]; exact sub _ _ c o e
      have hb1 : upd hp b (.lst (acc1.map tv)) b = some (.lst (acc1.map tv)) := upd_self
      have com1 : ∀ D, upd (upd hp b (.lst (acc1.map tv))) dx D = upd (upd σ.hp dx D) b (.lst (acc1.map tv)) := fun D => by rw [eh1, com]
      generalize upd hp b (.lst (acc1.map tv)) = hp1 at tk1 sub1 hb1 com1 ⊢
      ((try dsimp only); (with_reducible refine WXs_cons ?_))
      ((try dsimp only); (with_reducible refine WX_If ?_))
      ((try dsimp only); ((with_reducible refine WT_Compare (hm := ?hmz359) ?_); (case hmz359 => with_unfolding_all rfl)))
      refine W_Method (hbase := by intro _; rfl) (hfew := by intro _; rfl) (hline := by rfl) (hplain := by intro _; rfl) okY ?_
      ((try dsimp only); ((with_reducible refine W_local (d := ?dz360) (by assumption) ?hkz360 ?hlz360 ?qz360 ?hdz360); (case hkz360 => (have hh := In.scope ‹In _ _ _›; exact kindE hh (by kernel_rfl))); (case hlz360 => ((with_reducible refine lkp_skip ?hne2z360 ?hrest2z360); (case hne2z360 => decide +kernel); (with_reducible assumption))); (case hdz360 => decide +kernel); (try dsimp only)))
      refine getm_inst okY tk1.inst tk1.dict (hKY ▸ km_get _) (by kernel_rfl) ⟨keeps_fn hKY (by kernel_rfl), ?_⟩
      refine WA_nil ?_
      refine c_get (n := n) okY hKY hPY hcY tk1 (nl rfl) hl (by omega) ?_
      have hsg := sg_cons rd'
      cases hs : sg l j with
      | none =>
        rw [hs] at hsg
        obtain ⟨hS0, he⟩ := hsg
        subst he
        subst hS0
        refine hE2 _ _ ⟨true, match_perr hKY, ?_⟩
        rw [if_pos rfl]
        intro ee okm
        ((try dsimp only); (with_reducible refine WXs_cons ?_))
        ((try dsimp only); (with_reducible refine WX_Return ?_))
        refine W_Tuple ?_
        refine WA_cons ?_
        ((try dsimp only); ((with_reducible refine W_local (d := ?dz363) (by assumption) ?hkz363 ?hlz363 ?qz363 ?hdz363); (case hkz363 => (have hh := In.scope ‹In _ _ _›; exact kindE hh (by kernel_rfl))); (case hlz363 => ((with_reducible refine lkp_skip ?hne2z363 ?hrest2z363); (case hne2z363 => decide +kernel); (with_reducible assumption))); (case hdz363 => decide +kernel); (try dsimp only)))
        refine WA_cons ?_
        ((try dsimp only); ((with_reducible refine W_none ?_); (try dsimp only)))
        refine WA_nil ⟨by simp, ?_⟩
        have hq := q j (.str s) (nl rfl)
        have hka' : acc1 = rws k SS := by rw [← hka]; simp [rws]
        subst hka'
        exact hQ1 _ _ ⟨_, rdV k l.length (SS, true), sub1, .pair (.own hb1 (by rw [upd_ne hbd2]; exact hb')) (.refl _), hq⟩
      | some je =>
        obtain ⟨j1, d1⟩ := je
        rw [hs] at hsg
        dsimp only at hsg ⊢
        ((try dsimp only); ((with_reducible refine W_local (d := ?dz365) (by assumption) ?hkz365 ?hlz365 ?qz365 ?hdz365); (case hkz365 => (have hh := In.scope ‹In _ _ _›; exact kindE hh (by kernel_rfl))); (case hlz365 => ((with_reducible exact lk_put_self))); (case hdz365 => decide +kernel); (try dsimp only)))
        refine o_nes (t_bool ?_)
        rw [if_neg (by simp)]
        ((try dsimp only); ((with_reducible refine WXs_nil ?_); (try dsimp only)))
        ((try dsimp only); ((with_reducible refine WXs_nil ?_); (try dsimp only)))
        refine hQ3 _ _ ⟨S''.length, by simp, j1, d1, S'', acc1, rfl, hsg, ?_, com1 _, by ((with_reducible refine lkp_skip ?hne2z368 ?hrest2z368); (case hne2z368 => decide +kernel); (with_reducible assumption)), by ((with_reducible refine lkp_skip ?hne2z369 ?hrest2z369); (case hne2z369 => decide +kernel); (with_reducible assumption))⟩
        rw [← hka]
        have hp2 := hsg.posE
        rw [List.flatten_cons, List.length_append] at hpos
        rw [show (j1 : Int) - (nlen d1 : Nat) = (j : Int) - (nlen (.str s) : Nat) + (s.length : Nat) from by omega]
end Mine
namespace Mine
open PySem PySem.W PySem.Calls PySem.Spec PyProof.Rows
theorem s_gt : (Str.ofString ">").cps.toList = [62] := by decide +kernel
theorem s_name : (Str.ofString "name").cps.toList = [110, 97, 109, 101] := by decide +kernel
theorem s_a : (Str.ofString "a").cps.toList = [97] := by decide +kernel
theorem s_b : (Str.ofString "b").cps.toList = [98] := by decide +kernel
theorem any_strs {S : List (List Nat)} {s : List Nat} : ((V.dats (S.map V.str)).any fun y => PyData.eqv y (V.dat (.str s))) = S.contains s := by
  induction S with
  | nil => rfl
  | cons z S ih =>
    simp only [List.map_cons, V.dats, List.any_cons, ih, List.contains_cons]
    congr 1
    simp only [V.dat, PyData.eqv]
    rw [str_beq]
    show (z == s) = (s == z)
    exact Bool.beq_comm
theorem any_none {S : List (List Nat)} : ((V.dats (S.map V.str)).any fun y => PyData.eqv y (V.dat .none)) = false := by
  induction S with
  | nil => rfl
  | cons z S ih => simp only [List.map_cons, V.dats, List.any_cons, ih]; rfl
inductive InAB : V → Prop
  | none : InAB .none
  | str (s : List Nat) (h : ∀ c ∈ s, c < 1000) : InAB (.str s)
theorem np_ab {Y : Cx} {n : Nat} {σ' : S} {d' : V} {Q' : V → S → Prop} {E' : Value → S → Prop} (ok : Ok Y n) (h : InAB d') (q : Q' (.bool (npV pab d')) σ') : Op2 Y (compareOp .NotIn) d' (.lst [.str [97], .str [98]]) σ' Q' E' := by
  cases h with
  | none => exact c_notin (bs := [[97], [98]].map V.str) ok rfl rfl rfl (by decide +kernel) (by decide +kernel) any_none q
  | str s h =>
    have hs : PyData.strOk (mk s) = true := by unfold PyData.strOk; simp; intro c hc; have := h c hc; omega
    refine c_notin (b := pab s) (bs := [[97], [98]].map V.str) ok rfl rfl hs (by decide +kernel) (Nat.le_trans (Nat.min_le_right _ _) (Nat.zero_le 100)) ?_ q
    rw [any_strs]
    exact Bool.eq_iff_iff.mpr (by simp [pab])
theorem gw_nil (p : List Nat → Bool) (n : Nat) : gw p n [] = ([], []) := by cases n <;> rfl
theorem gu_len {R : List (List Nat)} {err : Bool} {r : List Nat} {S' : List (List Nat)} (h : gu [62] [] R err = some (r, S')) : R.flatten.length = r.length + 1 + S'.flatten.length := by
  by_cases hm : [62] ∈ R
  · obtain ⟨A, B, rfl, hA⟩ := first_split [62] R hm
    rw [gu_some _ _ _ _ _ hA] at h
    split at h
    · cases h
    · split at h
      · cases h
      · cases h
        simp; omega
  · rw [gu_none _ _ _ _ hm] at h; cases h
theorem pos_sub {l : List Nat} {i k : Nat} {err : Bool} {d : V} {S SS : List (List Nat)} (x : Rd l i err d S) (ht : (SS.flatten.length : Int) + (if err then 1 else 0) = ((l.length - k : Nat) : Int)) (hk : k ≤ l.length) : (i : Int) - (nlen d : Nat) = (k : Int) + SS.flatten.length - S.flatten.length := by
  rw [x.posE]
  generalize (if err = true then (1 : Int) else 0) = z at *
  omega
theorem tot_le {l : List Nat} {k : Nat} {err : Bool} {SS R : List (List Nat)} {f : Nat} (ht : (SS.flatten.length : Int) + (if err then 1 else 0) = ((l.length - k : Nat) : Int)) (hf : SS.flatten.length = f + R.flatten.length) : (R.flatten.length : Int) + (if err then 1 else 0) ≤ l.length := by
  generalize (if err = true then (1 : Int) else 0) = z at *
  omega
theorem ar1 {k F R : Nat} : (k : Int) + ((F + R : Nat) : Int) - (R : Nat) = (k : Int) + (F : Nat) := by omega
theorem ar2 {k F r S : Nat} : (k : Int) + ((F + (r + 1 + S) : Nat) : Int) - (S : Nat) = (k : Int) + (F : Nat) + (r : Nat) + 1 := by omega
theorem c_named {pp : Params} {X : Cx} {n : Nat} {σ : S} {E : Value → S → Prop} {a dx : Addr} {l : List Nat} {i k most : Nat} {d : V} {Q : V → S → Prop} (ok : Ok X (n + 4)) (hK : X.K = KK pp) (hP : X.prog = PySem.Challenge.rw_ij0062_05.row.prog) (hc : X.ctx = none) (tk : Tk σ.hp a dx l i d) (hdl : ∀ w, d ≠ .lit w) (hl : l.length ≤ 1000) (hk : k ≤ l.length) (hm : most ≤ 1000) (hch : ∀ c ∈ l, c < 1000)
    (q : ∀ j e, (∀ w, e ≠ .lit w) → Q (.lst (nmd k most (rs (l.drop k)).1 (rs (l.drop k)).2)) { σ with hp := upd σ.hp dx (.dict (tokFs l j e)) }) : Call X (.ref 158) [.ref a, .int k, .int most] σ Q E := by
  refine Call.fz ?_
  refine Call.fn' (names := ["t", "place", "most"]) (loc0 := [("t", .ref a), ("place", .int k), ("most", .int most)]) (n := n + 3) ok hK (f_named _) (bind3 fun u v w _ => by kernel_rfl) (by kernel_rfl) (by decide +kernel) rfl rfl fun Y okY hI => ?_
  have hKY : Y.K = KK pp := hI.K.trans hK
  have hcY : Y.ctx = none := hI.ctx.trans hc
  have hPY := hI.prog.trans hP
  have hbd := rs_bounds (l.drop k)
  rw [List.length_drop] at hbd
  have htot := rs_tot (l.drop k)
  rw [List.length_drop] at htot
  have hsk := sg_rs hk
  have hcs : ∀ s ∈ (rs (l.drop k)).1, ∀ c ∈ s, c < 1000 := fun s hs c hc => by
    refine hch c (List.mem_of_mem_drop (i := k) ?_)
    rw [← rs_flat (l.drop k)]
    exact List.mem_append_left _ (List.mem_flatten.mpr ⟨s, hs, hc⟩)
  generalize hSS : (rs (l.drop k)).1 = SS at *
  generalize herr : (rs (l.drop k)).2 = err at *
  have hpair : rs (l.drop k) = (SS, err) := by rw [← hSS, ← herr]
  conv in bodyAt _ _ => whnf
  refine W.hide fun Q1 E1 hQ1 hE1 => ?_
  ((try dsimp only); (with_reducible refine WXs_cons ?_))
  ((try dsimp only); (with_reducible refine WX_Assign (hs := ?hsz371) (by assumption) ?hkz371 ?_); (case hsz371 => intro _; rfl); (case hkz371 => (have hh := In.scope ‹In _ _ _›; exact kindE hh (by kernel_rfl))))
  refine W_ListO okY ?_
  refine WA_nil ⟨by simp, fun b hb => ?_⟩
  ((try dsimp only); (with_reducible refine WXs_cons ?_))
  have t1 := tk.inst
  have t2 := tk.dict
  have hb' : σ.hp b = none := hb
  have hbd2 : b ≠ dx := hp_ne t2 hb'
  have hba : b ≠ a := hp_ne t1 hb'
  have had : a ≠ dx := kd_ne t1 t2 rfl
  have tkb : ∀ j dd L, Tk (upd (upd σ.hp dx (.dict (tokFs l j dd))) b L) a dx l j dd := fun j dd L =>
    ⟨(upd_ne hba.symm).trans ((upd_ne had).trans t1), (upd_ne hbd2.symm).trans upd_self, tk.nn⟩
  have com := fun D D' L => upd_com (hp := σ.hp) hbd2 D D' L
  have com0 := fun D' L => upd_com0 (hp := σ.hp) hbd2 D' L
  have sub := fun D L => upd_sub hbd2 hb' D L
  have tk0 : Tk (upd σ.hp b (.lst [])) a dx l i d := ⟨(upd_ne hba.symm).trans t1, (upd_ne hbd2.symm).trans t2, tk.nn⟩
  refine WX_Try (n := n + 3) (c := .ref CP) okY hI.env (ht_gl okY hKY (by (have hh := In.scope ‹In _ _ _›; exact kindE hh (by kernel_rfl))) (g_perr _) (by decide +kernel)) ?_
  refine W.hide fun Q2 E2 hQ2 hE2 => ?_
  have fin : ∀ loc hp ds j e, lk loc "told" = some (.ref b) → hp = upd (upd σ.hp dx (.dict (tokFs l j e))) b (.lst ds) → (∀ w, e ≠ .lit w) → ds = nmd k most SS err → Q2 .next ⟨loc, hp⟩ := fun loc hp ds j e h1 h2 h3 h4 => by
    have hq := q j e h3
    rw [← h4] at hq
    have g1 : hp b = some (.lst ds) := by rw [h2, upd_self]
    have g2 := sub (.dict (tokFs l j e)) (.lst ds)
    rw [← h2] at g2
    clear h2
    refine hQ2 _ _ ?_
    ((try dsimp only); (with_reducible refine WXs_cons ?_))
    ((try dsimp only); (with_reducible refine WX_Return ?_))
    ((try dsimp only); ((with_reducible refine W_local (d := ?dz376) (by assumption) ?hkz376 ?hlz376 ?qz376 ?hdz376); (case hkz376 => (have hh := In.scope ‹In _ _ _›; exact kindE hh (by kernel_rfl))); (case hlz376 => ((with_reducible assumption))); (case hdz376 => decide +kernel); (try dsimp only)))
    exact hQ1 _ _ ⟨_, _, g2, .own g1 (by rw [upd_ne hbd2]; exact hb'), hq⟩
  have finE : ∀ loc hp ds j e, lk loc "told" = some (.ref b) → hp = upd (upd σ.hp dx (.dict (tokFs l j e))) b (.lst ds) → (∀ w, e ≠ .lit w) → ds.length ≤ 10 → ds ++ [.none] = nmd k most SS err → E2 (.ref CP) ⟨loc, hp⟩ := fun loc hp ds j e h1 h2 h3 h5 h4 => by
    have g1 : hp b = some (.lst ds) := by rw [h2, upd_self]
    have hq := q j e h3
    rw [← h4] at hq
    have g3 : ∀ c o, upd σ.hp dx (.dict (tokFs l j e)) c = some o → upd hp b (.lst (ds ++ [.none])) c = some o := fun c o eo => by rw [h2, upd_upd]; exact sub _ _ c o eo
    clear h2
    refine hE2 _ _ ⟨true, match_perr hKY, ?_⟩
    rw [if_pos rfl]
    intro ee okm
    ((try dsimp only); (with_reducible refine WXs_cons ?_))
    refine WX_Expr (hs := by intro _; rfl) okm ?_
    refine W_Method (hbase := by intro _; rfl) (hfew := by intro _; rfl) (hline := by rfl) (hplain := by intro _; rfl) okm ?_
    ((try dsimp only); ((with_reducible refine W_local (d := ?dz378) (by assumption) ?hkz378 ?hlz378 ?qz378 ?hdz378); (case hkz378 => (have hh := In.scope ‹In _ _ _›; exact kindE hh (by kernel_rfl))); (case hlz378 => ((with_reducible assumption))); (case hdz378 => decide +kernel); (try dsimp only)))
    refine gm_append (ds := ds) g1 ⟨keeps_builtin, ?_⟩
    refine WA_cons ?_
    ((try dsimp only); ((with_reducible refine W_none ?_); (try dsimp only)))
    refine WA_nil ?_
    refine c_append (ds := ds) okm g1 (by omega) ?_
    have g4 : upd hp b (.lst (ds ++ [.none])) b = some (.lst (ds ++ [.none])) := upd_self
    generalize upd hp b (.lst (ds ++ [.none])) = hp2 at g3 g4 ⊢
    ((try dsimp only); ((with_reducible refine WXs_nil ?_); (try dsimp only)))
    ((try dsimp only); (with_reducible refine WXs_cons ?_))
    ((try dsimp only); (with_reducible refine WX_Return ?_))
    ((try dsimp only); ((with_reducible refine W_local (d := ?dz383) (by assumption) ?hkz383 ?hlz383 ?qz383 ?hdz383); (case hkz383 => (have hh := In.scope ‹In _ _ _›; exact kindE hh (by kernel_rfl))); (case hlz383 => ((with_reducible assumption))); (case hdz383 => decide +kernel); (try dsimp only)))
    exact hQ1 _ _ ⟨_, _, g3, .own g4 (by rw [upd_ne hbd2]; exact hb'), hq⟩
  ((try dsimp only); (with_reducible refine WXs_cons ?_))
  refine WX_Expr (hs := by intro _; rfl) okY ?_
  refine W_Method (hbase := by intro _; rfl) (hfew := by intro _; rfl) (hline := by rfl) (hplain := by intro _; rfl) okY ?_
  ((try dsimp only); ((with_reducible refine W_local (d := ?dz385) (by assumption) ?hkz385 ?hlz385 ?qz385 ?hdz385); (case hkz385 => (have hh := In.scope ‹In _ _ _›; exact kindE hh (by kernel_rfl))); (case hlz385 => ((with_reducible refine lkp_skip ?hne2z385 ?hrest2z385); (case hne2z385 => decide +kernel); (with_reducible exact lk_hit))); (case hdz385 => decide +kernel); (try dsimp only)))
  refine getm_inst okY tk0.inst tk0.dict (hKY ▸ km_seek _) (by kernel_rfl) ⟨keeps_fn hKY (by kernel_rfl), ?_⟩
  refine WA_cons ?_
  ((try dsimp only); ((with_reducible refine W_local (d := ?dz386) (by assumption) ?hkz386 ?hlz386 ?qz386 ?hdz386); (case hkz386 => (have hh := In.scope ‹In _ _ _›; exact kindE hh (by kernel_rfl))); (case hlz386 => ((with_reducible refine lkp_skip ?hne3z386 ?hrest3z386); (case hne3z386 => decide +kernel); (with_reducible refine lk_skip ?hne2z386 ?hrest2z386); (case hne2z386 => decide +kernel); (with_reducible exact lk_hit))); (case hdz386 => decide +kernel); (try dsimp only)))
  refine WA_nil ?_
  refine c_seek (n := n) okY hKY hPY hcY tk0 hl (by omega) ?_
  cases hs0 : sg l k with
  | none =>
    rw [hs0] at hsk
    cases (show (SS, err) = ([], true) from hpair.symm.trans hsk)
    dsimp only
    rw [com0]
    exact finE _ _ [] k d (by ((with_reducible exact lk_put_self))) rfl hdl (by simp) (by unfold nmd; rw [gw_nil]; simp)
  | some je =>
    obtain ⟨j0, e0⟩ := je
    rw [hs0] at hsk
    dsimp only at hsk ⊢
    rw [com0]
    have tk1 := tkb j0 e0 (.lst [])
    have gb : upd (upd σ.hp dx (.dict (tokFs l j0 e0))) b (.lst []) b = some (.lst []) := upd_self
    have com1 : ∀ D, upd (upd (upd σ.hp dx (.dict (tokFs l j0 e0))) b (.lst [])) dx D = upd (upd σ.hp dx D) b (.lst []) := fun D => com _ _ _
    generalize upd (upd σ.hp dx (.dict (tokFs l j0 e0))) b (.lst []) = hp1 at tk1 gb com1 ⊢
    ((try dsimp only); (with_reducible refine WXs_cons ?_))
    refine WX_Expr (hs := by intro _; rfl) okY ?_
    refine W_Method (hbase := by intro _; rfl) (hfew := by intro _; rfl) (hline := by rfl) (hplain := by intro _; rfl) okY ?_
    ((try dsimp only); ((with_reducible refine W_local (d := ?dz389) (by assumption) ?hkz389 ?hlz389 ?qz389 ?hdz389); (case hkz389 => (have hh := In.scope ‹In _ _ _›; exact kindE hh (by kernel_rfl))); (case hlz389 => ((with_reducible exact lk_put_self))); (case hdz389 => decide +kernel); (try dsimp only)))
    refine gm_append (ds := []) gb ⟨keeps_builtin, ?_⟩
    refine WA_cons ?_
    refine W_Tuple ?_
    refine WA_cons ?_
    refine W_Method (hbase := by intro _; rfl) (hfew := by intro _; rfl) (hline := by rfl) (hplain := by intro _; rfl) okY ?_
    ((try dsimp only); ((with_reducible refine W_local (d := ?dz390) (by assumption) ?hkz390 ?hlz390 ?qz390 ?hdz390); (case hkz390 => (have hh := In.scope ‹In _ _ _›; exact kindE hh (by kernel_rfl))); (case hlz390 => ((with_reducible refine lkp_skip ?hne2z390 ?hrest2z390); (case hne2z390 => decide +kernel); (with_reducible exact lk_hit))); (case hdz390 => decide +kernel); (try dsimp only)))
    refine getm_inst okY tk1.inst tk1.dict (hKY ▸ km_gwh _) (by kernel_rfl) ⟨keeps_fn hKY (by kernel_rfl), ?_⟩
    refine WA_cons ?_
    ((try dsimp only); ((with_reducible refine W_local (d := ?dz391) (by assumption) ?hkz391 ?hlz391 ?qz391 ?hdz391); (case hkz391 => (have hh := In.scope ‹In _ _ _›; exact kindE hh (by kernel_rfl))); (case hlz391 => ((with_reducible refine lkp_skip ?hne4z391 ?hrest4z391); (case hne4z391 => decide +kernel); (with_reducible refine lk_skip ?hne3z391 ?hrest3z391); (case hne3z391 => decide +kernel); (with_reducible refine lk_skip ?hne2z391 ?hrest2z391); (case hne2z391 => decide +kernel); (with_reducible exact lk_hit))); (case hdz391 => decide +kernel); (try dsimp only)))
    refine WA_cons ?_
    refine W_List ?_
    refine WA_cons ?_
    refine W_str s_a ?_
    refine WA_cons ?_
    refine W_str s_b ?_
    refine WA_nil ⟨by simp, ?_⟩
    refine WA_nil ?_
    refine c_gwh (n := n) (p := pab) (C := InAB) okY hKY hPY hcY tk1 hl hsk hm (by omega) (fun s hs => .str s (hcs s (List.mem_of_mem_take hs))) (fun _ => .none) (fun okZ hC qq => np_ab okZ hC qq) (fun hg j e hel => ?_) (fun hg j dd rd2 => ?_)
    · show E2 (.ref CP) ⟨_, upd hp1 dx _⟩
      rw [com1]
      obtain ⟨he, _, hR⟩ := (gwe_iff _ _ _ _).mp hg
      exact finE _ _ [] j e (by ((with_reducible exact lk_put_self))) rfl hel (by simp) (by unfold nmd; rw [if_pos ⟨he, hR⟩]; rfl)
    have hcond : ¬ (err = true ∧ (gw pab most SS).2 = []) := fun e => by
      have hne : SS = [] := by
        by_cases h : SS = []
        · exact h
        · exfalso
          have := (gwe_iff pab most SS err).mpr ⟨e.1, h, e.2⟩
          rw [hg] at this; cases this
      rw [hne] at hsk
      cases hsk with
      | nil _ _ h => rw [e.1] at h; cases h
    have hnm : nmd k most SS err = [.tup [.str (gw pab most SS).1.flatten, .int ((k : Int) + ((gw pab most SS).1.flatten.length : Nat))],
      match gu [62] [] (gw pab most SS).2 err with
      | none => .none
      | some (x, S') => .tup [.str x, .int ((k : Int) + ((gw pab most SS).1.flatten.length : Nat) + (x.length : Nat) + 1)]] := by unfold nmd; exact (if_neg hcond).trans rfl
    have hpt := gw_parts pab most SS
    have hfl : SS.flatten.length = (gw pab most SS).1.flatten.length + (gw pab most SS).2.flatten.length := by
      conv => lhs; rw [← hpt]
      simp
    clear hpt hcond hg
    generalize hF : (gw pab most SS).1 = F at hnm hfl ⊢
    generalize hR : (gw pab most SS).2 = R at hnm hfl rd2 ⊢
    dsimp only
    rw [com1]
    have tk2 := tkb j dd (.lst [])
    have gb2 : upd (upd σ.hp dx (.dict (tokFs l j dd))) b (.lst []) b = some (.lst []) := upd_self
    have eh2 : ∀ L, upd (upd (upd σ.hp dx (.dict (tokFs l j dd))) b (.lst [])) b L = upd (upd σ.hp dx (.dict (tokFs l j dd))) b L := fun L => upd_upd
    generalize upd (upd σ.hp dx (.dict (tokFs l j dd))) b (.lst []) = hp3 at tk2 gb2 eh2 ⊢
    refine WA_cons ?_
    refine W_Method (hbase := by intro _; rfl) (hfew := by intro _; rfl) (hline := by rfl) (hplain := by intro _; rfl) okY ?_
    ((try dsimp only); ((with_reducible refine W_local (d := ?dz393) (by assumption) ?hkz393 ?hlz393 ?qz393 ?hdz393); (case hkz393 => (have hh := In.scope ‹In _ _ _›; exact kindE hh (by kernel_rfl))); (case hlz393 => ((with_reducible refine lkp_skip ?hne2z393 ?hrest2z393); (case hne2z393 => decide +kernel); (with_reducible exact lk_hit))); (case hdz393 => decide +kernel); (try dsimp only)))
    refine getm_inst okY tk2.inst tk2.dict (hKY ▸ km_tell _) (by kernel_rfl) ⟨keeps_fn hKY (by kernel_rfl), ?_⟩
    refine WA_nil ?_
    refine c_tell (n := n + 2) okY hKY tk2 rd2.sgn ?_
    have hz : (j : Int) - (nlen dd : Nat) = (k : Int) + (F.flatten.length : Nat) := by
      rw [pos_sub rd2 htot hk, hfl]; exact ar1
    rw [hz]
    refine WA_nil ⟨by simp, ?_⟩
    refine WA_nil ?_
    refine c_append (ds := []) okY gb2 (by simp) ?_
    rw [eh2]
    have tk4 := tkb j dd (.lst ([] ++ [.tup [.str F.flatten, .int ((k : Int) + (F.flatten.length : Nat))]]))
    have gb4 : upd (upd σ.hp dx (.dict (tokFs l j dd))) b (.lst ([] ++ [.tup [.str F.flatten, .int ((k : Int) + (F.flatten.length : Nat))]])) b = some (.lst [.tup [.str F.flatten, .int ((k : Int) + (F.flatten.length : Nat))]]) := upd_self
    have com4 : ∀ D, upd (upd (upd σ.hp dx (.dict (tokFs l j dd))) b (.lst ([] ++ [.tup [.str F.flatten, .int ((k : Int) + (F.flatten.length : Nat))]]))) dx D = upd (upd σ.hp dx D) b (.lst [.tup [.str F.flatten, .int ((k : Int) + (F.flatten.length : Nat))]]) := fun D => com _ _ _
    generalize upd (upd σ.hp dx (.dict (tokFs l j dd))) b (.lst ([] ++ [.tup [.str F.flatten, .int ((k : Int) + (F.flatten.length : Nat))]])) = hp4 at tk4 gb4 com4 ⊢
    ((try dsimp only); (with_reducible refine WXs_cons ?_))
    refine WX_Expr (hs := by intro _; rfl) okY ?_
    refine W_Method (hbase := by intro _; rfl) (hfew := by intro _; rfl) (hline := by rfl) (hplain := by intro _; rfl) okY ?_
    ((try dsimp only); ((with_reducible refine W_local (d := ?dz395) (by assumption) ?hkz395 ?hlz395 ?qz395 ?hdz395); (case hkz395 => (have hh := In.scope ‹In _ _ _›; exact kindE hh (by kernel_rfl))); (case hlz395 => ((with_reducible exact lk_put_self))); (case hdz395 => decide +kernel); (try dsimp only)))
    refine gm_append gb4 ⟨keeps_builtin, ?_⟩
    refine WA_cons ?_
    refine W_Tuple ?_
    refine WA_cons ?_
    refine W_Method (hbase := by intro _; rfl) (hfew := by intro _; rfl) (hline := by rfl) (hplain := by intro _; rfl) okY ?_
    ((try dsimp only); ((with_reducible refine W_local (d := ?dz396) (by assumption) ?hkz396 ?hlz396 ?qz396 ?hdz396); (case hkz396 => (have hh := In.scope ‹In _ _ _›; exact kindE hh (by kernel_rfl))); (case hlz396 => ((with_reducible refine lkp_skip ?hne2z396 ?hrest2z396); (case hne2z396 => decide +kernel); (with_reducible exact lk_hit))); (case hdz396 => decide +kernel); (try dsimp only)))
    refine getm_inst okY tk4.inst tk4.dict (hKY ▸ km_gun _) (by kernel_rfl) ⟨keeps_fn hKY (by kernel_rfl), ?_⟩
    refine WA_cons ?_
    refine W_str s_gt ?_
    refine WA_cons ?_
    refine W_str s_name ?_
    refine WA_nil ?_
    refine c_gun (n := n) okY hKY hPY hcY tk4 hl rd2 (by simp) (by simp) (tot_le htot hfl) ?_
    cases hgu : gu [62] [] R err with
    | none =>
      rw [hgu] at hnm
      dsimp only at hnm ⊢
      intro j5 e5 hel
      rw [com4]
      exact finE _ _ _ j5 e5 (by ((with_reducible exact lk_put_self))) rfl hel (by simp) hnm.symm
    | some x =>
      obtain ⟨r, S'⟩ := x
      rw [hgu] at hnm
      have hgl := gu_len hgu
      dsimp only at hnm ⊢
      intro j5 e5 rd5
      rw [com4]
      have tk5 := tkb j5 e5 (.lst [.tup [.str F.flatten, .int ((k : Int) + (F.flatten.length : Nat))]])
      have gb5 : upd (upd σ.hp dx (.dict (tokFs l j5 e5))) b (.lst [.tup [.str F.flatten, .int ((k : Int) + (F.flatten.length : Nat))]]) b = some (.lst [.tup [.str F.flatten, .int ((k : Int) + (F.flatten.length : Nat))]]) := upd_self
      have eh5 : ∀ L, upd (upd (upd σ.hp dx (.dict (tokFs l j5 e5))) b (.lst [.tup [.str F.flatten, .int ((k : Int) + (F.flatten.length : Nat))]])) b L = upd (upd σ.hp dx (.dict (tokFs l j5 e5))) b L := fun L => upd_upd
      generalize upd (upd σ.hp dx (.dict (tokFs l j5 e5))) b (.lst [.tup [.str F.flatten, .int ((k : Int) + (F.flatten.length : Nat))]]) = hp6 at tk5 gb5 eh5 ⊢
      refine WA_cons ?_
      refine W_Method (hbase := by intro _; rfl) (hfew := by intro _; rfl) (hline := by rfl) (hplain := by intro _; rfl) okY ?_
      ((try dsimp only); ((with_reducible refine W_local (d := ?dz398) (by assumption) ?hkz398 ?hlz398 ?qz398 ?hdz398); (case hkz398 => (have hh := In.scope ‹In _ _ _›; exact kindE hh (by kernel_rfl))); (case hlz398 => ((with_reducible refine lkp_skip ?hne2z398 ?hrest2z398); (case hne2z398 => decide +kernel); (with_reducible exact lk_hit))); (case hdz398 => decide +kernel); (try dsimp only)))
      refine getm_inst okY tk5.inst tk5.dict (hKY ▸ km_tell _) (by kernel_rfl) ⟨keeps_fn hKY (by kernel_rfl), ?_⟩
      refine WA_nil ?_
      refine c_tell (n := n + 2) okY hKY tk5 rd5.sgn ?_
      have hz2 : (j5 : Int) - (nlen e5 : Nat) = (k : Int) + (F.flatten.length : Nat) + (r.length : Nat) + 1 := by
        rw [pos_sub rd5 htot hk, hfl, hgl]; exact ar2
      rw [hz2]
      refine WA_nil ⟨by simp, ?_⟩
      refine WA_nil ?_
      refine c_append (ds := [.tup [.str F.flatten, .int ((k : Int) + (F.flatten.length : Nat))]]) okY gb5 (by simp) ?_
      rw [eh5]
      ((try dsimp only); ((with_reducible refine WXs_nil ?_); (try dsimp only)))
      exact fin _ _ _ j5 e5 (by ((with_reducible exact lk_put_self))) rfl rd5.lit hnm.symm
end Mine
namespace Mine
open PySem PySem.W PySem.Calls PySem.Spec PyProof.Rows
theorem acc_gen {α : Type} (L : List α) (d : α) (p : α → Bool) (g : α → V) : accOf (fun i => p (L.getD i d)) (fun i => g (L.getD i d)) L.length = (L.filter p).map g := by
  unfold accOf
  have e : (List.range L.length).map (fun i => L.getD i d) = L := by
    apply List.ext_getElem
    · simp
    · intro i h1 h2; simp [List.getD_eq_getElem?_getD, h2]
  have e2 : (L.filter p).map g = (((List.range L.length).map fun i => L.getD i d).filter p).map g := by rw [e]
  rw [e2, List.filter_map, List.map_map]
  rfl
theorem acc_all {α : Type} (L : List α) (d : α) (g : α → V) : accOf (fun _ => true) (fun i => g (L.getD i d)) L.length = L.map g := by
  have := acc_gen L d (fun _ => true) g
  rw [this, List.filter_eq_self.mpr (by simp)]
theorem fmod_nat (n : Int) (k : Nat) (hk : 0 < k) : n.fmod k = ((n.fmod k).toNat : Int) ∧ (n.fmod k).toNat < k := by
  rw [Int.fmod_eq_emod_of_nonneg n (by omega)]
  have h1 := Int.emod_nonneg n (b := (k : Int)) (by omega)
  have h2 := Int.emod_lt_of_pos n (b := (k : Int)) (by omega)
  omega
theorem slc_from {α : Type} (l : List α) (k : Nat) : slc l (some (k : Int)) none = l.drop k := by
  unfold slc kms_lo kms_hi
  dsimp only
  rw [if_neg (by omega)]
  simp
  by_cases h : k ≤ l.length
  · rw [Nat.min_eq_left h, List.take_of_length_le (by simp)]
  · rw [List.drop_eq_nil_of_le (by omega), List.drop_eq_nil_of_le (by omega)]; simp
theorem slc_at {α : Type} (l : List α) (i k : Nat) (h : i ≤ k) (hk : k ≤ l.length) : slc l (some (i : Int)) (some (k : Int)) = (l.drop i).take (k - i) := by
  unfold slc kms_lo kms_hi
  dsimp only
  rw [if_neg (by omega), if_neg (by omega)]
  simp
  rw [Nat.min_eq_left hk, Nat.min_eq_left (by omega)]
theorem ints_getD (L : List Int) (i : Nat) (hi : i < L.length) : (L.map V.int).getD i .none = .int (L.getD i 0) := by
  rw [List.getD_eq_getElem?_getD, List.getD_eq_getElem?_getD]; simp [hi]
theorem nats_getD (L : List Nat) (i : Nat) (hi : i < L.length) : (L.map fun k => V.int (k : Nat)).getD i .none = .int (L.getD i 0 : Nat) := by
  rw [List.getD_eq_getElem?_getD, List.getD_eq_getElem?_getD]; simp [hi]
theorem strOk_of {s : List Nat} (h : ∀ c ∈ s, c < 1000) : PyData.strOk (mk s) = true := by
  unfold PyData.strOk; simp; intro c hc; have := h c hc; omega
theorem shp_due1 : Shp (.lst [.none]) := ⟨rfl, by decide +kernel⟩
theorem shp_due2 {s : List Nat} {z : Int} (h : ∀ c ∈ s, c < 1000) : Shp (.lst [.tup [.str s, .int z], .none]) := by
  refine ⟨rfl, ?_⟩
  simp [V.dat, V.dats, PyData.canLay0, PyData.canLayAll0, PyData.depth, PyData.depthAll, strOk_of h]
theorem shp_due3 {s s' : List Nat} {z z' : Int} (h : ∀ c ∈ s, c < 1000) (h' : ∀ c ∈ s', c < 1000) : Shp (.lst [.tup [.str s, .int z], .tup [.str s', .int z']]) := by
  refine ⟨rfl, ?_⟩
  simp [V.dat, V.dats, PyData.canLay0, PyData.canLayAll0, PyData.depth, PyData.depthAll, strOk_of h, strOk_of h']
theorem rws_ok (z : Int) (S : List (List Nat)) (h : ∀ s ∈ S, ∀ c ∈ s, c < 1000) : ∀ p ∈ rws z S, ∃ z s, p = (.int z, .str s) ∧ ∀ c ∈ s, c < 1000 := by
  induction S generalizing z with
  | nil => intro p hp; cases hp
  | cons s S ih =>
    intro p hp
    rcases List.mem_cons.mp hp with rfl | hp
    · exact ⟨_, s, rfl, h s (by simp)⟩
    · exact ih _ (fun s hs => h s (by simp [hs])) p hp
theorem shp_rd {R : List (V × V)} {d : V} (hd : d = .none ∨ ∃ z, d = .int z) (h : ∀ p ∈ R, ∃ z s, p = (.int z, .str s) ∧ ∀ c ∈ s, c < 1000) : Shp (.tup [.lst (R.map tv), d]) := by
  have p1 : V.plains (R.map tv) = true := by
    induction R with
    | nil => rfl
    | cons k ks ih =>
      have ih' := ih fun p hp => h p (by simp [hp])
      obtain ⟨z, s, rfl, _⟩ := h k (by simp)
      simp [V.plains, V.plain, tv, ih']
  have p2 : PyData.canLayAll0 (V.dats (R.map tv)) = true ∧ PyData.depthAll (V.dats (R.map tv)) ≤ 5 := by
    clear p1
    induction R with
    | nil => exact ⟨rfl, by decide⟩
    | cons k ks ih =>
      obtain ⟨i1, i2⟩ := ih fun p hp => h p (by simp [hp])
      obtain ⟨z, s, rfl, hs⟩ := h k (by simp)
      simp [V.dats, V.dat, tv, PyData.canLayAll0, PyData.canLay0, PyData.depthAll, PyData.depth, i1]
      exact ⟨strOk_of hs, by omega⟩
  obtain ⟨i1, i2⟩ := p2
  rcases hd with rfl | ⟨z, rfl⟩
  · refine ⟨by simp [V.plain, V.plains, p1], ?_⟩
    simp [V.dat, V.dats, PyData.canLay0, PyData.canLayAll0, PyData.depth, PyData.depthAll, i1]
    omega
  · refine ⟨by simp [V.plain, V.plains, p1], ?_⟩
    simp [V.dat, V.dats, PyData.canLay0, PyData.canLayAll0, PyData.depth, PyData.depthAll, i1]
    omega
theorem W_at {α β : Type} {X : Cx} {t : Sem α} {R : (Addr → Prop) → Heap → α → β → Prop} {σ : S} {Q : β → S → Prop} {E : Value → S → Prop} {b : β} (h : ∀ Q2 : β → S → Prop, Q2 b σ → W X t R σ Q2 E) (q : Q b σ) : W X t R σ Q E := h Q q
noncomputable def forAt : List Stmt → List Stmt
  | [] => []
  | (.For _ _ body _ _) :: _ => body
  | _ :: r => forAt r
noncomputable def mkd (SS : List (List Nat)) (err : Bool) : List Nat := mS SS ++ (if err then [92] else [])
theorem mkd_len (SS : List (List Nat)) (err : Bool) : (mkd SS err).length = SS.flatten.length + (if err then 1 else 0) := by
  unfold mkd; rw [List.length_append, mS_len]; cases err <;> rfl
theorem front_is (mo : Nat) (SS : List (List Nat)) (err : Bool) (h : ∀ z ∈ SS, Sh z) : min (mo : Int) (((mkd SS err).length : Int) - (((mkd SS err).dropWhile fun c => [97, 98].contains c).length : Nat)) = ((gw pab mo SS).1.flatten.length : Nat) := by
  have e := tkw_is SS h (if err then [92] else []) (by cases err <;> simp)
  have hd : ((mkd SS err).dropWhile fun c => [97, 98].contains c).length ≤ (mkd SS err).length := List.Sublist.length_le (List.dropWhile_sublist _)
  rw [gw_flat, gw_count, ← e]
  unfold mkd at hd ⊢
  omega
theorem al5_lt {T : List Nat} (h : ∀ c ∈ T, c ∈ al5) : ∀ c ∈ T, c < 1000 := fun c hc => by
  have := h c hc
  simp only [al5, List.mem_cons, List.not_mem_nil, or_false] at this
  omega
theorem mkd_tot {SS : List (List Nat)} {err : Bool} {R : List Nat} (h : SS.flatten ++ (if err then [92] else []) = R) : (mkd SS err).length = R.length := by
  rw [← h, mkd_len, List.length_append]; cases err <;> rfl
theorem rs_shT {T : List Nat} {p : Nat} {SS : List (List Nat)} {err : Bool} (hTa : ∀ c ∈ T, c ∈ al5) (hS : rs (T.drop p) = (SS, err)) : ∀ z ∈ SS, Sh z := by
  have := rs_sh (T.drop p) fun c hc => hTa c (List.mem_of_mem_drop hc)
  rw [hS] at this; exact this
theorem rs_flT {R : List Nat} {SS : List (List Nat)} {err : Bool} (hS : rs R = (SS, err)) : SS.flatten ++ (if err then [92] else []) = R := by
  have := rs_flat R; rw [hS] at this; exact this
end Mine
namespace Mine
open PySem PySem.W PySem.Calls PySem.Spec PyProof.Rows
theorem s_ab : (Str.ofString "ab").cps.toList = [97, 98] := by decide +kernel
inductive NInv (T : List Nat) (SS : List (List Nat)) (err : Bool) (L p : Nat) (a dx : Addr) (i : Nat) (σ' : S) : Prop
  | mk (j : Nat) (e : V) (tk : Tk σ'.hp a dx T j e) (hel : ∀ w, e ≠ .lit w) (g1 : σ'.hp (L + 1) = some (.cell (some (.int p)))) (g2 : σ'.hp (L + 2) = some (.cell (some (.str (T.drop p))))) (g3 : σ'.hp (L + 3) = some (.cell (some (.str (mkd SS err)))))
    (et : lk σ'.loc "t" = some (.ref a)) (es : lk σ'.loc "size" = some (.int T.length)) (elo : lk σ'.loc "lone" = some (.bool err)) (efa : lk σ'.loc "far" = some (.int SS.flatten.length)) (eah : lk σ'.loc "ahead" = some (.int (ahd SS err))) (ex : lk σ'.loc "text" = some (.str T))
set_option maxHeartbeats 8000000 in
theorem w_inner {pp : Params} {X : Cx} {n : Nat} {L : Nat} (hK : X.K = KK pp) (hP : X.prog = PySem.Challenge.rw_ij0062_05.row.prog) (hc : X.ctx = none) (hI : In X X (fdAt (KK pp) 163))
    (c1 : X.env.cells.lookup ("place" : Str) = some (L + 1)) (c2 : X.env.cells.lookup ("rest" : Str) = some (L + 2)) (c3 : X.env.cells.lookup ("masked" : Str) = some (L + 3)) (T : List Nat) (hTl : T.length ≤ 64) (hTa : ∀ c ∈ T, c ∈ al5) (p : Nat) (hp0 : p ≤ T.length) (SS : List (List Nat)) (err : Bool) (hS : rs (T.drop p) = (SS, err))
    (a dx : Addr) (i : Nat) (hi : i < 4) (loc : List (Str × V)) (hp : Addr → Option HO) (j : Nat) (e : V) (tk : Tk hp a dx T j e) (hel : ∀ w, e ≠ .lit w) (g1 : hp (L + 1) = some (.cell (some (.int p)))) (g2 : hp (L + 2) = some (.cell (some (.str (T.drop p))))) (g3 : hp (L + 3) = some (.cell (some (.str (mkd SS err)))))
    (et : lk loc "t" = some (.ref a)) (es : lk loc "size" = some (.int T.length)) (elo : lk loc "lone" = some (.bool err)) (efa : lk loc "far" = some (.int SS.flatten.length)) (eah : lk loc "ahead" = some (.int (ahd SS err))) (em : lk loc "most" = some (.int i)) (ex : lk loc "text" = some (.str T))
    (wr : List Addr) (wr2 : List Addr) (okw : Ok ((X.watch wr).watch wr2) (n + 8)) (Q2 : FV → S → Prop) (hQ2 : ∀ fl σ', (match fl with | .next => NInv T SS err L p a dx (i + 1) σ' | .cont => NInv T SS err L p a dx (i + 1) σ' | _ => False) → Q2 fl σ') : WXs ((X.watch wr).watch wr2) (forAt (forAt (bodyAt (KK pp) 163))) ⟨loc, hp⟩ Q2 F0 := by
  conv in forAt _ => whnf
  have hSh := rs_shT hTa hS
  have hdl : (T.drop p).length ≤ 64 := by rw [List.length_drop]; omega
  have hfl := rs_flT hS
  have hml := mkd_tot hfl
  have hT3 := al5_lt hTa
  have hsp := nmd_spec (p : Int) i hfl hSh
  have hfr := front_is i SS err hSh
  have hfle : (gw pab i SS).1.flatten.length ≤ SS.flatten.length := by
    have := gw_parts pab i SS
    have := congrArg (fun z => z.flatten.length) this
    simp only [List.flatten_append, List.length_append] at this
    omega
  have hdm : ((mkd SS err).dropWhile fun c => [97, 98].contains c).length ≤ (mkd SS err).length := List.Sublist.length_le (List.dropWhile_sublist _)
  have hch : ∀ m : List Nat, (∀ c ∈ m, c ∈ T.drop p) → ∀ c ∈ m, c < 1000 := fun m h c hc => hT3 c (List.mem_of_mem_drop (h c hc))
  have hnm : ∀ d0 : Nat, (rs (T.drop p)).1 = SS ∧ (rs (T.drop p)).2 = err := fun _ => by rw [hS]; exact ⟨rfl, rfl⟩
  ((try dsimp only); (with_reducible refine WXs_cons ?_))
  ((try dsimp only); (with_reducible refine WX_Assign (hs := ?hsz402) (by assumption) ?hkz402 ?_); (case hsz402 => intro _; rfl); (case hkz402 => (have hh := In.scope ‹In _ _ _›; exact kindE hh (by kernel_rfl))))
  refine W_Call (hplain := by intro _; rfl) okw ?_
  refine W_bi (v := .builtin "min") okw hK (by (have hh := In.scope ‹In _ _ _›; exact kindE hh (by kernel_rfl))) (b_min _) (by kernel_rfl) (by decide +kernel) (by decide +kernel) ?_
  refine ⟨_, rfl, keeps_builtin, ?_⟩
  refine WA_cons ?_
  ((try dsimp only); ((with_reducible refine W_local (d := ?dz404) (by assumption) ?hkz404 ?hlz404 ?qz404 ?hdz404); (case hkz404 => (have hh := In.scope ‹In _ _ _›; exact kindE hh (by kernel_rfl))); (case hlz404 => ((with_reducible assumption))); (case hdz404 => decide +kernel); (try dsimp only)))
  refine WA_cons ?_
  ((try dsimp only); (with_reducible refine W_BinOp ?_))
  refine W_Call (hplain := by intro _; rfl) okw ?_
  refine W_bi (v := .builtin "len") okw hK (by (have hh := In.scope ‹In _ _ _›; exact kindE hh (by kernel_rfl))) (b_len _) (by kernel_rfl) (by decide +kernel) (by decide +kernel) ?_
  refine ⟨_, rfl, keeps_builtin, ?_⟩
  refine WA_cons ?_
  refine W_cell okw (by (have hh := In.scope ‹In _ _ _›; exact kindE hh (by kernel_rfl))) c3 g3 ?_ (by decide +kernel)
  refine WA_nil ?_
  refine c_lens (by omega) ?_
  refine W_Call (hplain := by intro _; rfl) okw ?_
  refine W_bi (v := .builtin "len") okw hK (by (have hh := In.scope ‹In _ _ _›; exact kindE hh (by kernel_rfl))) (b_len _) (by kernel_rfl) (by decide +kernel) (by decide +kernel) ?_
  refine ⟨_, rfl, keeps_builtin, ?_⟩
  refine WA_cons ?_
  refine W_Method (hbase := by intro _; rfl) (hfew := by intro _; rfl) (hline := by rfl) (hplain := by intro _; rfl) okw ?_
  refine W_cell okw (by (have hh := In.scope ‹In _ _ _›; exact kindE hh (by kernel_rfl))) c3 g3 ?_ (by decide +kernel)
  refine gm_str F.slot_str_lstrip F.type_str_lstrip ⟨keeps_builtin, ?_⟩
  refine WA_cons ?_
  refine W_str s_ab ?_
  refine WA_nil ?_
  refine c_lstrip (by omega) ?_
  refine WA_nil ?_
  refine c_lens (by omega) ?_
  refine o_subi ?_
  refine WA_nil ?_
  refine c_min2 okw hc ?_
  rw [hfr]
  generalize (gw pab i SS).1.flatten.length = f at hsp hfle ⊢
  ((try dsimp only); (with_reducible refine WXs_cons ?_))
  ((try dsimp only); (with_reducible refine WX_Assign (hs := ?hsz411) (by assumption) ?hkz411 ?_); (case hsz411 => intro _; rfl); (case hkz411 => (have hh := In.scope ‹In _ _ _›; exact kindE hh (by kernel_rfl))))
  refine W_List ?_
  refine WA_cons ?_
  refine W_Tuple ?_
  refine WA_cons ?_
  refine W_SliceStr (ht := by intro _ _ _; with_unfolding_all rfl) ?_
  refine W_cell okw (by (have hh := In.scope ‹In _ _ _›; exact kindE hh (by kernel_rfl))) c2 g2 ?_ (by decide +kernel)
  refine WP_none ?_
  refine WP_some ?_
  ((try dsimp only); ((with_reducible refine W_local (d := ?dz413) (by assumption) ?hkz413 ?hlz413 ?qz413 ?hdz413); (case hkz413 => (have hh := In.scope ‹In _ _ _›; exact kindE hh (by kernel_rfl))); (case hlz413 => ((with_reducible exact lk_put_self))); (case hdz413 => decide +kernel); (try dsimp only)))
  refine ⟨_, _, _, rfl, by omega, .none, .int _, ?_⟩
  rw [slc_to]
  refine WA_cons ?_
  ((try dsimp only); (with_reducible refine W_BinOp ?_))
  refine W_cell okw (by (have hh := In.scope ‹In _ _ _›; exact kindE hh (by kernel_rfl))) c1 g1 ?_ (by decide +kernel)
  ((try dsimp only); ((with_reducible refine W_local (d := ?dz416) (by assumption) ?hkz416 ?hlz416 ?qz416 ?hdz416); (case hkz416 => (have hh := In.scope ‹In _ _ _›; exact kindE hh (by kernel_rfl))); (case hlz416 => ((with_reducible exact lk_put_self))); (case hdz416 => decide +kernel); (try dsimp only)))
  refine o_addi ?_
  refine WA_nil ⟨by simp, ?_⟩
  refine WA_cons ?_
  ((try dsimp only); ((with_reducible refine W_none ?_); (try dsimp only)))
  refine WA_nil ⟨by simp, ?_⟩
  ((try dsimp only); (with_reducible refine WXs_cons ?_))
  refine W.hideQ fun Q3 hQ3 => ?_
  have H : ∀ loc' D, D = nmd p i SS err → Shp (.lst D) → lk loc' "due" = some (.lst D) → lk loc' "t" = some (.ref a) → lk loc' "size" = some (.int T.length) → lk loc' "lone" = some (.bool err) → lk loc' "far" = some (.int SS.flatten.length) → lk loc' "ahead" = some (.int (ahd SS err)) → lk loc' "most" = some (.int i) → lk loc' "text" = some (.str T) → Q3 .next ⟨loc', hp⟩ := by
    intro loc' D hD hshp ed' et' es' elo' efa' eah' em' ex'
    refine hQ3 _ _ ?_
    clear hQ3 et es elo efa eah em ex
    ((try dsimp only); (with_reducible refine WXs_cons ?_))
    ((try dsimp only); (with_reducible refine WX_If ?_))
    ((try dsimp only); ((with_reducible refine WT_Compare (hm := ?hmz421) ?_); (case hmz421 => with_unfolding_all rfl)))
    refine W_Call (hplain := by intro _; rfl) okw ?_
    refine W_gl okw hK (by (have hh := In.scope ‹In _ _ _›; exact kindE hh (by kernel_rfl))) (g_named _) (by decide +kernel) ?_
    refine ⟨_, rfl, keeps_fn hK (by kernel_rfl), ?_⟩
    refine WA_cons ?_
    ((try dsimp only); ((with_reducible refine W_local (d := ?dz423) (by assumption) ?hkz423 ?hlz423 ?qz423 ?hdz423); (case hkz423 => (have hh := In.scope ‹In _ _ _›; exact kindE hh (by kernel_rfl))); (case hlz423 => ((with_reducible assumption))); (case hdz423 => decide +kernel); (try dsimp only)))
    refine WA_cons ?_
    refine W_cell okw (by (have hh := In.scope ‹In _ _ _›; exact kindE hh (by kernel_rfl))) c1 g1 ?_ (by decide +kernel)
    refine WA_cons ?_
    ((try dsimp only); ((with_reducible refine W_local (d := ?dz425) (by assumption) ?hkz425 ?hlz425 ?qz425 ?hdz425); (case hkz425 => (have hh := In.scope ‹In _ _ _›; exact kindE hh (by kernel_rfl))); (case hlz425 => ((with_reducible assumption))); (case hdz425 => decide +kernel); (try dsimp only)))
    refine WA_nil ?_
    refine c_named (n := n + 4) okw hK hP hc tk hel (by omega) hp0 (by omega) hT3 fun j' e' hel' => ?_
    rw [hS]
    dsimp only
    rw [← hD]
    have tk' := tk.upd j' e'
    have q1 : ∀ D, upd hp dx (.dict D) (L + 1) = some (.cell (some (.int p))) := fun D => (upd_ne (kd_ne g1 tk.dict rfl)).trans g1
    have q2 : ∀ D, upd hp dx (.dict D) (L + 2) = some (.cell (some (.str (T.drop p)))) := fun D => (upd_ne (kd_ne g2 tk.dict rfl)).trans g2
    have q3 : ∀ D, upd hp dx (.dict D) (L + 3) = some (.cell (some (.str (mkd SS err)))) := fun D => (upd_ne (kd_ne g3 tk.dict rfl)).trans g3
    replace q1 := q1 (tokFs T j' e')
    replace q2 := q2 (tokFs T j' e')
    replace q3 := q3 (tokFs T j' e')
    generalize upd hp dx (.dict (tokFs T j' e')) = hp' at tk' q1 q2 q3 ⊢
    ((try dsimp only); ((with_reducible refine W_local (d := ?dz426) (by assumption) ?hkz426 ?hlz426 ?qz426 ?hdz426); (case hkz426 => (have hh := In.scope ‹In _ _ _›; exact kindE hh (by kernel_rfl))); (case hlz426 => ((with_reducible assumption))); (case hdz426 => decide +kernel); (try dsimp only)))
    refine o_ned okw hshp hshp (t_bool ?_)
    rw [eqv_self hshp, if_neg (by decide)]
    ((try dsimp only); ((with_reducible refine WXs_nil ?_); (try dsimp only)))
    ((try dsimp only); ((with_reducible refine WXs_nil ?_); (try dsimp only)))
    exact hQ2 _ _ ⟨j', e', tk', hel', q1, q2, q3, et', es', elo', efa', eah', ex'⟩
  clear hQ3
  refine WX_If ?_
  refine W_at (b := decide (err = true ∧ (f : Int) = SS.flatten.length)) (fun Q4 H4 => ?_) ?_
  · show WT _ _ _ _ _
    refine WT_And2 ?_
    refine WT_value (he := by intro _ _; rfl) ?_
    ((try dsimp only); ((with_reducible refine W_local (d := ?dz429) (by assumption) ?hkz429 ?hlz429 ?qz429 ?hdz429); (case hkz429 => (have hh := In.scope ‹In _ _ _›; exact kindE hh (by kernel_rfl))); (case hlz429 => ((with_reducible refine lkp_skip ?hne3z429 ?hrest3z429); (case hne3z429 => decide +kernel); (with_reducible refine lkp_skip ?hne2z429 ?hrest2z429); (case hne2z429 => decide +kernel); (with_reducible assumption))); (case hdz429 => decide +kernel); (try dsimp only)))
    refine t_bool ?_
    cases err with
    | true =>
      rw [if_pos rfl]
      ((try dsimp only); ((with_reducible refine WT_Compare (hm := ?hmz430) ?_); (case hmz430 => with_unfolding_all rfl)))
      ((try dsimp only); ((with_reducible refine W_local (d := ?dz431) (by assumption) ?hkz431 ?hlz431 ?qz431 ?hdz431); (case hkz431 => (have hh := In.scope ‹In _ _ _›; exact kindE hh (by kernel_rfl))); (case hlz431 => ((with_reducible refine lkp_skip ?hne2z431 ?hrest2z431); (case hne2z431 => decide +kernel); (with_reducible exact lk_put_self))); (case hdz431 => decide +kernel); (try dsimp only)))
      ((try dsimp only); ((with_reducible refine W_local (d := ?dz432) (by assumption) ?hkz432 ?hlz432 ?qz432 ?hdz432); (case hkz432 => (have hh := In.scope ‹In _ _ _›; exact kindE hh (by kernel_rfl))); (case hlz432 => ((with_reducible refine lkp_skip ?hne3z432 ?hrest3z432); (case hne3z432 => decide +kernel); (with_reducible refine lkp_skip ?hne2z432 ?hrest2z432); (case hne2z432 => decide +kernel); (with_reducible assumption))); (case hdz432 => decide +kernel); (try dsimp only)))
      refine o_eqi (t_bool ?_)
      have : ((f : Int) == SS.flatten.length) = decide (true = true ∧ (f : Int) = SS.flatten.length) := Bool.eq_iff_iff.mpr (by simp)
      rw [this]; exact H4
    | false =>
      rw [if_neg (by decide)]
      have : false = decide (false = true ∧ (f : Int) = SS.flatten.length) := by simp
      rw [this]; exact H4
  by_cases h1 : err = true ∧ (f : Int) = SS.flatten.length
  · rw [if_pos (decide_eq_true h1)]
    ((try dsimp only); (with_reducible refine WXs_cons ?_))
    ((try dsimp only); (with_reducible refine WX_Assign (hs := ?hsz434) (by assumption) ?hkz434 ?_); (case hsz434 => intro _; rfl); (case hkz434 => (have hh := In.scope ‹In _ _ _›; exact kindE hh (by kernel_rfl))))
    refine W_List ?_
    refine WA_cons ?_
    ((try dsimp only); ((with_reducible refine W_none ?_); (try dsimp only)))
    refine WA_nil ⟨by simp, ?_⟩
    ((try dsimp only); ((with_reducible refine WXs_nil ?_); (try dsimp only)))
    exact H _ _ (hsp.lone h1.1 h1.2).symm shp_due1 (by ((with_reducible exact lk_put_self))) (by ((with_reducible refine lkp_skip ?hne4z438 ?hrest4z438); (case hne4z438 => decide +kernel); (with_reducible refine lkp_skip ?hne3z438 ?hrest3z438); (case hne3z438 => decide +kernel); (with_reducible refine lkp_skip ?hne2z438 ?hrest2z438); (case hne2z438 => decide +kernel); (with_reducible assumption))) (by ((with_reducible refine lkp_skip ?hne4z439 ?hrest4z439); (case hne4z439 => decide +kernel); (with_reducible refine lkp_skip ?hne3z439 ?hrest3z439); (case hne3z439 => decide +kernel); (with_reducible refine lkp_skip ?hne2z439 ?hrest2z439); (case hne2z439 => decide +kernel); (with_reducible assumption))) (by ((with_reducible refine lkp_skip ?hne4z440 ?hrest4z440); (case hne4z440 => decide +kernel); (with_reducible refine lkp_skip ?hne3z440 ?hrest3z440); (case hne3z440 => decide +kernel); (with_reducible refine lkp_skip ?hne2z440 ?hrest2z440); (case hne2z440 => decide +kernel); (with_reducible assumption))) (by ((with_reducible refine lkp_skip ?hne4z441 ?hrest4z441); (case hne4z441 => decide +kernel); (with_reducible refine lkp_skip ?hne3z441 ?hrest3z441); (case hne3z441 => decide +kernel); (with_reducible refine lkp_skip ?hne2z441 ?hrest2z441); (case hne2z441 => decide +kernel); (with_reducible assumption))) (by ((with_reducible refine lkp_skip ?hne4z442 ?hrest4z442); (case hne4z442 => decide +kernel); (with_reducible refine lkp_skip ?hne3z442 ?hrest3z442); (case hne3z442 => decide +kernel); (with_reducible refine lkp_skip ?hne2z442 ?hrest2z442); (case hne2z442 => decide +kernel); (with_reducible assumption))) (by ((with_reducible refine lkp_skip ?hne4z443 ?hrest4z443); (case hne4z443 => decide +kernel); (with_reducible refine lkp_skip ?hne3z443 ?hrest3z443); (case hne3z443 => decide +kernel); (with_reducible refine lkp_skip ?hne2z443 ?hrest2z443); (case hne2z443 => decide +kernel); (with_reducible assumption))) (by ((with_reducible refine lkp_skip ?hne4z444 ?hrest4z444); (case hne4z444 => decide +kernel); (with_reducible refine lkp_skip ?hne3z444 ?hrest3z444); (case hne3z444 => decide +kernel); (with_reducible refine lkp_skip ?hne2z444 ?hrest2z444); (case hne2z444 => decide +kernel); (with_reducible assumption)))
  rw [if_neg (by rw [decide_eq_false h1]; decide)]
  ((try dsimp only); (with_reducible refine WXs_cons ?_))
  refine WX_If ?_
  refine W_at (b := decide ((f : Int) < ahd SS err ∧ ¬ (err = true ∧ ahd SS err + 1 = SS.flatten.length))) (fun Q4 H4 => ?_) ?_
  · show WT _ _ _ _ _
    refine WT_And2 ?_
    ((try dsimp only); ((with_reducible refine WT_Compare (hm := ?hmz446) ?_); (case hmz446 => with_unfolding_all rfl)))
    ((try dsimp only); ((with_reducible refine W_local (d := ?dz447) (by assumption) ?hkz447 ?hlz447 ?qz447 ?hdz447); (case hkz447 => (have hh := In.scope ‹In _ _ _›; exact kindE hh (by kernel_rfl))); (case hlz447 => ((with_reducible refine lkp_skip ?hne3z447 ?hrest3z447); (case hne3z447 => decide +kernel); (with_reducible refine lkp_skip ?hne2z447 ?hrest2z447); (case hne2z447 => decide +kernel); (with_reducible assumption))); (case hdz447 => decide +kernel); (try dsimp only)))
    ((try dsimp only); ((with_reducible refine W_local (d := ?dz448) (by assumption) ?hkz448 ?hlz448 ?qz448 ?hdz448); (case hkz448 => (have hh := In.scope ‹In _ _ _›; exact kindE hh (by kernel_rfl))); (case hlz448 => ((with_reducible refine lkp_skip ?hne2z448 ?hrest2z448); (case hne2z448 => decide +kernel); (with_reducible exact lk_put_self))); (case hdz448 => decide +kernel); (try dsimp only)))
    refine o_gti (t_bool ?_)
    by_cases h2 : (f : Int) < ahd SS err
    · rw [if_pos (by simpa using h2)]
      refine WT_Not ?_
      refine WT_And2 ?_
      refine WT_value (he := by intro _ _; rfl) ?_
      ((try dsimp only); ((with_reducible refine W_local (d := ?dz449) (by assumption) ?hkz449 ?hlz449 ?qz449 ?hdz449); (case hkz449 => (have hh := In.scope ‹In _ _ _›; exact kindE hh (by kernel_rfl))); (case hlz449 => ((with_reducible refine lkp_skip ?hne3z449 ?hrest3z449); (case hne3z449 => decide +kernel); (with_reducible refine lkp_skip ?hne2z449 ?hrest2z449); (case hne2z449 => decide +kernel); (with_reducible assumption))); (case hdz449 => decide +kernel); (try dsimp only)))
      refine t_bool ?_
      cases err with
      | true =>
        rw [if_pos rfl]
        ((try dsimp only); ((with_reducible refine WT_Compare (hm := ?hmz450) ?_); (case hmz450 => with_unfolding_all rfl)))
        ((try dsimp only); (with_reducible refine W_BinOp ?_))
        ((try dsimp only); ((with_reducible refine W_local (d := ?dz452) (by assumption) ?hkz452 ?hlz452 ?qz452 ?hdz452); (case hkz452 => (have hh := In.scope ‹In _ _ _›; exact kindE hh (by kernel_rfl))); (case hlz452 => ((with_reducible refine lkp_skip ?hne3z452 ?hrest3z452); (case hne3z452 => decide +kernel); (with_reducible refine lkp_skip ?hne2z452 ?hrest2z452); (case hne2z452 => decide +kernel); (with_reducible assumption))); (case hdz452 => decide +kernel); (try dsimp only)))
        ((try dsimp only); ((with_reducible refine W_int ?_); (try dsimp only)))
        refine o_addi ?_
        ((try dsimp only); ((with_reducible refine W_local (d := ?dz454) (by assumption) ?hkz454 ?hlz454 ?qz454 ?hdz454); (case hkz454 => (have hh := In.scope ‹In _ _ _›; exact kindE hh (by kernel_rfl))); (case hlz454 => ((with_reducible refine lkp_skip ?hne3z454 ?hrest3z454); (case hne3z454 => decide +kernel); (with_reducible refine lkp_skip ?hne2z454 ?hrest2z454); (case hne2z454 => decide +kernel); (with_reducible assumption))); (case hdz454 => decide +kernel); (try dsimp only)))
        refine o_eqi (t_bool ?_)
        have : (!(ahd SS true + 1 == (SS.flatten.length : Int))) = decide ((f : Int) < ahd SS true ∧ ¬ (true = true ∧ ahd SS true + 1 = SS.flatten.length)) := Bool.eq_iff_iff.mpr (by simp [h2])
        rw [this]; exact H4
      | false =>
        rw [if_neg (by decide)]
        have : (!false) = decide ((f : Int) < ahd SS false ∧ ¬ (false = true ∧ ahd SS false + 1 = SS.flatten.length)) := Bool.eq_iff_iff.mpr (by simp [h2])
        rw [this]; exact H4
    · rw [if_neg (by simpa using h2)]
      have : false = decide ((f : Int) < ahd SS err ∧ ¬ (err = true ∧ ahd SS err + 1 = SS.flatten.length)) := by simp [h2]
      rw [this]; exact H4
  by_cases h2 : (f : Int) < ahd SS err ∧ ¬ (err = true ∧ ahd SS err + 1 = SS.flatten.length)
  · rw [if_pos (decide_eq_true h2)]
    obtain ⟨k, hk, hk1, hk2, hk3⟩ := hsp.full h1 h2.1 h2.2
    rw [hk] at eah
    ((try dsimp only); (with_reducible refine WXs_cons ?_))
    ((try dsimp only); (with_reducible refine WX_Assign (hs := ?hsz456) (by assumption) ?hkz456 ?_); (case hsz456 => intro _; rfl); (case hkz456 => (have hh := In.scope ‹In _ _ _›; exact kindE hh (by kernel_rfl))))
    refine W_List ?_
    refine WA_cons ?_
    refine W_Tuple ?_
    refine WA_cons ?_
    refine W_SliceStr (ht := by intro _ _ _; with_unfolding_all rfl) ?_
    refine W_cell okw (by (have hh := In.scope ‹In _ _ _›; exact kindE hh (by kernel_rfl))) c2 g2 ?_ (by decide +kernel)
    refine WP_none ?_
    refine WP_some ?_
    ((try dsimp only); ((with_reducible refine W_local (d := ?dz458) (by assumption) ?hkz458 ?hlz458 ?qz458 ?hdz458); (case hkz458 => (have hh := In.scope ‹In _ _ _›; exact kindE hh (by kernel_rfl))); (case hlz458 => ((with_reducible refine lkp_skip ?hne2z458 ?hrest2z458); (case hne2z458 => decide +kernel); (with_reducible exact lk_put_self))); (case hdz458 => decide +kernel); (try dsimp only)))
    refine ⟨_, _, _, rfl, by omega, .none, .int _, ?_⟩
    rw [slc_to]
    refine WA_cons ?_
    ((try dsimp only); (with_reducible refine W_BinOp ?_))
    refine W_cell okw (by (have hh := In.scope ‹In _ _ _›; exact kindE hh (by kernel_rfl))) c1 g1 ?_ (by decide +kernel)
    ((try dsimp only); ((with_reducible refine W_local (d := ?dz461) (by assumption) ?hkz461 ?hlz461 ?qz461 ?hdz461); (case hkz461 => (have hh := In.scope ‹In _ _ _›; exact kindE hh (by kernel_rfl))); (case hlz461 => ((with_reducible refine lkp_skip ?hne2z461 ?hrest2z461); (case hne2z461 => decide +kernel); (with_reducible exact lk_put_self))); (case hdz461 => decide +kernel); (try dsimp only)))
    refine o_addi ?_
    refine WA_nil ⟨by simp, ?_⟩
    refine WA_cons ?_
    refine W_Tuple ?_
    refine WA_cons ?_
    refine W_SliceStr (ht := by intro _ _ _; with_unfolding_all rfl) ?_
    refine W_cell okw (by (have hh := In.scope ‹In _ _ _›; exact kindE hh (by kernel_rfl))) c2 g2 ?_ (by decide +kernel)
    refine WP_some ?_
    ((try dsimp only); ((with_reducible refine W_local (d := ?dz463) (by assumption) ?hkz463 ?hlz463 ?qz463 ?hdz463); (case hkz463 => (have hh := In.scope ‹In _ _ _›; exact kindE hh (by kernel_rfl))); (case hlz463 => ((with_reducible refine lkp_skip ?hne2z463 ?hrest2z463); (case hne2z463 => decide +kernel); (with_reducible exact lk_put_self))); (case hdz463 => decide +kernel); (try dsimp only)))
    refine WP_some ?_
    ((try dsimp only); ((with_reducible refine W_local (d := ?dz464) (by assumption) ?hkz464 ?hlz464 ?qz464 ?hdz464); (case hkz464 => (have hh := In.scope ‹In _ _ _›; exact kindE hh (by kernel_rfl))); (case hlz464 => ((with_reducible refine lkp_skip ?hne3z464 ?hrest3z464); (case hne3z464 => decide +kernel); (with_reducible refine lkp_skip ?hne2z464 ?hrest2z464); (case hne2z464 => decide +kernel); (with_reducible assumption))); (case hdz464 => decide +kernel); (try dsimp only)))
    refine ⟨_, _, _, rfl, by omega, .int _, .int _, ?_⟩
    rw [slc_at _ _ _ hk1 hk2]
    refine WA_cons ?_
    ((try dsimp only); (with_reducible refine W_BinOp ?_))
    ((try dsimp only); (with_reducible refine W_BinOp ?_))
    refine W_cell okw (by (have hh := In.scope ‹In _ _ _›; exact kindE hh (by kernel_rfl))) c1 g1 ?_ (by decide +kernel)
    ((try dsimp only); ((with_reducible refine W_local (d := ?dz468) (by assumption) ?hkz468 ?hlz468 ?qz468 ?hdz468); (case hkz468 => (have hh := In.scope ‹In _ _ _›; exact kindE hh (by kernel_rfl))); (case hlz468 => ((with_reducible refine lkp_skip ?hne3z468 ?hrest3z468); (case hne3z468 => decide +kernel); (with_reducible refine lkp_skip ?hne2z468 ?hrest2z468); (case hne2z468 => decide +kernel); (with_reducible assumption))); (case hdz468 => decide +kernel); (try dsimp only)))
    refine o_addi ?_
    ((try dsimp only); ((with_reducible refine W_int ?_); (try dsimp only)))
    refine o_addi ?_
    refine WA_nil ⟨by simp, ?_⟩
    refine WA_nil ⟨by simp, ?_⟩
    ((try dsimp only); ((with_reducible refine WXs_nil ?_); (try dsimp only)))
    ((try dsimp only); ((with_reducible refine WXs_nil ?_); (try dsimp only)))
    refine H _ _ hk3.symm (shp_due3 (hch _ fun c hc => List.mem_of_mem_take hc) (hch _ fun c hc => List.mem_of_mem_drop (List.mem_of_mem_take hc))) (by ((with_reducible exact lk_put_self))) (by ((with_reducible refine lkp_skip ?hne4z473 ?hrest4z473); (case hne4z473 => decide +kernel); (with_reducible refine lkp_skip ?hne3z473 ?hrest3z473); (case hne3z473 => decide +kernel); (with_reducible refine lkp_skip ?hne2z473 ?hrest2z473); (case hne2z473 => decide +kernel); (with_reducible assumption))) (by ((with_reducible refine lkp_skip ?hne4z474 ?hrest4z474); (case hne4z474 => decide +kernel); (with_reducible refine lkp_skip ?hne3z474 ?hrest3z474); (case hne3z474 => decide +kernel); (with_reducible refine lkp_skip ?hne2z474 ?hrest2z474); (case hne2z474 => decide +kernel); (with_reducible assumption))) (by ((with_reducible refine lkp_skip ?hne4z475 ?hrest4z475); (case hne4z475 => decide +kernel); (with_reducible refine lkp_skip ?hne3z475 ?hrest3z475); (case hne3z475 => decide +kernel); (with_reducible refine lkp_skip ?hne2z475 ?hrest2z475); (case hne2z475 => decide +kernel); (with_reducible assumption))) (by ((with_reducible refine lkp_skip ?hne4z476 ?hrest4z476); (case hne4z476 => decide +kernel); (with_reducible refine lkp_skip ?hne3z476 ?hrest3z476); (case hne3z476 => decide +kernel); (with_reducible refine lkp_skip ?hne2z476 ?hrest2z476); (case hne2z476 => decide +kernel); (with_reducible assumption))) (by rw [hk]; ((with_reducible refine lkp_skip ?hne4z477 ?hrest4z477); (case hne4z477 => decide +kernel); (with_reducible refine lkp_skip ?hne3z477 ?hrest3z477); (case hne3z477 => decide +kernel); (with_reducible refine lkp_skip ?hne2z477 ?hrest2z477); (case hne2z477 => decide +kernel); (with_reducible assumption))) (by ((with_reducible refine lkp_skip ?hne4z478 ?hrest4z478); (case hne4z478 => decide +kernel); (with_reducible refine lkp_skip ?hne3z478 ?hrest3z478); (case hne3z478 => decide +kernel); (with_reducible refine lkp_skip ?hne2z478 ?hrest2z478); (case hne2z478 => decide +kernel); (with_reducible assumption))) (by ((with_reducible refine lkp_skip ?hne4z479 ?hrest4z479); (case hne4z479 => decide +kernel); (with_reducible refine lkp_skip ?hne3z479 ?hrest3z479); (case hne3z479 => decide +kernel); (with_reducible refine lkp_skip ?hne2z479 ?hrest2z479); (case hne2z479 => decide +kernel); (with_reducible assumption)))
  · rw [if_neg (by rw [decide_eq_false h2]; decide)]
    ((try dsimp only); ((with_reducible refine WXs_nil ?_); (try dsimp only)))
    ((try dsimp only); ((with_reducible refine WXs_nil ?_); (try dsimp only)))
    refine H _ _ (hsp.half h1 h2).symm (shp_due2 (hch _ fun c hc => List.mem_of_mem_take hc)) (by ((with_reducible exact lk_put_self))) (by ((with_reducible refine lkp_skip ?hne3z483 ?hrest3z483); (case hne3z483 => decide +kernel); (with_reducible refine lkp_skip ?hne2z483 ?hrest2z483); (case hne2z483 => decide +kernel); (with_reducible assumption))) (by ((with_reducible refine lkp_skip ?hne3z484 ?hrest3z484); (case hne3z484 => decide +kernel); (with_reducible refine lkp_skip ?hne2z484 ?hrest2z484); (case hne2z484 => decide +kernel); (with_reducible assumption))) (by ((with_reducible refine lkp_skip ?hne3z485 ?hrest3z485); (case hne3z485 => decide +kernel); (with_reducible refine lkp_skip ?hne2z485 ?hrest2z485); (case hne2z485 => decide +kernel); (with_reducible assumption))) (by ((with_reducible refine lkp_skip ?hne3z486 ?hrest3z486); (case hne3z486 => decide +kernel); (with_reducible refine lkp_skip ?hne2z486 ?hrest2z486); (case hne2z486 => decide +kernel); (with_reducible assumption))) (by ((with_reducible refine lkp_skip ?hne3z487 ?hrest3z487); (case hne3z487 => decide +kernel); (with_reducible refine lkp_skip ?hne2z487 ?hrest2z487); (case hne2z487 => decide +kernel); (with_reducible assumption))) (by ((with_reducible refine lkp_skip ?hne3z488 ?hrest3z488); (case hne3z488 => decide +kernel); (with_reducible refine lkp_skip ?hne2z488 ?hrest2z488); (case hne2z488 => decide +kernel); (with_reducible assumption))) (by ((with_reducible refine lkp_skip ?hne3z489 ?hrest3z489); (case hne3z489 => decide +kernel); (with_reducible refine lkp_skip ?hne2z489 ?hrest2z489); (case hne2z489 => decide +kernel); (with_reducible assumption)))
end Mine
namespace Mine
open PySem PySem.W PySem.Calls PySem.Spec PyProof.Rows
theorem s_0 : (Str.ofString "0").cps.toList = [48] := by decide +kernel
inductive OInv (T : List Nat) (L : Nat) (a dx : Addr) (i : Nat) (σ' : S) : Prop
  | mk (j : Nat) (e : V) (tk : Tk σ'.hp a dx T j e) (hel : ∀ w, e ≠ .lit w) (g1 : ∃ v, σ'.hp (L + 1) = some (.cell v)) (g2 : ∃ v, σ'.hp (L + 2) = some (.cell v)) (g3 : ∃ v, σ'.hp (L + 3) = some (.cell v))
    (et : lk σ'.loc "t" = some (.ref a)) (es : lk σ'.loc "size" = some (.int T.length)) (ex : lk σ'.loc "text" = some (.str T))
theorem tk_cell {hp : Addr → Option HO} {a dx : Addr} {T : List Nat} {j : Nat} {e : V} {c : Addr} {v w : Option V} (tk : Tk hp a dx T j e) (g : hp c = some (.cell v)) : Tk (upd hp c (.cell w)) a dx T j e :=
  ⟨(upd_ne (kd_ne tk.inst g rfl)).trans tk.inst, (upd_ne (kd_ne tk.dict g rfl)).trans tk.dict, tk.nn⟩
theorem bs_is (SS : List (List Nat)) (h : SS ≠ []) : ((sts 0 SS).map fun k => V.int (k : Nat)).drop 1 ++ [V.int (SS.flatten.length : Nat)] = (eds 0 SS).map fun k => V.int (k : Nat) := by
  cases SS with
  | nil => exact absurd rfl h
  | cons s S => rw [eds_sts, List.map_append, List.map_drop, Nat.zero_add]; rfl
theorem c_findA {X : Cx} {σ : S} {E : Value → S → Prop} {SS : List (List Nat)} {err : Bool} {Q : V → S → Prop} (q : Q (.int (ahd SS err)) σ) : Call X (.builtin "str.find") [.str (mkd SS err), .str [62]] σ Q E := c_find q
theorem accN (N : Nat) (p : Nat → Bool) : accOf p (fun i => V.int (i : Nat)) N = ((List.range N).filter p).map fun k => V.int (k : Nat) := rfl
theorem end_is (err : Bool) (z : Int) : (if err then V.none else .int z) = .none ∨ ∃ k, (if err then V.none else .int z) = .int k := by
  cases err
  · exact .inr ⟨_, rfl⟩
  · exact .inl rfl
set_option maxHeartbeats 8000000 in
theorem w_outer {pp : Params} {X : Cx} {n : Nat} {L : Nat} (hK : X.K = KK pp) (hP : X.prog = PySem.Challenge.rw_ij0062_05.row.prog) (hc : X.ctx = none) (hI : In X X (fdAt (KK pp) 163)) (hcl : X.env.cells = [(("masked" : Str), (L + 3 : Addr)), (("rest" : Str), (L + 2 : Addr)), (("place" : Str), (L + 1 : Addr))])
    (c1 : X.env.cells.lookup ("place" : Str) = some (L + 1)) (c2 : X.env.cells.lookup ("rest" : Str) = some (L + 2)) (c3 : X.env.cells.lookup ("masked" : Str) = some (L + 3)) (T : List Nat) (hTl : T.length ≤ 64) (hTa : ∀ c ∈ T, c ∈ al5)
    (a dx : Addr) (p : Nat) (hp0 : p < T.length + 1) (loc : List (Str × V)) (hp : Addr → Option HO) (j : Nat) (e : V) (tk : Tk hp a dx T j e) (hel : ∀ w, e ≠ .lit w) (v1 v2 v3 : Option V) (g1 : hp (L + 1) = some (.cell v1)) (g2 : hp (L + 2) = some (.cell v2)) (g3 : hp (L + 3) = some (.cell v3))
    (et : lk loc "t" = some (.ref a)) (es : lk loc "size" = some (.int T.length)) (ex : lk loc "text" = some (.str T))
    (wr : List Addr) (okw : Ok (X.watch wr) (n + 8)) (Q2 : FV → S → Prop) (hQ2 : ∀ fl σ', (match fl with | .next => OInv T L a dx (p + 1) σ' | .cont => OInv T L a dx (p + 1) σ' | _ => False) → Q2 fl σ') : WXs (X.watch wr) (forAt (bodyAt (KK pp) 163)) ⟨loc, upd hp (L + 1) (.cell (some (.int p)))⟩ Q2 F0 := by
  conv in forAt _ => whnf
  obtain ⟨SS, hS1⟩ : ∃ SS, SS = (rs (T.drop p)).1 := ⟨_, rfl⟩
  obtain ⟨err, hS2⟩ : ∃ err, err = (rs (T.drop p)).2 := ⟨_, rfl⟩
  have hS : rs (T.drop p) = (SS, err) := by rw [hS1, hS2]
  have hSh := rs_shT hTa hS
  have hdl : (T.drop p).length ≤ 64 := by rw [List.length_drop]; omega
  have hfl := rs_flT hS
  have hml := mkd_tot hfl
  have hmk : mk5 (T.drop p) 4 = mkd SS err := by
    rw [mk5_is fun c hc => hTa c (List.mem_of_mem_drop hc), hS]; rfl
  have hT3 := al5_lt hTa
  have hbd := rs_bounds (T.drop p)
  rw [hS] at hbd
  dsimp only at hbd
  clear hS1 hS2
  have n12 : (L + 1 : Addr) ≠ L + 2 := fun q => absurd (Nat.add_left_cancel (n := L) q) (by decide)
  have n13 : (L + 1 : Addr) ≠ L + 3 := fun q => absurd (Nat.add_left_cancel (n := L) q) (by decide)
  have n23 : (L + 2 : Addr) ≠ L + 3 := fun q => absurd (Nat.add_left_cancel (n := L) q) (by decide)
  have tk1 := tk_cell (w := some (.int p)) tk g1
  have q1 : upd hp (L + 1) (.cell (some (.int p))) (L + 1) = some (.cell (some (.int p))) := upd_self
  have q2 : upd hp (L + 1) (.cell (some (.int p))) (L + 2) = some (.cell v2) := by rw [upd_ne n12.symm]; exact g2
  have q3 : upd hp (L + 1) (.cell (some (.int p))) (L + 3) = some (.cell v3) := by rw [upd_ne n13.symm]; exact g3
  generalize upd hp (L + 1) (.cell (some (.int p))) = hp1 at tk1 q1 q2 q3 ⊢
  clear g1 g2 g3 tk
  ((try dsimp only); (with_reducible refine WXs_cons ?_))
  refine WX_AssignC (hs := by intro _; rfl) okw (by (have hh := In.scope ‹In _ _ _›; exact kindE hh (by kernel_rfl))) c2 ?_
  refine W_SliceStr (ht := by intro _ _ _; with_unfolding_all rfl) ?_
  ((try dsimp only); ((with_reducible refine W_local (d := ?dz492) (by assumption) ?hkz492 ?hlz492 ?qz492 ?hdz492); (case hkz492 => (have hh := In.scope ‹In _ _ _›; exact kindE hh (by kernel_rfl))); (case hlz492 => ((with_reducible assumption))); (case hdz492 => decide +kernel); (try dsimp only)))
  refine WP_some ?_
  refine W_cell okw (by (have hh := In.scope ‹In _ _ _›; exact kindE hh (by kernel_rfl))) c1 q1 ?_ (by decide +kernel)
  refine WP_none ?_
  refine ⟨_, _, _, rfl, by omega, .int _, .none, ?_⟩
  rw [slc_from]
  refine ⟨_, q2, ?_⟩
  have tk2 := tk_cell (w := some (.str (T.drop p))) tk1 q2
  have r1 : upd hp1 (L + 2) (.cell (some (.str (T.drop p)))) (L + 1) = some (.cell (some (.int p))) := by rw [upd_ne n12]; exact q1
  have r2 : upd hp1 (L + 2) (.cell (some (.str (T.drop p)))) (L + 2) = some (.cell (some (.str (T.drop p)))) := upd_self
  have r3 : upd hp1 (L + 2) (.cell (some (.str (T.drop p)))) (L + 3) = some (.cell v3) := by rw [upd_ne n23.symm]; exact q3
  generalize upd hp1 (L + 2) (.cell (some (.str (T.drop p)))) = hp2 at tk2 r1 r2 r3 ⊢
  clear q1 q2 q3 tk1
  ((try dsimp only); (with_reducible refine WXs_cons ?_))
  refine WX_AssignC (hs := by intro _; rfl) okw (by (have hh := In.scope ‹In _ _ _›; exact kindE hh (by kernel_rfl))) c3 ?_
  refine W_Call (hplain := by intro _; rfl) okw ?_
  refine W_gl okw hK (by (have hh := In.scope ‹In _ _ _›; exact kindE hh (by kernel_rfl))) (g_masked _) (by decide +kernel) ?_
  refine ⟨_, rfl, keeps_fn hK (by kernel_rfl), ?_⟩
  refine WA_cons ?_
  refine W_cell okw (by (have hh := In.scope ‹In _ _ _›; exact kindE hh (by kernel_rfl))) c2 r2 ?_ (by decide +kernel)
  refine WA_nil ?_
  refine c_masked (n := n + 7) okw hK hP hc (by omega) ?_
  rw [hmk]
  refine ⟨_, r3, ?_⟩
  have tk3 := tk_cell (w := some (.str (mkd SS err))) tk2 r3
  have g1 : upd hp2 (L + 3) (.cell (some (.str (mkd SS err)))) (L + 1) = some (.cell (some (.int p))) := by rw [upd_ne n13]; exact r1
  have g2 : upd hp2 (L + 3) (.cell (some (.str (mkd SS err)))) (L + 2) = some (.cell (some (.str (T.drop p)))) := by rw [upd_ne n23]; exact r2
  have g3 : upd hp2 (L + 3) (.cell (some (.str (mkd SS err)))) (L + 3) = some (.cell (some (.str (mkd SS err)))) := upd_self
  generalize upd hp2 (L + 3) (.cell (some (.str (mkd SS err)))) = hp3 at tk3 g1 g2 g3 ⊢
  clear r1 r2 r3 tk2
  ((try dsimp only); (with_reducible refine WXs_cons ?_))
  ((try dsimp only); (with_reducible refine WX_Assign (hs := ?hsz499) (by assumption) ?hkz499 ?_); (case hsz499 => intro _; rfl); (case hkz499 => (have hh := In.scope ‹In _ _ _›; exact kindE hh (by kernel_rfl))))
  ((try dsimp only); ((with_reducible refine W_Compare (hm := ?hmz500) ?_); (case hmz500 => with_unfolding_all rfl)))
  refine W_SliceStr (ht := by intro _ _ _; with_unfolding_all rfl) ?_
  refine W_cell okw (by (have hh := In.scope ‹In _ _ _›; exact kindE hh (by kernel_rfl))) c3 g3 ?_ (by decide +kernel)
  refine WP_some ?_
  refine W_Unary ?_
  ((try dsimp only); ((with_reducible refine W_int ?_); (try dsimp only)))
  refine o_negi ?_
  refine WP_none ?_
  refine ⟨_, _, _, rfl, by omega, .int _, .none, ?_⟩
  refine W_str s_bs ?_
  have hlo : (slc (mkd SS err) (some (-1)) none == [92]) = err := Bool.eq_iff_iff.mpr (by rw [beq_iff_eq]; exact lone_is hSh)
  refine o_eqs ?_
  rw [hlo]
  ((try dsimp only); (with_reducible refine WXs_cons ?_))
  ((try dsimp only); (with_reducible refine WX_Assign (hs := ?hsz504) (by assumption) ?hkz504 ?_); (case hsz504 => intro _; rfl); (case hkz504 => (have hh := In.scope ‹In _ _ _›; exact kindE hh (by kernel_rfl))))
  refine W_at (b := V.int SS.flatten.length) (fun Q4 H4 => ?_) ?_
  · have hmd := mkd_len SS err
    refine W_IfExp ?_
    refine WT_value (he := by intro _ _; rfl) ?_
    ((try dsimp only); ((with_reducible refine W_local (d := ?dz505) (by assumption) ?hkz505 ?hlz505 ?qz505 ?hdz505); (case hkz505 => (have hh := In.scope ‹In _ _ _›; exact kindE hh (by kernel_rfl))); (case hlz505 => ((with_reducible exact lk_put_self))); (case hdz505 => decide +kernel); (try dsimp only)))
    refine t_bool ?_
    cases err with
    | true =>
      rw [if_pos rfl]
      ((try dsimp only); (with_reducible refine W_BinOp ?_))
      refine W_Call (hplain := by intro _; rfl) okw ?_
      refine W_bi (v := .builtin "len") okw hK (by (have hh := In.scope ‹In _ _ _›; exact kindE hh (by kernel_rfl))) (b_len _) (by kernel_rfl) (by decide +kernel) (by decide +kernel) ?_
      refine ⟨_, rfl, keeps_builtin, ?_⟩
      refine WA_cons ?_
      refine W_cell okw (by (have hh := In.scope ‹In _ _ _›; exact kindE hh (by kernel_rfl))) c3 g3 ?_ (by decide +kernel)
      refine WA_nil ?_
      refine c_lens (by omega) ?_
      ((try dsimp only); ((with_reducible refine W_int ?_); (try dsimp only)))
      refine o_subi ?_
      rw [hmd, if_pos rfl, show ((SS.flatten.length + 1 : Nat) : Int) - 1 = SS.flatten.length from by omega]
      exact H4
    | false =>
      rw [if_neg (by decide)]
      refine W_Call (hplain := by intro _; rfl) okw ?_
      refine W_bi (v := .builtin "len") okw hK (by (have hh := In.scope ‹In _ _ _›; exact kindE hh (by kernel_rfl))) (b_len _) (by kernel_rfl) (by decide +kernel) (by decide +kernel) ?_
      refine ⟨_, rfl, keeps_builtin, ?_⟩
      refine WA_cons ?_
      refine W_cell okw (by (have hh := In.scope ‹In _ _ _›; exact kindE hh (by kernel_rfl))) c3 g3 ?_ (by decide +kernel)
      refine WA_nil ?_
      refine c_lens (by omega) ?_
      rw [hmd, if_neg (by decide), Nat.add_zero]
      exact H4
  ((try dsimp only); (with_reducible refine WXs_cons ?_))
  refine WX_AssignComp (cl := [(("masked" : Str), (L + 3 : Addr))]) okw hc (closL_ok hcl (by kernel_rfl)) (by decide) rfl (by decide +kernel) (by kernel_rfl) (swaps_comp hI.scope rfl (by kernel_rfl)) (by (have hh := In.scope ‹In _ _ _›; exact kindE hh (by kernel_rfl))) ?_ (fun _ _ => rfl)
  refine wit_range1 okw (KB.of hK (by (have hh := In.scope ‹In _ _ _›; exact kindE hh (by kernel_rfl))) (b_range _) (by kernel_rfl)) (fun _ => rfl) ?_
  refine WA_cons ?_
  ((try dsimp only); ((with_reducible refine W_local (d := ?dz515) (by assumption) ?hkz515 ?hlz515 ?qz515 ?hdz515); (case hkz515 => (have hh := In.scope ‹In _ _ _›; exact kindE hh (by kernel_rfl))); (case hlz515 => ((with_reducible exact lk_put_self))); (case hdz515 => decide +kernel); (try dsimp only)))
  refine WA_nil ⟨SS.flatten.length, rfl, by omega, by omega, fun k => ((mS SS).take k).count 48 % 2 == 0, fun k => .int (k : Nat), fun Z D k hk hD inc okZ => ?_, ?_⟩
  · replace hD : hp3 D = none := hD
    have d3 : Z.env.cells.lookup ("masked" : Str) = some (L + 3) := by rw [inc.cells]; kernel_rfl
    refine CT_one ?_
    ((try dsimp only); ((with_reducible refine WT_Compare (hm := ?hmz516) ?_); (case hmz516 => with_unfolding_all rfl)))
    ((try dsimp only); (with_reducible refine W_BinOp ?_))
    refine W_Method (hbase := by intro _; rfl) (hfew := by intro _; rfl) (hline := by rfl) (hplain := by intro _; rfl) okZ ?_
    refine W_SliceStr (ht := by intro _ _ _; with_unfolding_all rfl) ?_
    refine W_cell okZ (by (have hh := ‹InC _ _ _ _›; have hs := In.scope ‹In _ _ _›; exact InC.kind hh hs (by kernel_rfl))) d3 ((upd_ne (hp_ne g3 hD).symm).trans g3) ?_ (by decide +kernel)
    refine WP_none ?_
    refine WP_some ?_
    ((try dsimp only); ((with_reducible refine W_local (d := ?dz519) (by assumption) ?hkz519 ?hlz519 ?qz519 ?hdz519); (case hkz519 => (have hh := ‹InC _ _ _ _›; have hs := In.scope ‹In _ _ _›; exact InC.kind hh hs (by kernel_rfl))); (case hlz519 => ((with_reducible exact lk_hit))); (case hdz519 => decide +kernel); (try dsimp only)))
    refine ⟨_, _, _, rfl, by omega, .none, .int _, ?_⟩
    rw [slc_to]
    refine gm_str F.slot_str_count F.type_str_count ⟨keeps_builtin, ?_⟩
    refine WA_cons ?_
    refine W_str s_0 ?_
    refine WA_nil ?_
    refine c_count ?_
    rw [countL_eq]
    have htk : (mkd SS err).take k = (mS SS).take k := by
      unfold mkd
      rw [List.take_append_of_le_length (by rw [mS_len]; omega)]
    rw [htk]
    ((try dsimp only); ((with_reducible refine W_int ?_); (try dsimp only)))
    refine o_modi (by decide) ?_
    ((try dsimp only); ((with_reducible refine W_int ?_); (try dsimp only)))
    refine o_eqi (t_bool ⟨?_, rfl, fun _ => ?_⟩)
    · generalize ((mS SS).take k).count 48 = m
      rw [Int.fmod_eq_emod_of_nonneg _ (by omega)]
      exact Bool.eq_iff_iff.mpr (by simp; omega)
    ((try dsimp only); ((with_reducible refine W_local (d := ?dz522) (by assumption) ?hkz522 ?hlz522 ?qz522 ?hdz522); (case hkz522 => (have hh := ‹InC _ _ _ _›; have hs := In.scope ‹In _ _ _›; exact InC.kind hh hs (by kernel_rfl))); (case hlz522 => ((with_reducible exact lk_hit))); (case hdz522 => decide +kernel); (try dsimp only)))
    exact ⟨rfl, rfl⟩
  rw [accN, show (List.range SS.flatten.length).filter (fun k => ((mS SS).take k).count 48 % 2 == 0) = sts 0 SS from by rw [← mS_len, starts_is SS hSh]]
  have hstl := sts_len 0 SS
  ((try dsimp only); (with_reducible refine WXs_cons ?_))
  refine WX_AssignCompZ (cl := [(("rest" : Str), (L + 2 : Addr)), (("place" : Str), (L + 1 : Addr))]) okw hc (KB.of hK (by (have hh := In.scope ‹In _ _ _›; exact kindE hh (by kernel_rfl))) (b_zip _) (by kernel_rfl)) (fun _ => rfl) (closL_ok hcl (by kernel_rfl)) (by decide) rfl (by decide +kernel) (by kernel_rfl) (by kernel_rfl) (by decide +kernel) (swaps_comp hI.scope rfl (by kernel_rfl)) (by (have hh := In.scope ‹In _ _ _›; exact kindE hh (by kernel_rfl))) ?_ (fun _ _ => rfl)
  refine WA_cons ?_
  ((try dsimp only); ((with_reducible refine W_local (d := ?dz526) (by assumption) ?hkz526 ?hlz526 ?qz526 ?hdz526); (case hkz526 => (have hh := In.scope ‹In _ _ _›; exact kindE hh (by kernel_rfl))); (case hlz526 => ((with_reducible exact lk_put_self))); (case hdz526 => decide +kernel); (try dsimp only)))
  refine WA_cons ?_
  ((try dsimp only); (with_reducible refine W_BinOp ?_))
  refine W_SliceLst (ht := by intro _ _; rfl) ?_
  ((try dsimp only); ((with_reducible refine W_local (d := ?dz528) (by assumption) ?hkz528 ?hlz528 ?qz528 ?hdz528); (case hkz528 => (have hh := In.scope ‹In _ _ _›; exact kindE hh (by kernel_rfl))); (case hlz528 => ((with_reducible exact lk_put_self))); (case hdz528 => decide +kernel); (try dsimp only)))
  refine WP_some ?_
  ((try dsimp only); ((with_reducible refine W_int ?_); (try dsimp only)))
  refine WP_none ?_
  refine ⟨_, _, _, .val _, by rw [List.length_map]; omega, .int _, .none, ?_⟩
  rw [show slc ((sts 0 SS).map fun k => V.int (k : Nat)) (some 1) none = _ from slc_from _ 1]
  refine W_List ?_
  refine WA_cons ?_
  ((try dsimp only); ((with_reducible refine W_local (d := ?dz530) (by assumption) ?hkz530 ?hlz530 ?qz530 ?hdz530); (case hkz530 => (have hh := In.scope ‹In _ _ _›; exact kindE hh (by kernel_rfl))); (case hlz530 => ((with_reducible refine lkp_skip ?hne2z530 ?hrest2z530); (case hne2z530 => decide +kernel); (with_reducible exact lk_put_self))); (case hdz530 => decide +kernel); (try dsimp only)))
  refine WA_nil ⟨by simp, ?_⟩
  refine o_addl (.val _) (.val _) (by simp; omega) ?_
  have hrl := rws_len p SS
  refine WA_nil ⟨_, _, rfl, by simp; omega, by rw [List.length_map]; omega, fun _ => true, fun i => tv ((rws p SS).getD i (.none, .none)), fun hp₁ Z D i hsub hi hD inc okZ => ?_, ?_⟩
  · rw [List.length_map, hstl] at hi
    have hne : SS ≠ [] := fun q => by rw [q] at hi; simp at hi
    have d1 : Z.env.cells.lookup ("place" : Str) = some (L + 1) := by rw [inc.cells]; kernel_rfl
    have d2 : Z.env.cells.lookup ("rest" : Str) = some (L + 2) := by rw [inc.cells]; kernel_rfl
    have m1 : ∀ L', upd hp₁ D L' (L + 1) = some (.cell (some (.int p))) := fun L' => by
      exact (upd_ne (hp_ne (hsub _ _ g1) hD).symm).trans (hsub _ _ g1)
    have m2 : ∀ L', upd hp₁ D L' (L + 2) = some (.cell (some (.str (T.drop p)))) := fun L' => by
      exact (upd_ne (hp_ne (hsub _ _ g2) hD).symm).trans (hsub _ _ g2)
    rw [bs_is SS hne, nats_getD (sts 0 SS) _ (by rw [sts_len]; exact hi), nats_getD (eds 0 SS) _ (by rw [eds_len]; exact hi)]
    obtain ⟨k1, k2, k3⟩ := cut_signs [] SS (if err then [92] else []) i hi
    rw [List.nil_append, hfl] at k1
    have k4 := rws_getD p SS 0 i hi
    rw [show (p : Int) + ((0 : Nat) : Int) = p from by omega] at k4
    dsimp only
    generalize (rws (p : Int) SS).getD i (.none, .none) = pr at k4 ⊢
    subst k4
    simp only [List.length_nil, Nat.zero_add] at k1 k2 k3
    have k5 : (eds 0 SS).getD i 0 ≤ (T.drop p).length := Nat.le_trans k3 hbd.1
    generalize (sts 0 SS).getD i 0 = u at k1 k2 k3 k5 ⊢
    generalize (eds 0 SS).getD i 0 = w at k1 k2 k3 k5 ⊢
    refine CT_nil ⟨rfl, rfl, fun _ => ?_⟩
    show WE Z _ _ _ _
    refine W_Tuple ?_
    refine WA_cons ?_
    ((try dsimp only); (with_reducible refine W_BinOp ?_))
    refine W_cell okZ (by (have hh := ‹InC _ _ _ _›; have hs := In.scope ‹In _ _ _›; exact InC.kind hh hs (by kernel_rfl))) d1 (m1 _) ?_ (by decide +kernel)
    ((try dsimp only); ((with_reducible refine W_local (d := ?dz533) (by assumption) ?hkz533 ?hlz533 ?qz533 ?hdz533); (case hkz533 => (have hh := ‹InC _ _ _ _›; have hs := In.scope ‹In _ _ _›; exact InC.kind hh hs (by kernel_rfl))); (case hlz533 => ((with_reducible refine lk_skip ?hne2z533 ?hrest2z533); (case hne2z533 => decide +kernel); (with_reducible exact lk_hit))); (case hdz533 => decide +kernel); (try dsimp only)))
    refine o_addi ?_
    refine WA_cons ?_
    refine W_SliceStr (ht := by intro _ _ _; with_unfolding_all rfl) ?_
    refine W_cell okZ (by (have hh := ‹InC _ _ _ _›; have hs := In.scope ‹In _ _ _›; exact InC.kind hh hs (by kernel_rfl))) d2 (m2 _) ?_ (by decide +kernel)
    refine WP_some ?_
    ((try dsimp only); ((with_reducible refine W_local (d := ?dz535) (by assumption) ?hkz535 ?hlz535 ?qz535 ?hdz535); (case hkz535 => (have hh := ‹InC _ _ _ _›; have hs := In.scope ‹In _ _ _›; exact InC.kind hh hs (by kernel_rfl))); (case hlz535 => ((with_reducible refine lk_skip ?hne2z535 ?hrest2z535); (case hne2z535 => decide +kernel); (with_reducible exact lk_hit))); (case hdz535 => decide +kernel); (try dsimp only)))
    refine WP_some ?_
    ((try dsimp only); ((with_reducible refine W_local (d := ?dz536) (by assumption) ?hkz536 ?hlz536 ?qz536 ?hdz536); (case hkz536 => (have hh := ‹InC _ _ _ _›; have hs := In.scope ‹In _ _ _›; exact InC.kind hh hs (by kernel_rfl))); (case hlz536 => ((with_reducible exact lk_hit))); (case hdz536 => decide +kernel); (try dsimp only)))
    refine ⟨_, _, _, rfl, by omega, .int _, .int _, ?_⟩
    rw [slc_at _ _ _ k2 k5, k1]
    refine WA_nil ⟨by simp, ?_⟩
    exact ⟨rfl, rfl⟩
  rw [List.length_map, hstl, ← hrl, acc_all (rws p SS) (.none, .none) tv]
  have hrk := rws_ok p SS fun s hs c hc => hT3 c (List.mem_of_mem_drop (i := p) (by rw [← hfl]; exact List.mem_append_left _ (List.mem_flatten.mpr ⟨s, hs, hc⟩)))
  have hshp : Shp (rdV p T.length (SS, err)) := shp_rd (end_is err _) hrk
  ((try dsimp only); (with_reducible refine WXs_cons ?_))
  ((try dsimp only); (with_reducible refine WX_If ?_))
  ((try dsimp only); ((with_reducible refine WT_Compare (hm := ?hmz539) ?_); (case hmz539 => with_unfolding_all rfl)))
  refine W_Call (hplain := by intro _; rfl) okw ?_
  refine W_gl okw hK (by (have hh := In.scope ‹In _ _ _›; exact kindE hh (by kernel_rfl))) (g_read _) (by decide +kernel) ?_
  refine ⟨_, rfl, keeps_fn hK (by kernel_rfl), ?_⟩
  refine WA_cons ?_
  ((try dsimp only); ((with_reducible refine W_local (d := ?dz541) (by assumption) ?hkz541 ?hlz541 ?qz541 ?hdz541); (case hkz541 => (have hh := In.scope ‹In _ _ _›; exact kindE hh (by kernel_rfl))); (case hlz541 => ((with_reducible refine lkp_skip ?hne5z541 ?hrest5z541); (case hne5z541 => decide +kernel); (with_reducible refine lkp_skip ?hne4z541 ?hrest4z541); (case hne4z541 => decide +kernel); (with_reducible refine lkp_skip ?hne3z541 ?hrest3z541); (case hne3z541 => decide +kernel); (with_reducible refine lkp_skip ?hne2z541 ?hrest2z541); (case hne2z541 => decide +kernel); (with_reducible assumption))); (case hdz541 => decide +kernel); (try dsimp only)))
  refine WA_cons ?_
  refine W_cell okw (by (have hh := In.scope ‹In _ _ _›; exact kindE hh (by kernel_rfl))) c1 g1 ?_ (by decide +kernel)
  refine WA_nil ?_
  refine c_read (n := n + 4) okw hK hP hc tk3 hel (by omega) (by omega) fun j' e' hel' => ?_
  rw [hS]
  have tk4 := tk3.upd j' e'
  have q1 : ∀ D, upd hp3 dx (.dict D) (L + 1) = some (.cell (some (.int p))) := fun D => (upd_ne (kd_ne g1 tk3.dict rfl)).trans g1
  have q2 : ∀ D, upd hp3 dx (.dict D) (L + 2) = some (.cell (some (.str (T.drop p)))) := fun D => (upd_ne (kd_ne g2 tk3.dict rfl)).trans g2
  have q3 : ∀ D, upd hp3 dx (.dict D) (L + 3) = some (.cell (some (.str (mkd SS err)))) := fun D => (upd_ne (kd_ne g3 tk3.dict rfl)).trans g3
  replace q1 := q1 (tokFs T j' e')
  replace q2 := q2 (tokFs T j' e')
  replace q3 := q3 (tokFs T j' e')
  generalize upd hp3 dx (.dict (tokFs T j' e')) = hp4 at tk4 q1 q2 q3 ⊢
  clear g1 g2 g3 tk3
  refine W_Tuple ?_
  refine WA_cons ?_
  ((try dsimp only); ((with_reducible refine W_local (d := ?dz543) (by assumption) ?hkz543 ?hlz543 ?qz543 ?hdz543); (case hkz543 => (have hh := In.scope ‹In _ _ _›; exact kindE hh (by kernel_rfl))); (case hlz543 => ((with_reducible exact lk_put_self))); (case hdz543 => decide +kernel); (try dsimp only)))
  refine WA_cons ?_
  refine W_at (b := if err then V.none else .int T.length) (fun Q4 H4 => ?_) ?_
  · refine W_IfExp ?_
    refine WT_value (he := by intro _ _; rfl) ?_
    ((try dsimp only); ((with_reducible refine W_local (d := ?dz544) (by assumption) ?hkz544 ?hlz544 ?qz544 ?hdz544); (case hkz544 => (have hh := In.scope ‹In _ _ _›; exact kindE hh (by kernel_rfl))); (case hlz544 => ((with_reducible refine lkp_skip ?hne4z544 ?hrest4z544); (case hne4z544 => decide +kernel); (with_reducible refine lkp_skip ?hne3z544 ?hrest3z544); (case hne3z544 => decide +kernel); (with_reducible refine lkp_skip ?hne2z544 ?hrest2z544); (case hne2z544 => decide +kernel); (with_reducible exact lk_put_self))); (case hdz544 => decide +kernel); (try dsimp only)))
    refine t_bool ?_
    cases err with
    | true =>
      rw [if_pos rfl]
      ((try dsimp only); ((with_reducible refine W_none ?_); (try dsimp only)))
      exact H4
    | false =>
      rw [if_neg (by decide)]
      ((try dsimp only); ((with_reducible refine W_local (d := ?dz546) (by assumption) ?hkz546 ?hlz546 ?qz546 ?hdz546); (case hkz546 => (have hh := In.scope ‹In _ _ _›; exact kindE hh (by kernel_rfl))); (case hlz546 => ((with_reducible refine lkp_skip ?hne5z546 ?hrest5z546); (case hne5z546 => decide +kernel); (with_reducible refine lkp_skip ?hne4z546 ?hrest4z546); (case hne4z546 => decide +kernel); (with_reducible refine lkp_skip ?hne3z546 ?hrest3z546); (case hne3z546 => decide +kernel); (with_reducible refine lkp_skip ?hne2z546 ?hrest2z546); (case hne2z546 => decide +kernel); (with_reducible assumption))); (case hdz546 => decide +kernel); (try dsimp only)))
      exact H4
  refine WA_nil ⟨by simp, ?_⟩
  rw [show (V.tup [V.lst ((rws (p : Int) SS).map tv), if err then V.none else .int T.length]) = rdV p T.length (SS, err) from rfl]
  refine o_ned okw hshp hshp (t_bool ?_)
  rw [eqv_self hshp, if_neg (by decide)]
  ((try dsimp only); ((with_reducible refine WXs_nil ?_); (try dsimp only)))
  ((try dsimp only); (with_reducible refine WXs_cons ?_))
  ((try dsimp only); (with_reducible refine WX_Assign (hs := ?hsz549) (by assumption) ?hkz549 ?_); (case hsz549 => intro _; rfl); (case hkz549 => (have hh := In.scope ‹In _ _ _›; exact kindE hh (by kernel_rfl))))
  refine W_Method (hbase := by intro _; rfl) (hfew := by intro _; rfl) (hline := by rfl) (hplain := by intro _; rfl) okw ?_
  refine W_cell okw (by (have hh := In.scope ‹In _ _ _›; exact kindE hh (by kernel_rfl))) c3 q3 ?_ (by decide +kernel)
  refine gm_str F.slot_str_find F.type_str_find ⟨keeps_builtin, ?_⟩
  refine WA_cons ?_
  refine W_str s_gt ?_
  refine WA_nil ?_
  refine c_findA ?_
  ((try dsimp only); (with_reducible refine WXs_cons ?_))
  refine WX_For (hs := by intro _ _; rfl) okw hc hI.env (by (have hh := In.scope ‹In _ _ _›; exact kindE hh (by kernel_rfl))) (NInv T SS err L p a dx) ?_
  refine wit_range1 okw (KB.of hK (by (have hh := In.scope ‹In _ _ _›; exact kindE hh (by kernel_rfl))) (b_range _) (by kernel_rfl)) (fun _ => rfl) ?_
  refine WA_cons ?_
  ((try dsimp only); ((with_reducible refine W_int ?_); (try dsimp only)))
  refine WA_nil ⟨4, rfl, by omega, ⟨j', e', tk4, hel', q1, q2, q3, by ((with_reducible refine lkp_skip ?hne6z555 ?hrest6z555); (case hne6z555 => decide +kernel); (with_reducible refine lkp_skip ?hne5z555 ?hrest5z555); (case hne5z555 => decide +kernel); (with_reducible refine lkp_skip ?hne4z555 ?hrest4z555); (case hne4z555 => decide +kernel); (with_reducible refine lkp_skip ?hne3z555 ?hrest3z555); (case hne3z555 => decide +kernel); (with_reducible refine lkp_skip ?hne2z555 ?hrest2z555); (case hne2z555 => decide +kernel); (with_reducible assumption)), by ((with_reducible refine lkp_skip ?hne6z556 ?hrest6z556); (case hne6z556 => decide +kernel); (with_reducible refine lkp_skip ?hne5z556 ?hrest5z556); (case hne5z556 => decide +kernel); (with_reducible refine lkp_skip ?hne4z556 ?hrest4z556); (case hne4z556 => decide +kernel); (with_reducible refine lkp_skip ?hne3z556 ?hrest3z556); (case hne3z556 => decide +kernel); (with_reducible refine lkp_skip ?hne2z556 ?hrest2z556); (case hne2z556 => decide +kernel); (with_reducible assumption)), by ((with_reducible refine lkp_skip ?hne5z557 ?hrest5z557); (case hne5z557 => decide +kernel); (with_reducible refine lkp_skip ?hne4z557 ?hrest4z557); (case hne4z557 => decide +kernel); (with_reducible refine lkp_skip ?hne3z557 ?hrest3z557); (case hne3z557 => decide +kernel); (with_reducible refine lkp_skip ?hne2z557 ?hrest2z557); (case hne2z557 => decide +kernel); (with_reducible exact lk_put_self)), by ((with_reducible refine lkp_skip ?hne4z558 ?hrest4z558); (case hne4z558 => decide +kernel); (with_reducible refine lkp_skip ?hne3z558 ?hrest3z558); (case hne3z558 => decide +kernel); (with_reducible refine lkp_skip ?hne2z558 ?hrest2z558); (case hne2z558 => decide +kernel); (with_reducible exact lk_put_self)), by ((with_reducible exact lk_put_self)), by ((with_reducible refine lkp_skip ?hne6z560 ?hrest6z560); (case hne6z560 => decide +kernel); (with_reducible refine lkp_skip ?hne5z560 ?hrest5z560); (case hne5z560 => decide +kernel); (with_reducible refine lkp_skip ?hne4z560 ?hrest4z560); (case hne4z560 => decide +kernel); (with_reducible refine lkp_skip ?hne3z560 ?hrest3z560); (case hne3z560 => decide +kernel); (with_reducible refine lkp_skip ?hne2z560 ?hrest2z560); (case hne2z560 => decide +kernel); (with_reducible assumption))⟩, fun i σ' wr2 hi inv okw2 => ?_, fun σ' inv => ?_⟩
  · obtain ⟨loc', hp'⟩ := σ'
    obtain ⟨j5, e5, tk5, hel5, g1, g2, g3, et5, es5, elo5, efa5, eah5, ex5⟩ := inv
    dsimp only at tk5 g1 g2 g3 et5 es5 elo5 efa5 eah5 ex5
    refine W.hideQ fun Q5 hQ5 => ?_
    refine w_inner hK hP hc hI c1 c2 c3 T hTl hTa p (by omega) SS err hS a dx i hi _ hp' j5 e5 tk5 hel5 g1 g2 g3 (by ((with_reducible refine lkp_skip ?hne2z561 ?hrest2z561); (case hne2z561 => decide +kernel); (with_reducible assumption))) (by ((with_reducible refine lkp_skip ?hne2z562 ?hrest2z562); (case hne2z562 => decide +kernel); (with_reducible assumption))) (by ((with_reducible refine lkp_skip ?hne2z563 ?hrest2z563); (case hne2z563 => decide +kernel); (with_reducible assumption))) (by ((with_reducible refine lkp_skip ?hne2z564 ?hrest2z564); (case hne2z564 => decide +kernel); (with_reducible assumption))) (by ((with_reducible refine lkp_skip ?hne2z565 ?hrest2z565); (case hne2z565 => decide +kernel); (with_reducible assumption))) (by ((with_reducible exact lk_put_self))) (by ((with_reducible refine lkp_skip ?hne2z567 ?hrest2z567); (case hne2z567 => decide +kernel); (with_reducible assumption))) wr wr2 okw2 Q5 (fun fl σ' h => hQ5 fl σ' ?_)
    cases fl with
    | next => exact h
    | cont => exact h
    | brk => exact h.elim
    | ret d => exact h.elim
  · obtain ⟨loc', hp'⟩ := σ'
    obtain ⟨j5, e5, tk5, hel5, g1, g2, g3, et5, es5, elo5, efa5, eah5, ex5⟩ := inv
    dsimp only at tk5 g1 g2 g3 et5 es5 elo5 efa5 eah5 ex5
    ((try dsimp only); ((with_reducible refine WXs_nil ?_); (try dsimp only)))
    ((try dsimp only); ((with_reducible refine WXs_nil ?_); (try dsimp only)))
    exact hQ2 _ _ ⟨j5, e5, tk5, hel5, ⟨_, g1⟩, ⟨_, g2⟩, ⟨_, g3⟩, et5, es5, ex5⟩
end Mine
namespace Mine
open PySem PySem.W PySem.Calls PySem.Spec PyProof.Rows
theorem s_lt : (Str.ofString "ab>\\\\\\").cps.toList = [97, 98, 62, 92, 92, 92] := by decide +kernel
theorem s_tl : (Str.ofString "a>\\").cps.toList = [97, 62, 92] := by decide +kernel
noncomputable def ltr (n : Int) : List Nat := [[97, 98, 62, 92, 92, 92].getD (n.fmod 6).toNat 0]
theorem ltr_ok (n : Int) : ∀ c ∈ ltr n, c ∈ al5 := by
  have h1 := (fmod_nat n 6 (by decide)).2
  have h2 : ∀ k, k < 6 → [97, 98, 62, 92, 92, 92].getD k 0 ∈ al5 := by decide
  intro c hc
  rw [List.mem_singleton.mp hc]
  exact h2 _ h1
theorem ltr_at (n : Int) : ([97, 98, 62, 92, 92, 92] : List Nat)[(n.fmod 6).toNat]? = some ([97, 98, 62, 92, 92, 92].getD (n.fmod 6).toNat 0) := by
  have h1 := (fmod_nat n 6 (by decide)).2
  have h2 : ∀ k, k < 6 → ([97, 98, 62, 92, 92, 92] : List Nat)[k]? = some ([97, 98, 62, 92, 92, 92].getD k 0) := by decide
  exact h2 _ h1
theorem tl_at (n : Int) : ([97, 62, 92] : List Nat)[(n.fmod 3).toNat]? = some ([97, 62, 92].getD (n.fmod 3).toNat 0) ∧ [97, 62, 92].getD (n.fmod 3).toNat 0 ∈ al5 := by
  have h1 := (fmod_nat n 3 (by decide)).2
  have h2 : ∀ k, k < 3 → ([97, 62, 92] : List Nat)[k]? = some ([97, 62, 92].getD k 0) ∧ [97, 62, 92].getD k 0 ∈ al5 := by decide
  exact h2 _ h1
theorem ltrs_len (l : List Int) : (l.map ltr).flatten.length = l.length := by
  induction l with
  | nil => rfl
  | cons a l ih => simp [ltr] at ih ⊢; omega
theorem ltrs_ok (l : List Int) : ∀ c ∈ (l.map ltr).flatten, c ∈ al5 := by
  intro c hc
  obtain ⟨s, hs, hc⟩ := List.mem_flatten.mp hc
  obtain ⟨z, _, rfl⟩ := List.mem_map.mp hs
  exact ltr_ok z c hc
theorem lmod6 (n : Int) : n.fmod 6 = ((n.fmod 6).toNat : Int) := (fmod_nat n 6 (by decide)).1
theorem lmod6l (n : Int) : (n.fmod 6).toNat < 6 := (fmod_nat n 6 (by decide)).2
theorem lmod3 (n : Int) : n.fmod 3 = ((n.fmod 3).toNat : Int) := (fmod_nat n 3 (by decide)).1
theorem lmod3l (n : Int) : (n.fmod 3).toNat < 3 := (fmod_nat n 3 (by decide)).2
set_option maxHeartbeats 8000000 in
theorem w_law {pp : Params} {X : Cx} {n : Nat} {ns : List Int} {L : Nat} (ok : Ok X (n + 8)) (hK : X.K = KK pp) (hP : X.prog = PySem.Challenge.rw_ij0062_05.row.prog) (hc : X.ctx = none) (hI : In X X (fdAt (KK pp) 163)) (hcl : X.env.cells = [(("masked" : Str), (L + 3 : Addr)), (("rest" : Str), (L + 2 : Addr)), (("place" : Str), (L + 1 : Addr))]) (hns : ns.length ≤ 63) :
    WXs X (bodyAt (KK pp) 163) ⟨[("script", .lst (ns.map .int))], cells0 L 3⟩ (fun fl _ => fl = .ret (.bool true)) F0 := by
  have c1 : X.env.cells.lookup ("place" : Str) = some (L + 1) := by rw [hcl]; kernel_rfl
  have c2 : X.env.cells.lookup ("rest" : Str) = some (L + 2) := by rw [hcl]; kernel_rfl
  have c3 : X.env.cells.lookup ("masked" : Str) = some (L + 3) := by rw [hcl]; kernel_rfl
  have h1 : cells0 L 3 (L + 1) = some (.cell none) := cells0_at (Nat.lt_succ_self _) (Nat.add_le_add_left (by decide) L)
  have h2 : cells0 L 3 (L + 2) = some (.cell none) := cells0_at (Nat.lt_add_of_pos_right (by decide)) (Nat.add_le_add_left (by decide) L)
  have h3 : cells0 L 3 (L + 3) = some (.cell none) := cells0_at (Nat.lt_add_of_pos_right (by decide)) (Nat.le_refl _)
  generalize cells0 L 3 = hp0 at h1 h2 h3 ⊢
  conv in bodyAt _ _ => whnf
  refine W.hideQ fun Q1 hQ1 => ?_
  ((try dsimp only); (with_reducible refine WXs_cons ?_))
  ((try dsimp only); (with_reducible refine WX_Assign (hs := ?hsz571) (by assumption) ?hkz571 ?_); (case hsz571 => intro _; rfl); (case hkz571 => (have hh := In.scope ‹In _ _ _›; exact kindE hh (by kernel_rfl))))
  ((try dsimp only); (with_reducible refine W_BinOp ?_))
  refine W_Method (hbase := by intro _; rfl) (hfew := by intro _; rfl) (hline := by rfl) (hplain := by intro _; rfl) ok ?_
  refine W_str s_e ?_
  refine gm_str F.slot_str_join F.type_str_join ⟨keeps_builtin, ?_⟩
  refine WA_cons ?_
  refine W_Comp (hs := by intro _ _; rfl) (cl := []) ok hc (closL_ok hcl (by kernel_rfl)) (by decide) rfl (by decide +kernel) (by kernel_rfl) ?_
  refine wit_val ?_
  refine W_SliceLst (ht := by intro _ _; rfl) ?_
  ((try dsimp only); ((with_reducible refine W_local (d := ?dz573) (by assumption) ?hkz573 ?hlz573 ?qz573 ?hdz573); (case hkz573 => (have hh := In.scope ‹In _ _ _›; exact kindE hh (by kernel_rfl))); (case hlz573 => ((with_reducible exact lk_hit))); (case hdz573 => decide +kernel); (try dsimp only)))
  refine WP_none ?_
  refine WP_some ?_
  ((try dsimp only); ((with_reducible refine W_int ?_); (try dsimp only)))
  refine ⟨_, _, _, .val _, by rw [List.length_map]; omega, .none, .int _, ?_⟩
  rw [show slc (ns.map V.int) none (some 8) = _ from slc_to _ 8, ← List.map_take]
  refine ⟨_, _, itb_lst, ?_⟩
  rw [List.length_map]
  have hx1 : (ns.take 8).length ≤ 8 := by rw [List.length_take]; omega
  have hx0 : ns ≠ [] → 1 ≤ (ns.take 8).length := fun h => by
    cases ns with
    | nil => exact absurd rfl h
    | cons a r => simp
  generalize ns.take 8 = xs1 at hx1 hx0 ⊢
  refine ⟨by omega, fun _ => true, fun i => .str (ltr (xs1.getD i 0)), fun Z D i hi _ inc okZ => ?_, ?_⟩
  · refine CT_nil ⟨rfl, rfl, fun _ => ?_⟩
    show WE Z _ _ _ _
    rw [ints_getD _ _ hi]
    ((try dsimp only); (with_reducible refine W_Sub ?_))
    refine W_str s_lt ?_
    ((try dsimp only); (with_reducible refine W_BinOp ?_))
    refine W_local (d := _) okZ (inc.kind hI.scope (by kernel_rfl)) lk_hit ?_ (by decide +kernel)
    ((try dsimp only); ((with_reducible refine W_int ?_); (try dsimp only)))
    refine o_modi (by decide) ?_
    rw [lmod6]
    refine s_strItem (hs := by intro _ _ _ _; with_unfolding_all rfl) (ht := by intro _ _ _; with_unfolding_all rfl) okZ (inc.ctx.trans hc) (by decide) (by have := lmod6l (xs1.getD i 0); omega) ?_
    rw [ltr_at]
    exact ⟨rfl, rfl⟩
  rw [acc_all xs1 0 (fun z => V.str (ltr z)), show xs1.map (fun z => V.str (ltr z)) = (xs1.map ltr).map .str from by rw [List.map_map]; rfl]
  have hl1 := ltrs_len xs1
  have hk1 := ltrs_ok xs1
  refine WA_nil ?_
  refine c_join (ls := xs1.map ltr) (fun l hl => ?_) (by simp) (by rw [List.length_map]; omega) (.val _) ?_
  · obtain ⟨z, _, rfl⟩ := List.mem_map.mp hl
    simp [ltr]
  rw [joinL_eq, jn_nil]
  generalize (xs1.map ltr).flatten = T0 at hl1 hk1 ⊢
  ((try dsimp only); (with_reducible refine W_Sub ?_))
  refine W_str s_tl ?_
  ((try dsimp only); (with_reducible refine W_BinOp ?_))
  refine W_Call (hplain := by intro _; rfl) ok ?_
  refine W_bi (v := .builtin "sum") ok hK (by (have hh := In.scope ‹In _ _ _›; exact kindE hh (by kernel_rfl))) (b_sum _) (by kernel_rfl) (by decide +kernel) (by decide +kernel) ?_
  refine ⟨_, rfl, keeps_builtin, ?_⟩
  refine WA_cons ?_
  ((try dsimp only); ((with_reducible refine W_local (d := ?dz581) (by assumption) ?hkz581 ?hlz581 ?qz581 ?hdz581); (case hkz581 => (have hh := In.scope ‹In _ _ _›; exact kindE hh (by kernel_rfl))); (case hlz581 => ((with_reducible exact lk_hit))); (case hdz581 => decide +kernel); (try dsimp only)))
  refine WA_nil ?_
  refine c_sum ok hc ?_
  ((try dsimp only); ((with_reducible refine W_int ?_); (try dsimp only)))
  refine o_modi (by decide) ?_
  rw [lmod3]
  refine s_strItem (hs := by intro _ _ _ _; with_unfolding_all rfl) (ht := by intro _ _ _; with_unfolding_all rfl) ok hc (by decide) (by have := lmod3l ns.sum; omega) ?_
  obtain ⟨e1, e2⟩ := tl_at ns.sum
  rw [e1]
  refine o_adds (by simp; omega) ?_
  obtain ⟨T, hT⟩ : ∃ T, T = T0 ++ [[97, 62, 92].getD (ns.sum.fmod 3).toNat 0] := ⟨_, rfl⟩
  have hTl : T.length ≤ 64 := by rw [hT, List.length_append]; simp; omega
  have hTa : ∀ c ∈ T, c ∈ al5 := by
    rw [hT]; intro c hc
    rcases List.mem_append.mp hc with h | h
    · exact hk1 c h
    · rw [List.mem_singleton.mp h]; exact e2
  have hT2 : T ≠ [92] := fun e => by
    by_cases hn : ns = []
    · subst hn
      have : T0 = [] := by
        cases T0 with
        | nil => rfl
        | cons a r => rw [hT] at e; simp at e
      rw [hT, this] at e
      revert e
      decide
    · have h3 := hx0 hn
      have := congrArg List.length (hT.symm.trans e)
      rw [List.length_append] at this
      have h4 : T0.length + 1 = 1 := this
      omega
  rw [← hT]
  clear hT e1 e2 hk1 hl1 hx1 hx0
  ((try dsimp only); (with_reducible refine WXs_cons ?_))
  ((try dsimp only); (with_reducible refine WX_Assign (hs := ?hsz584) (by assumption) ?hkz584 ?_); (case hsz584 => intro _; rfl); (case hkz584 => (have hh := In.scope ‹In _ _ _›; exact kindE hh (by kernel_rfl))))
  refine W_Call (hplain := by intro _; rfl) ok ?_
  refine W_bi (v := .builtin "len") ok hK (by (have hh := In.scope ‹In _ _ _›; exact kindE hh (by kernel_rfl))) (b_len _) (by kernel_rfl) (by decide +kernel) (by decide +kernel) ?_
  refine ⟨_, rfl, keeps_builtin, ?_⟩
  refine WA_cons ?_
  ((try dsimp only); ((with_reducible refine W_local (d := ?dz586) (by assumption) ?hkz586 ?hlz586 ?qz586 ?hdz586); (case hkz586 => (have hh := In.scope ‹In _ _ _›; exact kindE hh (by kernel_rfl))); (case hlz586 => ((with_reducible exact lk_put_self))); (case hdz586 => decide +kernel); (try dsimp only)))
  refine WA_nil ?_
  refine c_lens (by omega) ?_
  ((try dsimp only); (with_reducible refine WXs_cons ?_))
  ((try dsimp only); (with_reducible refine WX_Assign (hs := ?hsz588) (by assumption) ?hkz588 ?_); (case hsz588 => intro _; rfl); (case hkz588 => (have hh := In.scope ‹In _ _ _›; exact kindE hh (by kernel_rfl))))
  refine W_Call (hplain := by intro _; rfl) ok ?_
  refine W_gl ok hK (by (have hh := In.scope ‹In _ _ _›; exact kindE hh (by kernel_rfl))) (g_tok _) (by decide +kernel) ?_
  refine ⟨_, rfl, keeps_fn hK (by kernel_rfl), ?_⟩
  refine WA_cons ?_
  ((try dsimp only); ((with_reducible refine W_local (d := ?dz590) (by assumption) ?hkz590 ?hlz590 ?qz590 ?hdz590); (case hkz590 => (have hh := In.scope ‹In _ _ _›; exact kindE hh (by kernel_rfl))); (case hlz590 => ((with_reducible refine lkp_skip ?hne2z590 ?hrest2z590); (case hne2z590 => decide +kernel); (with_reducible exact lk_put_self))); (case hdz590 => decide +kernel); (try dsimp only)))
  refine WA_nil ?_
  refine c_new (n := n + 5) ok hK hP hc (by omega) (fun h => absurd (hTa _ h) (by decide)) fun a dx hp' u1 u2 u3 => ?_
  have hsg := sg_rs (l := T) (i := 0) (Nat.zero_le _)
  rw [List.drop_zero] at hsg
  cases hs0 : sg T 0 with
  | none =>
    rw [hs0] at hsg
    exfalso
    have hfl := rs_flat T
    rw [hsg] at hfl
    exact hT2 hfl.symm
  | some je =>
    obtain ⟨j0, e0⟩ := je
    rw [hs0] at hsg
    dsimp only at hsg u1 u2 u3 ⊢
    intro tk0
    have h1' := u3 _ _ h1
    have h2' := u3 _ _ h2
    have h3' := u3 _ _ h3
    clear u1 u2 u3 h1 h2 h3
    ((try dsimp only); (with_reducible refine WXs_cons ?_))
    refine WX_ForC (hs := by intro _ _; rfl) ok hc hI.env (by (have hh := In.scope ‹In _ _ _›; exact kindE hh (by kernel_rfl))) c1 (OInv T L a dx) ?_
    refine wit_range1 ok (KB.of hK (by (have hh := In.scope ‹In _ _ _›; exact kindE hh (by kernel_rfl))) (b_range _) (by kernel_rfl)) (fun _ => rfl) ?_
    refine WA_cons ?_
    ((try dsimp only); (with_reducible refine W_BinOp ?_))
    ((try dsimp only); ((with_reducible refine W_local (d := ?dz595) (by assumption) ?hkz595 ?hlz595 ?qz595 ?hdz595); (case hkz595 => (have hh := In.scope ‹In _ _ _›; exact kindE hh (by kernel_rfl))); (case hlz595 => ((with_reducible refine lkp_skip ?hne2z595 ?hrest2z595); (case hne2z595 => decide +kernel); (with_reducible exact lk_put_self))); (case hdz595 => decide +kernel); (try dsimp only)))
    ((try dsimp only); ((with_reducible refine W_int ?_); (try dsimp only)))
    refine o_addi ?_
    refine WA_nil ⟨T.length + 1, rfl, by omega, ⟨j0, e0, tk0, hsg.lit, ⟨_, h1'⟩, ⟨_, h2'⟩, ⟨_, h3'⟩, by ((with_reducible exact lk_put_self)), by ((with_reducible refine lkp_skip ?hne2z598 ?hrest2z598); (case hne2z598 => decide +kernel); (with_reducible exact lk_put_self)), by ((with_reducible refine lkp_skip ?hne3z599 ?hrest3z599); (case hne3z599 => decide +kernel); (with_reducible refine lkp_skip ?hne2z599 ?hrest2z599); (case hne2z599 => decide +kernel); (with_reducible exact lk_put_self))⟩, fun i σ' hi inv => ?_, fun σ' inv => ?_⟩
    · obtain ⟨loc, hp⟩ := σ'
      obtain ⟨j, e, tk, hel, ⟨v1, g1⟩, ⟨v2, g2⟩, ⟨v3, g3⟩, et, es, ex⟩ := inv
      dsimp only at tk g1 g2 g3 et es ex
      refine ⟨⟨v1, g1⟩, fun wr okw => ?_⟩
      refine W.hideQ fun Q2 hQ2 => ?_
      refine w_outer hK hP hc hI hcl c1 c2 c3 T hTl hTa a dx i hi loc hp j e tk hel v1 v2 v3 g1 g2 g3 et es ex wr okw Q2 (fun fl σ' h => hQ2 fl σ' ?_)
      cases fl with
      | next => exact h
      | cont => exact h
      | brk => exact h.elim
      | ret d => exact h.elim
    · obtain ⟨loc, hp⟩ := σ'
      ((try dsimp only); ((with_reducible refine WXs_nil ?_); (try dsimp only)))
      ((try dsimp only); (with_reducible refine WXs_cons ?_))
      ((try dsimp only); (with_reducible refine WX_Return ?_))
      ((try dsimp only); ((with_reducible refine W_bool ?_); (try dsimp only)))
      exact hQ1 _ _ rfl
end Mine
namespace Mine
open PySem PySem.W PyProof.Rows
set_option pp.deepTerms false
set_option maxHeartbeats 8000000 in
theorem tt : PySem.Challenge.rw_ij0062_05.Holds := hd (by
  k_go0
  rename_i hL ra w1 r0 hI hr hcond hc2 K0 hD h₁ tk₁ F o3 o2 o1 d3 d2 d1 N0 X0
  refine wpAny_mono (launchC (k := 3) (K := KV ‹World›.params) (p := hd.view_39) (fd := fdAt (KK ‹World›.params) 163) (body := bodyAt (KK ‹World›.params) 163) (by assumption) (topRead_of (by assumption)) hL hI F (by rfl) rfl N0 (fun c h1 h2 => ?_)
    (fun X ok hK hP hw hc hI hcl => w_law (n := 32) ok hK hP hc hI (hcl.trans (by kernel_rfl)) (by omega))) (fun f s' q => ?_) (fun e s' q => q.elim)
  · rcases Nat.lt_or_eq_of_le h1 with h3 | h3
    · rcases Nat.lt_or_eq_of_le (Nat.succ_le_of_lt h3) with h5 | h5
      · have h4 : c = _ + 1 + 1 + 1 := Nat.le_antisymm h2 h5
        exact ⟨o3, by rw [h4]; exact .head _, d3.trans rfl⟩
      · exact ⟨o2, by rw [← h5]; exact .tail _ (.head _), d2.trans rfl⟩
    · exact ⟨o1, by rw [← h3]; exact .tail _ (.tail _ (.head _)), d1.trans rfl⟩
  obtain ⟨rfl, h', tk', rfl, hs⟩ := q
  exact ⟨.inl ⟨.bool true, .bool true, [], rfl, fun cls => rfl, .bool true, by wrow_post, fun _ => ⟨List.nodup_nil, fun a ha => by cases ha⟩⟩, hs, rfl, by assumption⟩)
end Mine

theorem PySem.Challenge.cw_ij0062_05_holds : PySem.Challenge.rw_ij0062_05.Holds := by
  exact Mine.tt
