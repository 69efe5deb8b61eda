import PyProof.Rows.All
import Wide.All
import OpenK.AllK
import Wide.FinOn
import PySem.Challenge.RW_kq0075_01
open PySem PySem.W PyProof.Rows
set_option Elab.async false
section
set_option maxRecDepth 100000
set_option maxHeartbeats 8000000
namespace Mine
open_top hd for PySem.Challenge.rw_kq0075_01
end Mine
end
section
set_option maxRecDepth 100000
set_option linter.unusedVariables false
namespace Mine

/-- what a list holds, and what a name holds besides lists -/
inductive I where
  | none
  | bool (b : Bool)
  | int (i : Int)
  | str (s : Str)
  | bytes (b : List UInt8)
  | raw (v : Value)

inductive V where
  | im (i : I)
  | list (l : List I)
  | own (l : List I)
  | meth (id : String) (j : Nat)

/-- a list of the block's own, handed on -/
noncomputable def V.weak : V → V
  | .own l => .list l
  | v => v

noncomputable def IRep : I → Value → Prop
  | .none, w => w = .none
  | .bool b, w => w = .bool b
  | .int i, w => ∃ t, w = .int i t
  | .str x, w => ∃ t, w = .str x t
  | .bytes b, w => ∃ t, w = .bytes b.toArray t
  | .raw v, w => w = v

inductive All2 {α β : Type} (R : α → β → Prop) : List α → List β → Prop
  | nil : All2 R [] []
  | cons {a b l m} : R a b → All2 R l m → All2 R (a :: l) (b :: m)

theorem All2.length {α β : Type} {R : α → β → Prop} {l : List α} {m : List β} (h : All2 R l m) : l.length = m.length := by
  induction h with
  | nil => rfl
  | cons _ _ ih => simp [ih]
theorem All2.append {α β : Type} {R : α → β → Prop} {l l' : List α} {m m' : List β} (h : All2 R l m) (h' : All2 R l' m') : All2 R (l ++ l') (m ++ m') := by
  induction h with
  | nil => exact h'
  | cons a _ ih => exact .cons a ih
theorem All2.get {α β : Type} {R : α → β → Prop} {l : List α} {m : List β} (h : All2 R l m) : ∀ {k : Nat} {a : α}, l[k]? = some a → ∃ b, m[k]? = some b ∧ R a b := by
  induction h with
  | nil => intro k a e; simp at e
  | cons x _ ih =>
    intro k a e
    cases k with
    | zero => simp at e; subst e; exact ⟨_, by simp, x⟩
    | succ k => simp at e; obtain ⟨b, hb, r⟩ := ih e; exact ⟨b, by simpa using hb, r⟩
theorem All2.drop {α β : Type} {R : α → β → Prop} {l : List α} {m : List β} (h : All2 R l m) : ∀ k, All2 R (l.drop k) (m.drop k) := by
  induction h with
  | nil => intro k; simp; exact .nil
  | cons x y ih =>
    intro k
    cases k with
    | zero => exact .cons x y
    | succ k => exact ih k
theorem All2.take {α β : Type} {R : α → β → Prop} {l : List α} {m : List β} (h : All2 R l m) : ∀ k, All2 R (l.take k) (m.take k) := by
  induction h with
  | nil => intro k; simp; exact .nil
  | cons x y ih =>
    intro k
    cases k with
    | zero => exact .nil
    | succ k => exact .cons x (ih k)

noncomputable def VRep (h : Heap) : V → Value → Prop
  | .im i, w => IRep i w
  | .list l, w => ∃ a vs, w = .ref a ∧ h.IsList a vs.toArray ∧ All2 IRep l vs
  | .own l, w => ∃ a vs n, w = .ref a ∧ h.get? a = some (listOf vs.toArray n) ∧ All2 IRep l vs
  | .meth _ _, w => ∃ q, w = .ref q

/-- the frames' addresses -/
noncomputable def fa (fs : List Env) : List Addr := fs.filterMap (·.frame)

structure Ext (fs : List Env) (h h' : Heap) : Prop where
  keep : ∀ b o, b ∉ fa fs → h.get? b = some o → h'.get? b = some o
  slots : h.UpToSlots h'

theorem Ext.refl (fs : List Env) (h : Heap) : Ext fs h h := ⟨fun _ _ _ e => e, .refl h⟩
theorem Ext.trans {fs : List Env} {h₁ h₂ h₃ : Heap} (x : Ext fs h₁ h₂) (y : Ext fs h₂ h₃) : Ext fs h₁ h₃ :=
  ⟨fun b o n e => y.keep b o n (x.keep b o n e), x.slots.trans y.slots⟩
theorem Ext.of_keeps {fs : List Env} {h h' : Heap} (k : ∀ b o, h.get? b = some o → h'.get? b = some o) : Ext fs h h' :=
  ⟨fun b o _ e => k b o e, .of_keeps k⟩
theorem Ext.push {fs : List Env} {h h' : Heap} (x : Ext fs h h') (o : Obj) : Ext fs h (h'.push o) :=
  x.trans (.of_keeps fun _ _ e => Heap.get?_push_of_some o e)

theorem isList_slots {h h' : Heap} {a : Addr} {its : Array Value} (x : h.UpToSlots h') (hl : h.IsList a its) : h'.IsList a its := by
  obtain ⟨o, ho, hc, n, hd⟩ := hl
  obtain ⟨sl, hs⟩ := x a o ho fun vs q => by rw [hd] at q; cases q
  exact ⟨_, hs, hc, n, hd⟩
theorem VRep.weak {h : Heap} {v : V} {w : Value} (r : VRep h v w) : VRep h v.weak w := by
  cases v with
  | own l =>
    obtain ⟨a, vs, n, e, hl, hr⟩ := r
    exact ⟨a, vs, e, ⟨_, hl, rfl, n, rfl⟩, hr⟩
  | im i => exact r
  | list l => exact r
  | meth id j => exact r
theorem VRep.slots {h h' : Heap} {v : V} {w : Value} (r : VRep h v.weak w) (x : h.UpToSlots h') : VRep h' v.weak w := by
  cases v with
  | im i => exact r
  | list l =>
    obtain ⟨a, vs, e, hl, hr⟩ := r
    exact ⟨a, vs, e, isList_slots x hl, hr⟩
  | own l =>
    obtain ⟨a, vs, e, hl, hr⟩ := r
    exact ⟨a, vs, e, isList_slots x hl, hr⟩
  | meth id j => exact r
theorem V.weak_weak (v : V) : v.weak.weak = v.weak := by cases v <;> rfl
theorem VRep.ext {fs : List Env} {h h' : Heap} {v : V} {w : Value} (r : VRep h v.weak w) (x : Ext fs h h') : VRep h' v.weak w := r.slots x.slots

noncomputable def Reads (ev : Env) (h : Heap) (x : Str) (w : Value) : Prop :=
  (ev.kindOf x = some .local ∧ ∃ m, h.Ns ev.locals m ∧ m x = some w) ∨
  (ev.kindOf x = some .cell ∧ ∃ c, ev.cells.lookup x = some c ∧ h.IsCell c (some w))

theorem isCell_slots {h h' : Heap} {c : Addr} {v : Option Value} (x : h.UpToSlots h') (hc : h.IsCell c v) : h'.IsCell c v := by
  obtain ⟨o, ho, hd⟩ := hc
  obtain ⟨sl, hs⟩ := x c o ho fun vs q => by rw [hd] at q; cases q
  exact ⟨_, hs, hd⟩
theorem Reads.slots {ev : Env} {h h' : Heap} {x : Str} {w : Value} (r : Reads ev h x w) (k : h.UpToSlots h') : Reads ev h' x w := by
  rcases r with ⟨hk, m, hn, hm⟩ | ⟨hk, c, hc, hv⟩
  · exact .inl ⟨hk, m, k.ns hn, hm⟩
  · exact .inr ⟨hk, c, hc, isCell_slots k hv⟩

/-- the module as it stands -/
structure Glo where
  prog : Program
  w : World
  b0 : Heap
  mg : Str → Option Value
  mb : Str → Option Value

structure Glo.Ok (G : Glo) : Prop where
  hg : G.b0.Ns mainGlobals G.mg
  hb : G.b0.Ns builtinsNs G.mb
  lim : G.b0.NoLimit

structure Ctx extends Glo where
  A : Around
  ev : Env
  fs : List Env
  names : List Str
  lvl : Nat

noncomputable abbrev Ctx.M (C : Ctx) : Model := model C.prog C.w

/-- what does not move while a block runs -/
structure Ctx.Ok0 (C : Ctx) : Prop where
  glo : C.toGlo.Ok
  kind : C.ev.scope.kind = .function
  globals : C.ev.globals = mainGlobals
  builtins : C.ev.builtins = builtinsNs
structure Ctx.Ok (C : Ctx) : Prop extends C.Ok0 where
  frames : C.A.frames = some C.fs
  handled : C.A.handled = none
  room : C.A.depth + C.lvl < recursionLimit
  units : C.A.units + 10 * C.lvl + 1000 < cLine
  guards : C.A.guards = some []
  cellsInj : ∀ x y c, C.ev.cells.lookup x = some c → C.ev.cells.lookup y = some c → x = y
  nodup : C.names.Nodup

theorem Ctx.Ok0.hg {C : Ctx} (O : C.Ok0) : C.b0.Ns mainGlobals C.mg := O.glo.hg
theorem Ctx.Ok0.hb {C : Ctx} (O : C.Ok0) : C.b0.Ns builtinsNs C.mb := O.glo.hb

noncomputable abbrev Gam := List (Option V)

structure Inv (C : Ctx) (Γ : Gam) (h : Heap) : Prop where
  base : C.b0.StaysIn h
  frames : h.FunFrames C.b0 C.fs
  vars : ∀ (i : Nat) (x : Str) (v : V), C.names[i]? = some x → Γ[i]? = some (some v) → ∃ w, Reads C.ev h x w ∧ VRep h v.weak w
  owns : ∀ (i : Nat) (x : Str) (l : List I), C.names[i]? = some x → Γ[i]? = some (some (.own l)) → ∃ a o, Reads C.ev h x (.ref a) ∧ h.get? a = some o ∧ o.cls = .type "list" ∧ o.dict = none ∧ ∃ vs n, o.data = .seq (List.toArray vs) n ∧ All2 IRep l vs

theorem off_frames {b0 h : Heap} {fs : List Env} (hl : h.FunFrames b0 fs) {b : Addr} {o : Obj} (e : b0.get? b = some o) : b ∉ fa fs := fun hm => by
  rw [(hl.mem hm).1] at e; cases e
theorem funFrames_slots {b0 h h' : Heap} {fs : List Env} (k : h.UpToSlots h') (hl : h.FunFrames b0 fs) : h'.FunFrames b0 fs :=
  hl.of_keeps fun b o e n => let ⟨_, q⟩ := k b o e n; ⟨_, q, rfl⟩
theorem Inv.ext {C : Ctx} {Γ : Gam} {h h' : Heap} (i : Inv C Γ h) (x : Ext C.fs h h') : Inv C Γ h' where
  base := fun b o e => x.keep b o (off_frames i.frames e) (i.base b o e)
  frames := funFrames_slots x.slots i.frames
  vars := fun j y v hj hv => let ⟨w, r, q⟩ := i.vars j y v hj hv; ⟨w, r.slots x.slots, q.ext x⟩
  owns := fun j y l hj hv => by
    obtain ⟨a, o, r, ho, hc, hd, vs, n, hs, hr⟩ := i.owns j y l hj hv
    obtain ⟨sl, q⟩ := x.slots a o ho fun vs q => by rw [hs] at q; cases q
    exact ⟨a, _, r.slots x.slots, q, hc, hd, vs, n, hs, hr⟩

noncomputable def Fresh (h h' : Heap) (w : Value) : Prop := ∀ a, w = .ref a → h.get? a = none ∧ ∃ its n, h'.get? a = some (listOf its n)

/-- the expression e comes to v; fr: if it is a list, a new one -/
noncomputable def SE (C : Ctx) (Γ : Gam) (e : Expr) (v : V) (fr : Bool) : Prop :=
  ∀ (s : Shared) (Q : Value → Shared → Prop) (E : Value → Shared → Prop), Inv C Γ s.heap →
    (∀ w h' tk, Ext C.fs s.heap h' → VRep h' v.weak w → (fr = true → Fresh s.heap h' w) → Q w { s with heap := h', toks := tk }) →
    wpAny C.M C.A (eval e C.ev) Q E s

theorem fresh_im {h h' : Heap} {i : I} {w : Value} (r : IRep i w) (n : ∀ v, i ≠ .raw v) : Fresh h h' w := by
  intro a e
  subst e
  cases i <;> simp [IRep] at r
  exact absurd rfl (n _)

section
variable {C : Ctx} {Γ : Gam}

theorem SE.const_none {k pos} : SE C Γ (.Constant .none k pos) (.im .none) true := fun s Q E i h =>
  wpAny_pure (h .none s.heap s.toks (.refl ..) rfl fun _ a e => by cases e)
theorem SE.const_bool {b k pos} : SE C Γ (.Constant (.bool b) k pos) (.im (.bool b)) true := fun s Q E i h =>
  wpAny_pure (h (.bool b) s.heap s.toks (.refl ..) rfl fun _ a e => by cases e)
theorem SE.const_int {i k pos} : SE C Γ (.Constant (.int i) k pos) (.im (.int i)) true := fun s Q E _ h =>
  wpAny_Constant_int (h _ s.heap _ (.refl ..) ⟨_, rfl⟩ fun _ a e => by cases e)
theorem SE.const_str {x k pos} : SE C Γ (.Constant (.str x) k pos) (.im (.str x)) true := fun s Q E _ h =>
  Calls.Constant_str (h _ s.heap _ (.refl ..) ⟨_, rfl⟩ fun _ a e => by cases e)
theorem SE.const_bytes {x k pos} : SE C Γ (.Constant (.bytes x) k pos) (.im (.bytes x)) true := fun s Q E _ h =>
  W.Constant_bytes (h _ s.heap _ (.refl ..) ⟨_, rfl⟩ fun _ a e => by cases e)

theorem SE.name {i : Nat} {x : Str} {pos : Pos} {v : V} (O : C.Ok0) (hx : C.names[i]? = some x) (hv : Γ[i]? = some (some v)) (hd : (x == ("__debug__" : Str)) = false) :
    SE C Γ (.Name x pos) v.weak false := fun s Q E I h => by
  rw [V.weak_weak] at h
  obtain ⟨w, r, q⟩ := I.vars i x v hx hv
  refine wpAny_Name ?_ hd
  rcases r with ⟨hk, m, hn, hm⟩ | ⟨hk, c, hc, hw⟩
  · exact wpAny_loadName_local O.kind hk hn hm (h w s.heap s.toks (.refl ..) q (fun e => by cases e))
  · exact wpAny_loadName_cell O.kind hk hc hw (h w s.heap s.toks (.refl ..) q (fun e => by cases e))

/-- a global name's value -/
noncomputable def Ctx.Glob (C : Ctx) (x : Str) (v : Value) : Prop := C.mg x = some v ∨ (C.mg x = none ∧ C.mb x = some v)

theorem ns_stays {b0 h : Heap} {a : Addr} {m : Str → Option Value} (k : b0.StaysIn h) (hn : b0.Ns a m) : h.Ns a m := hn.keeps k

theorem SE.glob {x : Str} {pos : Pos} {v : Value} (O : C.Ok0) (hx : C.ev.kindOf x = some .globalImplicit) (hv : C.Glob x v) (hd : (x == ("__debug__" : Str)) = false) :
    SE C Γ (.Name x pos) (.im (.raw v)) false := fun s Q E I h => by
  have hg := ns_stays I.base O.hg
  have hb := ns_stays I.base O.hb
  refine Calls.Name_function_global O.kind hx ?_ hd
  rcases hv with hv | ⟨hn, hv⟩
  · exact Calls.loadGlobal_global (by rw [O.globals]; exact hg) hv (h v s.heap s.toks (.refl ..) rfl (fun e => by cases e))
  · exact Calls.loadGlobal_builtin (by rw [O.globals]; exact hg) hn (by rw [O.builtins]; exact hb) hv (h v s.heap s.toks (.refl ..) rfl (fun e => by cases e))

/-- an operation on values: what it makes of two values -/
noncomputable def OpOk (C : Ctx) (t : Value → Value → Sem Value) (a b v : V) : Prop :=
  ∀ (s : Shared) (Q : Value → Shared → Prop) (E : Value → Shared → Prop) (x y : Value), C.b0.StaysIn s.heap → s.heap.FunFrames C.b0 C.fs → VRep s.heap a.weak x → VRep s.heap b.weak y →
    (∀ w h' tk, (∀ b o, s.heap.get? b = some o → h'.get? b = some o) → VRep h' v.weak w → Fresh s.heap h' w → Q w { s with heap := h', toks := tk }) →
    wpAny C.M C.A (t x y) Q E s

theorem Fresh.back {fs : List Env} {h₀ h h' : Heap} {w : Value} (x : Ext fs h₀ h) (hf : ∀ a ∈ fa fs, (h₀.get? a).isSome = true → (h.get? a).isSome = true) (f : Fresh h h' w) : Fresh h₀ h' w := by
  intro a e
  obtain ⟨n, r⟩ := f a e
  refine ⟨?_, r⟩
  cases q : h₀.get? a with
  | none => rfl
  | some o =>
    exfalso
    by_cases hm : a ∈ fa fs
    · have := hf a hm (by rw [q]; rfl)
      rw [n] at this; cases this
    · rw [x.keep a o hm q] at n; cases n
theorem Fresh.back' {fs : List Env} {b0 h₀ h h' : Heap} {w : Value} (hl : h.FunFrames b0 fs) (x : Ext fs h₀ h) (f : Fresh h h' w) : Fresh h₀ h' w :=
  f.back x fun a ha _ => let ⟨_, o, ho, _⟩ := hl.mem ha; by rw [ho]; rfl

theorem SE.binop {l r : Expr} {op : Operator} {pos : Pos} {a b v : V} {f g : Bool} (hl : SE C Γ l a f) (hr : SE C Γ r b g) (ho : OpOk C (binaryOp op) a b v) :
    SE C Γ (.BinOp l op r pos) v true := fun s Q E I h => by
  refine wpAny_BinOp (hl s _ E I fun x h₁ t₁ x₁ r₁ _ => ?_)
  have I₁ := I.ext x₁
  refine hr ⟨h₁, s.gens, s.drawn, t₁, s.os⟩ _ E I₁ fun y h₂ t₂ x₂ r₂ _ => ?_
  have I₂ := I₁.ext x₂
  refine ho ⟨h₂, s.gens, s.drawn, t₂, s.os⟩ _ E x y I₂.base I₂.frames (r₁.ext x₂) r₂ fun w h' tk k r f => ?_
  have x₃ := x₁.trans x₂
  exact h w h' tk (x₃.trans (.of_keeps k)) r fun _ => f.back' I₂.frames x₃
end
end Mine
end
section
set_option maxRecDepth 100000
set_option linter.unusedVariables false
namespace Mine

noncomputable def V.isList : V → Bool
  | .list _ | .own _ => true
  | _ => false

/-- what the names hold: Ws is what stands there -/
structure Vars (C : Ctx) (k : Heap) (Γ : Gam) (h : Heap) (Ws : Nat → Value) : Prop where
  reads : ∀ (i : Nat) (x : Str) (v : V), C.names[i]? = some x → Γ[i]? = some (some v) → Reads C.ev h x (Ws i) ∧ VRep h v (Ws i)
  own : ∀ (i : Nat) (l : List I), Γ[i]? = some (some (.own l)) → ∃ a, Ws i = .ref a ∧ k.get? a = none ∧ a ∉ fa C.fs ∧
    ∀ (j : Nat) (v : V), j ≠ i → Γ[j]? = some (some v) → v.isList = true → Ws j ≠ .ref a
  meth : ∀ (i : Nat) (id : String) (j : Nat), Γ[i]? = some (some (.meth id j)) → ∃ q a o, Ws i = .ref q ∧ Ws j = .ref a ∧ h.get? q = some o ∧ q ∉ fa C.fs ∧
    o.cls = .type "builtin_function_or_method" ∧ (∃ vs, o.data = .fields vs ∧ vs.toList.take 2 = [.builtin id, .ref a])

structure St0 (C : Ctx) (k : Heap) (h : Heap) : Prop where
  baseK : C.b0.StaysIn k
  ext : Ext C.fs k h
  frames : h.FunFrames C.b0 C.fs
  loc : ∃ m, h.Ns C.ev.locals m ∧ k.get? C.ev.locals = none ∧ C.ev.locals ∈ fa C.fs
  cells : ∀ x, C.ev.kindOf x = some .cell → ∃ c v, C.ev.cells.lookup x = some c ∧ h.IsCell c v ∧ k.get? c = none ∧ c ∉ fa C.fs
structure St (C : Ctx) (k : Heap) (Γ : Gam) (h : Heap) : Prop extends St0 C k h where
  vars : ∃ Ws, Vars C k Γ h Ws
  len : Γ.length = C.names.length

theorem St.inv {C : Ctx} {k : Heap} {Γ : Gam} {h : Heap} (S : St C k Γ h) : Inv C Γ h where
  base := fun b o e => S.ext.keep b o (off_frames S.frames e) (S.baseK b o e)
  frames := S.frames
  vars := fun i x v hx hv => let ⟨Ws, V⟩ := S.vars; let ⟨r, q⟩ := V.reads i x v hx hv; ⟨Ws i, r, q.weak⟩
  owns := fun i x l hx hv => by
    obtain ⟨Ws, V⟩ := S.vars
    obtain ⟨r, a, vs, n, e, ho, hr⟩ := V.reads i x _ hx hv
    exact ⟨a, _, e ▸ r, ho, rfl, rfl, vs, n, rfl, hr⟩

inductive Out where
  | next (Γ : Gam)
  | cont (Γ : Gam)
  | brk (Γ : Gam)
  | ret (v : V) (fr : Bool)
  | exc (cls : Value) (args : List I)

noncomputable def base (C : Ctx) (k : Heap) : Heap := hideAll k (fa C.fs)

/-- an exception stands: made here, come out of a call, or noted here -/
noncomputable def Exc (C : Ctx) (k : Heap) (e : Addr) (cls : Value) (args : List I) (h' : Heap) : Prop :=
  ∃ vs, All2 IRep args vs ∧ k.UpToSlots h' ∧
    ((∃ hm, Ext C.fs k hm ∧ hm.FunFrames C.b0 C.fs ∧ Heap.MadeExcOf hm h' e cls vs) ∨
     (∃ t, Heap.FlyingW (base C k) C.fs e cls (.ref t) h' ∧ h'.TupAt t vs ∧ (base C k).get? t = none) ∨
     (∃ t L, C.ev.frame = some L ∧ Heap.HeldW (base C k) C.fs e cls (.ref t) L h' ∧ h'.TupAt t vs ∧ (base C k).get? t = none))

noncomputable def Out.K (C : Ctx) (k : Heap) (s : Shared) (Q : Flow → Shared → Prop) (E : Value → Shared → Prop) : Out → Prop
  | .next Γ => ∀ h' tk, St C k Γ h' → Q .next { s with heap := h', toks := tk }
  | .cont Γ => ∀ h' tk, St C k Γ h' → Q .cont { s with heap := h', toks := tk }
  | .brk Γ => ∀ h' tk, St C k Γ h' → Q .brk { s with heap := h', toks := tk }
  | .ret v fr => ∀ w h' tk, Ext C.fs k h' → h'.FunFrames C.b0 C.fs → VRep h' v.weak w → (fr = true → Fresh k h' w ∧ ∀ a, w = .ref a → a ∉ fa C.fs) → Q (.ret w) { s with heap := h', toks := tk }
  | .exc cls args => ∀ e h' tk, Exc C k e cls args h' → E (.ref e) { s with heap := h', toks := tk }

theorem Out.K.at {C : Ctx} {k : Heap} {s : Shared} {Q : Flow → Shared → Prop} {E : Value → Shared → Prop} {o : Out} (h' : Heap) (tk : Nat) (h : o.K C k s Q E) :
    o.K C k ⟨h', s.gens, s.drawn, tk, s.os⟩ Q E := by
  cases o <;> exact h

noncomputable def BX (C : Ctx) (Γ : Gam) (b : List Stmt) (P : Out → Prop) : Prop :=
  ∀ (k : Heap) (s : Shared) (Q : Flow → Shared → Prop) (E : Value → Shared → Prop), St C k Γ s.heap → (∀ o, P o → o.K C k s Q E) → wpAny C.M C.A (execs b C.ev) Q E s

noncomputable def BX1 (C : Ctx) (Γ : Gam) (b : Stmt) (P : Out → Prop) : Prop :=
  ∀ (k : Heap) (s : Shared) (Q : Flow → Shared → Prop) (E : Value → Shared → Prop), St C k Γ s.heap → (∀ o, P o → o.K C k s Q E) → wpAny C.M C.A (exec b C.ev) Q E s

/-- behind a statement -/
noncomputable def Then (C : Ctx) (rest : List Stmt) (P : Out → Prop) : Out → Prop
  | .next Γ => BX C Γ rest P
  | o => P o

section
variable {C : Ctx} {Γ : Gam} {P : Out → Prop}

theorem BX.nil (h : P (.next Γ)) : BX C Γ [] P := fun k s Q E S hP => wpAny_execs_nil (hP _ h s.heap s.toks S)

theorem BX.cons {st : Stmt} {rest : List Stmt} (h : BX1 C Γ st (Then C rest P)) : BX C Γ (st :: rest) P := fun k s Q E S hP => by
  refine wpAny_execs_cons (h k s _ E S fun o ho => ?_)
  cases o with
  | next Γ' => exact fun h' tk S' => ho k ⟨h', s.gens, s.drawn, tk, s.os⟩ Q E S' fun o' ho' => (hP o' ho').at h' tk
  | cont Γ' => exact hP _ ho
  | brk Γ' => exact hP _ ho
  | ret v fr => exact hP _ ho
  | exc cls args => exact hP _ ho

theorem BX.mono {P' : Out → Prop} {b : List Stmt} (h : BX C Γ b P) (hp : ∀ o, P o → P' o) : BX C Γ b P' := fun k s Q E S hP => h k s Q E S fun o ho => hP o (hp o ho)
theorem BX1.mono {P' : Out → Prop} {b : Stmt} (h : BX1 C Γ b P) (hp : ∀ o, P o → P' o) : BX1 C Γ b P' := fun k s Q E S hP => h k s Q E S fun o ho => hP o (hp o ho)

theorem BX1.ret {e : Expr} {pos : Pos} {v : V} {fr : Bool} (h : SE C Γ e v fr) (hp : P (.ret v fr)) : BX1 C Γ (.Return (some e) pos) P := fun k s Q E S hP => by
  refine wpAny_Return_some (h s _ E S.inv fun w h' tk x r f => ?_)
  exact hP _ hp w h' tk (S.ext.trans x) (funFrames_slots x.slots S.frames) r fun q => ⟨(f q).back' S.frames S.ext, fun a e hm => by
    obtain ⟨_, o, ho, _⟩ := S.frames.mem hm
    rw [(f q a e).1] at ho; cases ho⟩

theorem BX1.ret_none {pos : Pos} (hp : P (.ret (.im .none) true)) : BX1 C Γ (.Return none pos) P := fun k s Q E S hP =>
  wpAny_Return_none (hP _ hp .none s.heap s.toks S.ext S.frames rfl fun _ => ⟨fun a e => (by cases e), fun a e => (by cases e)⟩)

/-- a list of the block's own handed back -/
theorem BX1.ret_own {i : Nat} {x : Str} {px pos : Pos} {l : List I} (O : C.Ok) (hx : C.names[i]? = some x) (hv : Γ[i]? = some (some (.own l))) (hd : (x == ("__debug__" : Str)) = false)
    (hp : P (.ret (.list l) true)) : BX1 C Γ (.Return (some (.Name x px)) pos) P := fun k s Q E S hP => by
  obtain ⟨Ws, V⟩ := S.vars
  obtain ⟨r, q⟩ := V.reads i x _ hx hv
  obtain ⟨a, ha, hk, hf, _⟩ := V.own i l hv
  obtain ⟨a', vs, n, e, hl, hr⟩ := id q
  rw [ha] at e
  cases e
  have fin : Q (.ret (Ws i)) s := hP _ hp (Ws i) s.heap s.toks S.ext S.frames q.weak fun _ => ⟨fun b e => by
    rw [ha] at e; cases e
    exact ⟨hk, _, _, hl⟩, fun b e => by
    rw [ha] at e; cases e
    exact hf⟩
  refine wpAny_Return_some (wpAny_Name ?_ hd)
  rcases r with ⟨hk, m, hn, hm⟩ | ⟨hk, c, hc, hw⟩
  · exact wpAny_loadName_local O.kind hk hn hm fin
  · exact wpAny_loadName_cell O.kind hk hc hw fin

theorem BX1.pass {pos : Pos} (h : P (.next Γ)) : BX1 C Γ (.Pass pos) P := fun k s Q E S hP => wpAny_Pass (hP _ h s.heap s.toks S)
end

/-- a test comes to b -/
noncomputable def ST (C : Ctx) (Γ : Gam) (e : Expr) (b : Bool) : Prop :=
  ∀ (s : Shared) (Q : Bool → Shared → Prop) (E : Value → Shared → Prop), Inv C Γ s.heap →
    (∀ h' tk, Ext C.fs s.heap h' → Q b { s with heap := h', toks := tk }) → wpAny C.M C.A (isTrue e C.ev (eval e C.ev)) Q E s

theorem Vars.ext' {C : Ctx} {k : Heap} {Γ : Gam} {h h' : Heap} {Ws : Nat → Value} (X : Vars C k Γ h Ws) (x : Ext C.fs h h') : Vars C k Γ h' Ws := by
  refine ⟨fun i y v hy hv => ?_, X.own, fun i id j hm => ?_⟩
  · obtain ⟨r, q⟩ := X.reads i y v hy hv
    refine ⟨r.slots x.slots, ?_⟩
    cases v with
    | own l =>
      obtain ⟨a, ha, _, hf, _⟩ := X.own i l hv
      obtain ⟨a', vs, n, e, hl, hr⟩ := q
      rw [ha] at e; cases e
      exact ⟨a, vs, n, ha, x.keep a _ hf hl, hr⟩
    | im i => exact q
    | list l => exact VRep.slots (v := .list l) q x.slots
    | meth id j => exact q
  · obtain ⟨q, a, o, h1, h2, h3, h4, h5⟩ := X.meth i id j hm
    exact ⟨q, a, o, h1, h2, x.keep q o h4 h3, h4, h5⟩
theorem St0.ext' {C : Ctx} {k : Heap} {h h' : Heap} (S : St0 C k h) (x : Ext C.fs h h') : St0 C k h' where
  baseK := S.baseK
  ext := S.ext.trans x
  frames := funFrames_slots x.slots S.frames
  loc := let ⟨m, a, b⟩ := S.loc; ⟨m, x.slots.ns a, b⟩
  cells := fun y hy => let ⟨c, v, a, b, d⟩ := S.cells y hy; ⟨c, v, a, isCell_slots x.slots b, d⟩
theorem St.ext' {C : Ctx} {k : Heap} {Γ : Gam} {h h' : Heap} (S : St C k Γ h) (x : Ext C.fs h h') : St C k Γ h' :=
  ⟨S.toSt0.ext' x, let ⟨Ws, X⟩ := S.vars; ⟨Ws, X.ext' x⟩, S.len⟩

section
variable {C : Ctx} {Γ : Gam} {P : Out → Prop}
theorem BX1.ite {t : Expr} {body orelse : List Stmt} {pos : Pos} {b : Bool} (ht : ST C Γ t b) (h1 : b = true → BX C Γ body P) (h2 : b = false → BX C Γ orelse P) :
    BX1 C Γ (.If t body orelse pos) P := fun k s Q E S hP => by
  refine wpAny_If (ht s _ E S.inv fun h' tk x => ?_)
  have S' := S.ext' x
  cases b with
  | true => exact h1 rfl k ⟨h', s.gens, s.drawn, tk, s.os⟩ Q E S' fun o ho => (hP o ho).at h' tk
  | false => exact h2 rfl k ⟨h', s.gens, s.drawn, tk, s.os⟩ Q E S' fun o ho => (hP o ho).at h' tk
end
end Mine
end
section
set_option maxRecDepth 100000
set_option linter.unusedVariables false
namespace Mine

theorem funFrames_same {b0 h h' : Heap} {L : Addr} (hs : ∀ b, b ≠ L → h'.get? b = h.get? b) (hL : ∃ o, h'.get? L = some o ∧ ∀ vs, o.data ≠ .fields vs) : ∀ {fs : List Env}, h.FunFrames b0 fs → h'.FunFrames b0 fs
  | [], _ => trivial
  | env :: fs, ⟨hk, ⟨L₁, o, hf, hn, ho, hd⟩, hr⟩ => by
    refine ⟨hk, ?_, funFrames_same hs hL hr⟩
    by_cases e : L₁ = L
    · subst e
      obtain ⟨o', ho', hd'⟩ := hL
      exact ⟨L₁, o', hf, hn, ho', hd'⟩
    · exact ⟨L₁, o, hf, hn, (hs L₁ e).trans ho, hd⟩

section
variable {C : Ctx} {k : Heap}

theorem frames_keeps {b0 h h' : Heap} : ∀ {fs : List Env}, h.FunFrames b0 fs → (∀ b ∈ fa fs, ∀ o, h.get? b = some o → h'.get? b = some o) → h'.FunFrames b0 fs
  | [], _, _ => trivial
  | env :: fs, ⟨hk, ⟨L, o, hf, hn, ho, hd⟩, hr⟩, k =>
    ⟨hk, ⟨L, o, hf, hn, k L (by simp [fa, hf]) o ho, hd⟩, frames_keeps hr fun b hb => k b (by
      simp only [fa, List.filterMap_cons, hf]
      exact List.mem_cons_of_mem _ hb)⟩

/-- an object of the plain kinds that no store moves -/
noncomputable def Still (o : Obj) : Prop := (∃ its n, o.data = .seq its n) ∨ (∃ vs, o.data = .fields vs)

theorem store0' {s : Shared} {x : Str} {w : Value} {Q : Unit → Shared → Prop} {E : Value → Shared → Prop} {A' : Around} (O : C.Ok) (S : St0 C k s.heap) (hk : C.ev.kindOf x = some .local ∨ C.ev.kindOf x = some .cell)
    (h : ∀ h' tk, St0 C k h' → Reads C.ev h' x w → (∀ y u, y ≠ x → Reads C.ev s.heap y u → Reads C.ev h' y u) → (∀ b o, Still o → s.heap.get? b = some o → h'.get? b = some o) → Q () { s with heap := h', toks := tk }) :
    wpAny C.M A' (storeName C.ev x w) Q E s := by
  obtain ⟨m, hn, hkL, hLf⟩ := S.loc
  rcases hk with hl | hl
  · refine wpAny_storeName_local hl hn (fun h' hn' hs => h h' _ ⟨S.baseK, ⟨fun b o nb e => ?_, fun b o e nf => ?_⟩, ?_, ⟨_, hn', hkL, hLf⟩, fun y hy => ?_⟩ (.inl ⟨hl, _, hn', if_pos rfl⟩) (fun y u ny r => ?_) fun b o st e => ?_) (by rw [O.kind]; rfl)
    · rw [hs.2 b (fun q => nb (q ▸ hLf))]; exact S.ext.keep b o nb e
    · obtain ⟨sl, q⟩ := S.ext.slots b o e nf
      refine ⟨sl, (hs.2 b fun z => ?_).trans q⟩
      rw [z, hkL] at e; cases e
    · refine funFrames_same (fun b nb => hs.2 b nb) ?_ S.frames
      obtain ⟨o, es, ep, ho, hd, _⟩ := hn'
      exact ⟨o, ho, fun vs q => by rw [hd] at q; cases q⟩
    · obtain ⟨c, v, a, ⟨o, ho, hd⟩, d⟩ := S.cells y hy
      refine ⟨c, v, a, ⟨o, (hs.2 c fun z => ?_).trans ho, hd⟩, d⟩
      obtain ⟨o', es, ep, ho', hd', _⟩ := hn
      rw [z, ho'] at ho; cases ho
      rw [hd] at hd'; cases hd'
    · rcases r with ⟨q, m', hm', hu⟩ | ⟨q, c, hc, o, ho, hd⟩
      · refine .inl ⟨q, _, hn', ?_⟩
        rw [if_neg ny]
        obtain ⟨o, es, ep, ho, hd, _, hf⟩ := hn
        obtain ⟨o', es', ep', ho', hd', _, hf'⟩ := hm'
        rw [ho] at ho'; cases ho'
        rw [hd] at hd'; cases hd'
        rw [← hf, hf', hu]
      · refine .inr ⟨q, c, hc, o, (hs.2 c fun z => ?_).trans ho, hd⟩
        obtain ⟨o', es, ep, ho', hd', _⟩ := hn
        rw [z, ho'] at ho; cases ho
        rw [hd] at hd'; cases hd'
    · refine (hs.2 b fun z => ?_).trans e
      obtain ⟨o', es, ep, ho', hd', _⟩ := hn
      rw [z, ho'] at e; cases e
      rcases st with ⟨_, _, q⟩ | ⟨_, q⟩ <;> (rw [hd'] at q; cases q)
  · obtain ⟨c, v, hc, hcell, hkc, hcf⟩ := S.cells x hl
    have hLc : C.ev.locals ≠ c := fun z => by
      obtain ⟨o', es, ep, ho', hd', _⟩ := hn
      obtain ⟨o, ho, hd⟩ := hcell
      rw [← z, ho'] at ho; cases ho
      rw [hd] at hd'; cases hd'
    refine wpAny_storeName_cell O.kind hl hc hcell fun h' hc' hs => ?_
    have other : ∀ b o, s.heap.get? b = some o → (∀ u, o.data ≠ .cell u) → h'.get? b = some o := fun b o e nd => (hs.2 b fun z => by
      obtain ⟨o', ho', hd'⟩ := hcell
      rw [z, ho'] at e; cases e
      exact nd _ hd').trans e
    refine h h' s.toks ⟨S.baseK, ⟨fun b o nb e => ?_, fun b o e nf => ?_⟩, ?_, ⟨m, hn.sameBut hs hLc, hkL, hLf⟩, fun y hy => ?_⟩ (.inr ⟨hl, c, hc, hc'⟩) (fun y u ny r => ?_) fun b o st e => ?_
    · rw [hs.2 b (fun q => by rw [q, hkc] at e; cases e)]; exact S.ext.keep b o nb e
    · obtain ⟨sl, q⟩ := S.ext.slots b o e nf
      refine ⟨sl, (hs.2 b fun z => ?_).trans q⟩
      rw [z, hkc] at e; cases e
    · refine funFrames_same (fun b nb => hs.2 b nb) ?_ S.frames
      obtain ⟨o, ho, hd⟩ := hc'
      exact ⟨o, ho, fun vs q => by rw [hd] at q; cases q⟩
    · obtain ⟨c', v', a, ⟨o, ho, hd⟩, d⟩ := S.cells y hy
      by_cases e : c' = c
      · subst e
        exact ⟨c', _, a, hc', d⟩
      · exact ⟨c', v', a, ⟨o, (hs.2 c' e).trans ho, hd⟩, d⟩
    · rcases r with ⟨q, m', hm', hu⟩ | ⟨q, c', hc2, o, ho, hd⟩
      · obtain ⟨o', es, ep, ho', hd', r'⟩ := hm'
        refine .inl ⟨q, m', ⟨o', es, ep, other _ _ ho' (fun u z => by rw [hd'] at z; cases z), hd', r'⟩, hu⟩
      · refine .inr ⟨q, c', hc2, o, (hs.2 c' fun z => ?_).trans ho, hd⟩
        exact ny (O.cellsInj y x c (z ▸ hc2) hc)
    · refine other b o e fun u z => ?_
      rcases st with ⟨_, _, q⟩ | ⟨_, q⟩ <;> (rw [z] at q; cases q)

theorem store0 {s : Shared} {x : Str} {w : Value} {Q : Unit → Shared → Prop} {E : Value → Shared → Prop} (O : C.Ok) (S : St0 C k s.heap) (hk : C.ev.kindOf x = some .local ∨ C.ev.kindOf x = some .cell)
    (h : ∀ h' tk, St0 C k h' → Reads C.ev h' x w → (∀ y u, y ≠ x → Reads C.ev s.heap y u → Reads C.ev h' y u) → (∀ b o, Still o → s.heap.get? b = some o → h'.get? b = some o) → Q () { s with heap := h', toks := tk }) :
    wpAny C.M C.A (storeName C.ev x w) Q E s := store0' O S hk h
/-- the names' facts live on when the lists do -/
theorem VRep.still {h h' : Heap} {v : V} {w : Value} (st : ∀ b o, Still o → h.get? b = some o → h'.get? b = some o) (r : VRep h v w) : VRep h' v w := by
  cases v with
  | im i => exact r
  | list l =>
    obtain ⟨a, vs, e, ⟨o, ho, hc, n, hd⟩, hr⟩ := r
    exact ⟨a, vs, e, ⟨o, st _ _ (.inl ⟨_, _, hd⟩) ho, hc, n, hd⟩, hr⟩
  | own l =>
    obtain ⟨a, vs, n, e, hl, hr⟩ := r
    exact ⟨a, vs, n, e, st _ _ (.inl ⟨_, _, rfl⟩) hl, hr⟩
  | meth id j => exact r

theorem get_set_ne {Γ : Gam} {i j : Nat} {v : Option V} (h : j ≠ i) : (Γ.set i v)[j]? = Γ[j]? := by
  rw [List.getElem?_set_ne (Ne.symm h)]
theorem get_set_self {Γ : Gam} {i : Nat} {v : Option V} {x : Option V} (h : (Γ.set i v)[i]? = some x) : x = v := by
  rw [List.getElem?_set] at h
  simp only [if_true] at h
  split at h
  · exact (Option.some.inj h).symm
  · cases h

noncomputable def noMeth (Γ : Gam) (i : Nat) : Prop := ∀ (j : Nat) (id : String), Γ[j]? ≠ some (some (.meth id i))

/-- Ws with w at i -/
noncomputable def upW (Ws : Nat → Value) (i : Nat) (w : Value) : Nat → Value := fun j => if j = i then w else Ws j

theorem vars_set {Γ Γ' : Gam} {h h' : Heap} {Ws : Nat → Value} {i : Nat} {x : Str} {v : V} {w : Value} (O : C.Ok) (X : Vars C k Γ h Ws) (hx : C.names[i]? = some x) (hΓ : ∀ j, j ≠ i → Γ'[j]? = Γ[j]?) (hi : Γ'[i]? = some (some v))
    (hm : noMeth Γ i) (rx : Reads C.ev h' x w) (ro : ∀ y u, y ≠ x → Reads C.ev h y u → Reads C.ev h' y u) (st : ∀ b o, Still o → h.get? b = some o → h'.get? b = some o)
    (hv : VRep h v w) (hl : v.isList = true → ∀ (j : Nat) (l : List I), j ≠ i → Γ[j]? = some (some (.own l)) → Ws j ≠ w)
    (hown : ∀ l, v = .own l → ∃ a, w = .ref a ∧ k.get? a = none ∧ a ∉ fa C.fs ∧ ∀ (j : Nat) (u : V), j ≠ i → Γ[j]? = some (some u) → u.isList = true → Ws j ≠ .ref a)
    (hnm : ∀ id j, v ≠ .meth id j) : Vars C k Γ' h' (upW Ws i w) where
  reads := fun j y u hy hu => by
    by_cases e : j = i
    · subst e
      rw [hx] at hy; cases hy
      rw [hi] at hu; cases hu
      rw [upW, if_pos rfl]
      exact ⟨rx, hv.still st⟩
    · rw [hΓ j e] at hu
      obtain ⟨r, q⟩ := X.reads j y u hy hu
      rw [upW, if_neg e]
      refine ⟨ro y _ (fun z => e ?_) r, q.still st⟩
      subst z
      have hj : j < C.names.length := (List.getElem?_eq_some_iff.mp hy).1
      have hi' : i < C.names.length := (List.getElem?_eq_some_iff.mp hx).1
      exact (List.getElem?_inj hj O.nodup).mp (hy.trans hx.symm)
  own := fun j l hj => by
    by_cases e : j = i
    · subst e
      rw [hi] at hj; cases hj
      obtain ⟨a, ha, h1, h2, h3⟩ := hown l rfl
      refine ⟨a, by rw [upW, if_pos rfl]; exact ha, h1, h2, fun j' u ne hu il => ?_⟩
      rw [hΓ j' ne] at hu
      rw [upW, if_neg ne]
      exact h3 j' u ne hu il
    · rw [hΓ j e] at hj
      obtain ⟨a, ha, h1, h2, h3⟩ := X.own j l hj
      refine ⟨a, by rw [upW, if_neg e]; exact ha, h1, h2, fun j' u ne hu il => ?_⟩
      by_cases e' : j' = i
      · subst e'
        rw [hi] at hu; cases hu
        rw [upW, if_pos rfl, ← ha]
        exact Ne.symm (hl il j l e hj)
      · rw [hΓ j' e'] at hu
        rw [upW, if_neg e']
        exact h3 j' u ne hu il
  meth := fun j id j' hj => by
    by_cases e : j = i
    · subst e
      rw [hi] at hj; cases hj
      exact absurd rfl (hnm _ _)
    · rw [hΓ j e] at hj
      obtain ⟨q, a, o, h1, h2, h3, h4, h5, h6⟩ := X.meth j id j' hj
      have e' : j' ≠ i := fun z => hm j id (z ▸ hj)
      obtain ⟨vs, hd, h7⟩ := h6
      exact ⟨q, a, o, by rw [upW, if_neg e]; exact h1, by rw [upW, if_neg e']; exact h2, st q o (.inr ⟨vs, hd⟩) h3, h4, h5, vs, hd, h7⟩
end

section
variable {C : Ctx} {Γ : Gam} {P : Out → Prop}

noncomputable def isLocal (C : Ctx) (x : Str) : Prop := C.ev.kindOf x = some .local ∨ C.ev.kindOf x = some .cell

theorem get_set_self' {Γ : Gam} {i : Nat} {v : Option V} (h : i < Γ.length) : (Γ.set i v)[i]? = some v := by
  rw [List.getElem?_set_self h]

theorem gone {k h : Heap} {b0 : Heap} {fs : List Env} {a : Addr} (x : Ext fs k h) (hl : h.FunFrames b0 fs) (e : h.get? a = none) : k.get? a = none ∧ a ∉ fa fs := by
  have nf : a ∉ fa fs := fun hm => by
    obtain ⟨_, o, ho, _⟩ := hl.mem hm
    rw [ho] at e; cases e
  refine ⟨?_, nf⟩
  cases q : k.get? a with
  | none => rfl
  | some o => rw [x.keep a o nf q] at e; cases e

theorem list_there {h : Heap} {v : V} {w : Value} (r : VRep h v w) (hl : v.isList = true) : ∃ a o, w = .ref a ∧ h.get? a = some o := by
  cases v with
  | list l => obtain ⟨a, vs, e, ⟨o, ho, _⟩, _⟩ := r; exact ⟨a, o, e, ho⟩
  | own l => obtain ⟨a, vs, n, e, ho, _⟩ := r; exact ⟨a, _, e, ho⟩
  | im i => cases hl
  | meth id j => cases hl

noncomputable def inNames (C : Ctx) (Γ : Gam) : Prop := Γ.length = C.names.length

theorem not_held {C : Ctx} {k h : Heap} {Γ : Gam} {Ws : Nat → Value} {a : Addr} (X : Vars C k Γ h Ws) (hlen : Γ.length = C.names.length) (e : h.get? a = none) (j : Nat) (u : V) (hu : Γ[j]? = some (some u)) (il : u.isList = true) : Ws j ≠ .ref a := fun z => by
  have hj : j < C.names.length := by rw [← hlen]; exact (List.getElem?_eq_some_iff.mp hu).1
  obtain ⟨_, r⟩ := X.reads j C.names[j] u (by simp [hj]) hu
  obtain ⟨b, o, hb, ho⟩ := list_there r il
  rw [z] at hb; cases hb
  rw [e] at ho; cases ho

noncomputable def V.demote : V → V
  | .own l => .list l
  | v => v
noncomputable def demote (Γ : Gam) : Gam := Γ.map (Option.map V.demote)

theorem vars_demote {C : Ctx} {k h : Heap} {Γ : Gam} {Ws : Nat → Value} (X : Vars C k Γ h Ws) : Vars C k (demote Γ) h Ws := by
  have back : ∀ (i : Nat) (v : V), (demote Γ)[i]? = some (some v) → ∃ u, Γ[i]? = some (some u) ∧ v = u.demote := by
    intro i v hv
    simp only [demote, List.getElem?_map] at hv
    cases q : Γ[i]? with
    | none => rw [q] at hv; cases hv
    | some o =>
      rw [q] at hv
      cases o with
      | none => simp at hv
      | some u => simp at hv; exact ⟨u, rfl, hv.symm⟩
  refine ⟨fun i x v hx hv => ?_, fun i l hv => ?_, fun i id j hv => ?_⟩
  · obtain ⟨u, hu, rfl⟩ := back i v hv
    obtain ⟨r, q⟩ := X.reads i x u hx hu
    refine ⟨r, ?_⟩
    cases u with
    | own l => exact q.weak
    | im i => exact q
    | list l => exact q
    | meth id j => exact q
  · obtain ⟨u, hu, e⟩ := back i _ hv
    cases u <;> cases e
  · obtain ⟨u, hu, e⟩ := back i _ hv
    cases u <;> cases e
    exact X.meth i id j hu

theorem BX1.assign_im {i : Nat} {x : Str} {px pos : Pos} {e : Expr} {v : I} {fr : Bool} (O : C.Ok) (he : SE C Γ e (.im v) fr) (hx : C.names[i]? = some x) (hl : isLocal C x) (hm : noMeth Γ i)
    (hs : swapsWith e (some (.Name x px)) pos.line C.ev = pure false) (h : P (.next (Γ.set i (some (.im v))))) : BX1 C Γ (.Assign [.Name x px] e pos) P := fun k s Q E S hP => by
  refine wpAny_Assign_Name (he s _ E S.inv fun w h' tk x' r f => ?_) hs
  have S' := S.ext' x'
  obtain ⟨Ws, V⟩ := S'.vars
  refine store0 (s := ⟨h', s.gens, s.drawn, tk, s.os⟩) O S'.toSt0 hl fun h₂ tk₂ S₂ rx ro st => ?_
  have hi : i < Γ.length := by rw [S.len]; exact (List.getElem?_eq_some_iff.mp hx).1
  refine hP _ h h₂ tk₂ ⟨S₂, ⟨_, vars_set O V hx (fun j hj => get_set_ne hj) (get_set_self' hi) hm rx ro st r (fun q => by cases q) (fun l q => by cases q) (fun _ _ q => by cases q)⟩, by rw [List.length_set]; exact S.len⟩

theorem BX1.assign_new {i : Nat} {x : Str} {px pos : Pos} {e : Expr} {l : List I} (O : C.Ok) (he : SE C Γ e (.list l) true) (hx : C.names[i]? = some x) (hl : isLocal C x) (hm : noMeth Γ i)
    (hs : swapsWith e (some (.Name x px)) pos.line C.ev = pure false) (h : P (.next (Γ.set i (some (.own l))))) : BX1 C Γ (.Assign [.Name x px] e pos) P := fun k s Q E S hP => by
  refine wpAny_Assign_Name (he s _ E S.inv fun w h' tk x' r f => ?_) hs
  have S' := S.ext' x'
  obtain ⟨Ws, X₀⟩ := S.vars
  have X := X₀.ext' x'
  refine store0 (s := ⟨h', s.gens, s.drawn, tk, s.os⟩) O S'.toSt0 hl fun h₂ tk₂ S₂ rx ro st => ?_
  have hi : i < Γ.length := by rw [S.len]; exact (List.getElem?_eq_some_iff.mp hx).1
  obtain ⟨a, vs, rfl, hlst, hr⟩ := r
  obtain ⟨hn, its, n, hp⟩ := f rfl a rfl
  obtain ⟨hk, hf⟩ := gone S.ext S.frames hn
  have hits : its = vs.toArray := by
    obtain ⟨o, ho, _, n', hd⟩ := hlst
    rw [hp] at ho; cases ho
    simp only [Data.seq.injEq] at hd
    exact hd.1
  subst hits
  exact hP _ h h₂ tk₂ ⟨S₂, ⟨_, vars_set O X hx (fun j hj => get_set_ne hj) (get_set_self' hi) hm rx ro st ⟨a, vs, n, rfl, hp, hr⟩ (fun _ j l' hj hl' => not_held X₀ S.len hn j _ hl' rfl)
    (fun l' _ => ⟨a, rfl, hk, hf, fun j u _ hu il => not_held X₀ S.len hn j u hu il⟩) (fun _ _ q => by cases q)⟩, by rw [List.length_set]; exact S.len⟩

theorem BX1.assign_alias {i : Nat} {x : Str} {px pos : Pos} {e : Expr} {l : List I} (O : C.Ok) (he : SE C Γ e (.list l) false) (hx : C.names[i]? = some x) (hl : isLocal C x) (hm : noMeth (demote Γ) i)
    (hs : swapsWith e (some (.Name x px)) pos.line C.ev = pure false) (h : P (.next ((demote Γ).set i (some (.list l))))) : BX1 C Γ (.Assign [.Name x px] e pos) P := fun k s Q E S hP => by
  refine wpAny_Assign_Name (he s _ E S.inv fun w h' tk x' r f => ?_) hs
  have S' := S.ext' x'
  obtain ⟨Ws, X₀⟩ := S.vars
  have X := vars_demote (X₀.ext' x')
  refine store0 (s := ⟨h', s.gens, s.drawn, tk, s.os⟩) O S'.toSt0 hl fun h₂ tk₂ S₂ rx ro st => ?_
  have hlen : (demote Γ).length = C.names.length := by rw [demote, List.length_map]; exact S.len
  have hi : i < (demote Γ).length := by rw [hlen]; exact (List.getElem?_eq_some_iff.mp hx).1
  have noown : ∀ (j : Nat) (l : List I), (demote Γ)[j]? ≠ some (some (.own l)) := fun j l q => by
    obtain ⟨a, _⟩ := X.own j l q
    simp only [demote, List.getElem?_map] at q
    cases z : Γ[j]? with
    | none => rw [z] at q; cases q
    | some o =>
      rw [z] at q
      cases o with
      | none => simp at q
      | some u => simp at q; cases u <;> cases q
  exact hP _ h h₂ tk₂ ⟨S₂, ⟨_, vars_set O X hx (fun j hj => get_set_ne hj) (get_set_self' hi) hm rx ro st r (fun _ j l' hj hl' => absurd hl' (noown j l'))
    (fun l' q => by cases q) (fun _ _ q => by cases q)⟩, by rw [List.length_set]; exact hlen⟩

/-- text.append(e) -/
theorem updated {C : Ctx} {k h h' : Heap} {Γ : Gam} {Ws : Nat → Value} {i : Nat} {x : Str} {l l' : List I} {a : Addr} {vs' : List Value} {n' : Nat} (X : Vars C k Γ h Ws) (hi : Γ[i]? = some (some (.own l))) (ha : Ws i = .ref a)
    (hs : Heap.SameBut a h h') (hp : h'.get? a = some (listOf vs'.toArray n')) (hr : All2 IRep l' vs') (hlen : Γ.length = C.names.length)
    (hseq : ∃ its n, h.get? a = some (listOf its n)) : Vars C k (Γ.set i (some (.own l'))) h' Ws := by
  have hlt : i < Γ.length := (List.getElem?_eq_some_iff.mp hi).1
  obtain ⟨a', ha', h1, h2, h3⟩ := X.own i l hi
  rw [ha] at ha'; cases ha'
  obtain ⟨its, n, hseq⟩ := hseq
  have rd : ∀ y u, Reads C.ev h y u → Reads C.ev h' y u := fun y u r => by
    rcases r with ⟨q, m, ⟨o, es, ep, ho, hd, r⟩, hu⟩ | ⟨q, c, hc, o, ho, hd⟩
    · refine .inl ⟨q, m, ⟨o, es, ep, (hs.2 _ fun z => ?_).trans ho, hd, r⟩, hu⟩
      rw [z, hseq] at ho; cases ho; cases hd
    · refine .inr ⟨q, c, hc, o, (hs.2 _ fun z => ?_).trans ho, hd⟩
      rw [z, hseq] at ho; cases ho; cases hd
  refine ⟨fun j y v hy hv => ?_, fun j m hv => ?_, fun j id j' hv => ?_⟩
  · by_cases e : j = i
    · subst e
      have := get_set_self hv
      cases this
      exact ⟨rd _ _ (X.reads j y _ hy hi).1, a, vs', n', ha, hp, hr⟩
    · rw [get_set_ne e] at hv
      obtain ⟨r, q⟩ := X.reads j y v hy hv
      refine ⟨rd _ _ r, ?_⟩
      cases v with
      | im i => exact q
      | list m =>
        obtain ⟨b, vs, eb, ⟨o, ho, hc, n, hd⟩, hr⟩ := q
        exact ⟨b, vs, eb, ⟨o, (hs.2 b fun z => h3 j _ e hv rfl (z ▸ eb)).trans ho, hc, n, hd⟩, hr⟩
      | own m =>
        obtain ⟨b, vs, n, eb, ho, hr⟩ := q
        exact ⟨b, vs, n, eb, (hs.2 b fun z => h3 j _ e hv rfl (z ▸ eb)).trans ho, hr⟩
      | meth id j => exact q
  · by_cases e : j = i
    · subst e
      refine ⟨a, ha, h1, h2, fun j' u ne hu il => ?_⟩
      rw [get_set_ne ne] at hu
      exact h3 j' u ne hu il
    · rw [get_set_ne e] at hv
      obtain ⟨b, hb, g1, g2, g3⟩ := X.own j m hv
      refine ⟨b, hb, g1, g2, fun j' u ne hu il => ?_⟩
      by_cases e' : j' = i
      · subst e'
        exact g3 j' _ ne hi rfl
      · rw [get_set_ne e'] at hu
        exact g3 j' u ne hu il
  · by_cases e : j = i
    · subst e
      have := get_set_self hv
      cases this
    · rw [get_set_ne e] at hv
      obtain ⟨q, b, o, g1, g2, g3, g4, g5, vs, g6, g7⟩ := X.meth j id j' hv
      refine ⟨q, b, o, g1, g2, (hs.2 q fun z => ?_).trans g3, g4, g5, vs, g6, g7⟩
      rw [z, hseq] at g3; cases g3; cases g6

theorem st0_updated {C : Ctx} {k h h' : Heap} {a : Addr} (S : St0 C k h) (hk : k.get? a = none) (hs : Heap.SameBut a h h') (hseq : ∃ its n, h.get? a = some (listOf its n)) (hf : a ∉ fa C.fs) : St0 C k h' where
  baseK := S.baseK
  ext := ⟨fun b o nb e => (hs.2 b fun z => by rw [z, hk] at e; cases e).trans (S.ext.keep b o nb e), fun b o e nf => let ⟨sl, q⟩ := S.ext.slots b o e nf; ⟨sl, (hs.2 b fun z => by rw [z, hk] at e; cases e).trans q⟩⟩
  frames := frames_keeps S.frames fun b hb o e => (hs.2 b fun z => hf (z ▸ hb)).trans e
  loc := by
    obtain ⟨m, ⟨o, es, ep, ho, hd, r⟩, b⟩ := S.loc
    obtain ⟨its, n, hq⟩ := hseq
    refine ⟨m, ⟨o, es, ep, (hs.2 _ fun z => ?_).trans ho, hd, r⟩, b⟩
    rw [z, hq] at ho; cases ho; cases hd
  cells := fun y hy => by
    obtain ⟨c, v, b, ⟨o, ho, hd⟩, d⟩ := S.cells y hy
    obtain ⟨its, n, hq⟩ := hseq
    refine ⟨c, v, b, ⟨o, (hs.2 _ fun z => ?_).trans ho, hd⟩, d⟩
    rw [z, hq] at ho; cases ho; cases hd
end
end Mine
end
section
set_option maxRecDepth 100000
set_option linter.unusedVariables false
namespace Mine

noncomputable def WRep (h : Heap) (v : V) (w : Value) : Prop := VRep h v.weak w
theorem WRep.ext {fs : List Env} {h h' : Heap} {v : V} {w : Value} (r : WRep h v w) (x : Ext fs h h') : WRep h' v w := VRep.ext r x
theorem wreps_ext {fs : List Env} {h h' : Heap} {vs : List V} {ws : List Value} (r : All2 (WRep h) vs ws) (x : Ext fs h h') : All2 (WRep h') vs ws := by
  induction r with
  | nil => exact .nil
  | cons a _ ih => exact .cons (a.ext x) ih

/-- a row of arguments -/
noncomputable def SEs (C : Ctx) (Γ : Gam) (es : List Expr) (vs : List V) : Prop :=
  ∀ (pos : Pos) (s : Shared) (Q : List Value → Shared → Prop) (E : Value → Shared → Prop), Inv C Γ s.heap →
    (∀ ws h' tk, Ext C.fs s.heap h' → All2 (WRep h') vs ws → Q ws { s with heap := h', toks := tk }) → wpAny C.M C.A (spliced (backTo pos (starEach es C.ev))) Q E s

section
variable {C : Ctx} {Γ : Gam}
theorem SEs.nil : SEs C Γ [] [] := fun pos s Q E I h => Calls.spliced_nil (h [] s.heap s.toks (.refl ..) .nil)
theorem SEs.cons {e : Expr} {es : List Expr} {v : V} {vs : List V} {f : Bool} (he : SE C Γ e v f) (hs : SEs C Γ es vs) (hn : ∀ ev, starEach (e :: es) ev = (false, eval e ev) :: starEach es ev) : SEs C Γ (e :: es) (v :: vs) := fun pos s Q E I h => by
  rw [hn]
  show wpAny C.M C.A (spliced ((false, eval e C.ev) :: backTo pos (starEach es C.ev))) Q E s
  refine Calls.spliced_cons (he s _ E I fun w h₁ t₁ x₁ r₁ _ => ?_)
  refine hs pos ⟨h₁, s.gens, s.drawn, t₁, s.os⟩ _ E (I.ext x₁) fun ws h₂ t₂ x₂ r₂ => ?_
  exact h (w :: ws) h₂ t₂ (x₁.trans x₂) (.cons (WRep.ext r₁ x₂) r₂)
end

/-- a row of keywords' values -/
noncomputable def SKs (C : Ctx) (Γ : Gam) (ks : List Keyword) (vs : List V) : Prop :=
  ∀ (pos : Pos) (s : Shared) (Q : List Value → Shared → Prop) (E : Value → Shared → Prop), Inv C Γ s.heap →
    (∀ ws h' tk, Ext C.fs s.heap h' → All2 (WRep h') vs ws → Q ws { s with heap := h', toks := tk }) → wpAny C.M C.A (evalAll ((backToKw pos (keywordEach ks C.ev)).map (·.2))) Q E s

section
variable {C : Ctx} {Γ : Gam}
theorem SKs.nil : SKs C Γ [] [] := fun pos s Q E I h => wpAny_evalAll_nil (h [] s.heap s.toks (.refl ..) .nil)
theorem SKs.cons {n : Option Str} {p : Pos} {e : Expr} {ks : List Keyword} {v : V} {vs : List V} {f : Bool} (he : SE C Γ e v f) (hs : SKs C Γ ks vs) : SKs C Γ (⟨n, e, p⟩ :: ks) (v :: vs) := fun pos s Q E I h => by
  show wpAny C.M C.A (evalAll ((do let v ← eval e C.ev; standAt pos; pure v) :: (backToKw pos (keywordEach ks C.ev)).map (·.2))) Q E s
  refine wpAny_evalAll_cons (wpAny_bind (he s _ E I fun w h₁ t₁ x₁ r₁ _ => ?_))
  refine wpAny_bind (wpAny_standAt (wpAny_pure ?_))
  refine hs pos ⟨h₁, s.gens, s.drawn, t₁, s.os⟩ _ E (I.ext x₁) fun ws h₂ t₂ x₂ r₂ => ?_
  exact h (w :: ws) h₂ t₂ (x₁.trans x₂) (.cons (WRep.ext r₁ x₂) r₂)

theorem kw_names (pos : Pos) (ks : List Keyword) (env : Env) : (backToKw pos (keywordEach ks env)).filterMap (·.1) = ks.filterMap (·.arg) := by
  induction ks with
  | nil => rfl
  | cons k ks ih =>
    obtain ⟨n, e, p⟩ := k
    show List.filterMap (·.1) ((n, _) :: backToKw pos (keywordEach ks env)) = _
    rw [List.filterMap_cons, List.filterMap_cons, ih]
theorem kw_some (pos : Pos) (ks : List Keyword) (env : Env) (p : Option Str → Bool) : (backToKw pos (keywordEach ks env)).all (fun x => p x.1) = ks.all (fun k => p k.arg) := by
  induction ks with
  | nil => rfl
  | cons k ks ih =>
    obtain ⟨n, e, q⟩ := k
    show List.all ((n, _) :: backToKw pos (keywordEach ks env)) _ = _
    rw [List.all_cons, List.all_cons, ih]
theorem kw_any (pos : Pos) (ks : List Keyword) (env : Env) (p : Option Str → Bool) : (backToKw pos (keywordEach ks env)).any (fun x => p x.1) = ks.any (fun k => p k.arg) := by
  induction ks with
  | nil => rfl
  | cons k ks ih =>
    obtain ⟨n, e, q⟩ := k
    show List.any ((n, _) :: backToKw pos (keywordEach ks env)) _ = _
    rw [List.any_cons, List.any_cons, ih]

noncomputable def noStars (es : List Expr) : Prop := ∀ ev, starEach es ev = es.map fun e => (false, eval e ev)

theorem stars_plain {es : List Expr} (h : noStars es) (pos : Pos) (ev : Env) : (backTo pos (starEach es ev)).any (·.1) = false := by
  rw [h]
  induction es with
  | nil => rfl
  | cons e es ih =>
    show ((false : Bool) || _) = false
    rw [Bool.false_or]
    exact ih' es
where ih' : ∀ (es : List Expr), ((List.map (fun e => (false, eval e ev)) es |> backTo pos).any (·.1)) = false
  | [] => rfl
  | _ :: es => by
    show ((false : Bool) || _) = false
    rw [Bool.false_or]
    exact ih' es

theorem args_ok {es : List Expr} {ks : List Keyword} {vs kvs : List V} {f : Value} {pos : Pos} {s : Shared} {Q : Args → Shared → Prop} {E : Value → Shared → Prop} (hn : noStars es) (hk : ks.all (·.arg.isSome) = true)
    (he : SEs C Γ es vs) (hks : SKs C Γ ks kvs) (I : Inv C Γ s.heap)
    (h : ∀ ws kw h' tk, Ext C.fs s.heap h' → All2 (WRep h') vs ws → All2 (WRep h') kvs kw → Q ⟨ws, (ks.filterMap (·.arg)).zip kw⟩ { s with heap := h', toks := tk }) :
    wpAny C.M C.A (evalArgs f true (backTo pos (starEach es C.ev)) (backToKw pos (keywordEach ks C.ev))) Q E s := by
  have hall : (backToKw pos (keywordEach ks C.ev)).all (fun x => x.1.isSome) = true := by rw [kw_some pos ks C.ev (fun x => x.isSome)]; exact hk
  have key : wpAny C.M C.A (spliced (backTo pos (starEach es C.ev))) (fun vs s₁ => wpAny C.M C.A (evalAll ((backToKw pos (keywordEach ks C.ev)).map (·.2))) (fun ks' s₂ => Q ⟨vs, ((backToKw pos (keywordEach ks C.ev)).filterMap (·.1)).zip ks'⟩ s₂) E s₁) E s := by
    refine he pos s _ E I fun ws h₁ t₁ x₁ r₁ => ?_
    refine hks pos ⟨h₁, s.gens, s.drawn, t₁, s.os⟩ _ E (I.ext x₁) fun kw h₂ t₂ x₂ r₂ => ?_
    rw [kw_names]
    exact h ws kw h₂ t₂ (x₁.trans x₂) (wreps_ext r₁ x₂) r₂
  cases es with
  | nil =>
    unfold evalArgs
    show wpAny C.M C.A (spliced [] >>= _) Q E s
    refine wpAny_bind (wpAny_mono (show wpAny C.M C.A (spliced []) _ E s from key) (fun vs s₁ h₁ => ?_) fun _ _ x => x)
    refine wpAny_bind (wpAny_pure ?_)
    refine wpAny_holding ?_
    simp only [hall, if_true]
    refine wpAny_bind (wpAny_mono h₁ (fun ks s₂ h₂ => ?_) fun _ _ x => x)
    exact wpAny_bind (wpAny_pure (wpAny_pure h₂))
  | cons e es =>
    have hh : backTo pos (starEach (e :: es) C.ev) = (false, eval e C.ev) :: backTo pos (es.map fun e => (false, eval e C.ev)) := by rw [hn]; rfl
    rw [hh] at key ⊢
    exact evalArgs_kw hall key

theorem callWith_ok {es : List Expr} {ks : List Keyword} {vs kvs : List V} {f : Value} {first : List Value} {pos : Pos} {s : Shared} {Q : Value → Shared → Prop} {E : Value → Shared → Prop} (hn : noStars es) (hk : ks.all (·.arg.isSome) = true)
    (hkn : ks.any (·.arg.isNone) = false) (he : SEs C Γ es vs) (hks : SKs C Γ ks kvs) (I : Inv C Γ s.heap)
    (hl : ∀ h', C.b0.StaysIn h' → ∃ k, (k = Keeper.frame ∨ k = Keeper.machine ∨ k = Keeper.boundFrame) ∧ Looks C.M h' (keeperOf f) k)
    (h : ∀ ws kw h' tk, Ext C.fs s.heap h' → All2 (WRep h') vs ws → All2 (WRep h') kvs kw → wpAny C.M C.A (call f (first ++ ws) ((ks.filterMap (·.arg)).zip kw)) Q E { s with heap := h', toks := tk }) :
    wpAny C.M C.A (callWith pos f first (backTo pos (starEach es C.ev)) (backToKw pos (keywordEach ks C.ev))) Q E s := by
  refine callWith_of (P := C.b0.StaysIn) ?_ (fun h' hb => hl h' hb) (args_ok hn hk he hks I fun ws kw h' tk x r₁ r₂ => ⟨(I.ext x).base, h ws kw h' tk x r₁ r₂⟩)
  rw [stars_plain hn, Bool.false_or, kw_any pos ks C.ev (fun x => x.isNone)]
  exact hkn

theorem looks_machine {M : Model} {h' : Heap} {f : Value} (hf : ∀ a, f ≠ .ref a) : ∃ k, (k = Keeper.frame ∨ k = Keeper.machine ∨ k = Keeper.boundFrame) ∧ Looks M h' (keeperOf f) k :=
  ⟨.machine, .inr (.inl rfl), Looks.of_pure (by unfold keeperOf; cases f <;> first | rfl | exact absurd rfl (hf _))⟩
theorem looks_fn {G : Glo} {M : Model} {h' : Heap} {f : Addr} {o : Obj} {fd : FuncData} (ho : G.b0.get? f = some o) (hd : o.data = .func fd) (hb : G.b0.StaysIn h') : ∃ k, (k = Keeper.frame ∨ k = Keeper.machine ∨ k = Keeper.boundFrame) ∧ Looks M h' (keeperOf (.ref f)) k :=
  ⟨.frame, .inl rfl, by
    obtain ⟨c, d, dt, sl⟩ := o
    subst hd
    exact (Looks.ld (part := none) (hb _ _ ho)).andThen .now⟩
end

/-- what a call hands back -/
inductive RO where
  | ret (v : V) (fr : Bool)
  | exc (cls : Value) (args : List I)

noncomputable def Fly (fs : List Env) (k : Heap) (e : Addr) (cls : Value) (args : List I) (h' : Heap) : Prop :=
  ∃ vs t, All2 IRep args vs ∧ k.UpToSlots h' ∧ Heap.FlyingW (hideAll k (fa fs)) fs e cls (.ref t) h' ∧ h'.TupAt t vs ∧ (hideAll k (fa fs)).get? t = none

noncomputable def RO.K (fs : List Env) (s : Shared) (R : Result → Shared → Prop) : RO → Prop
  | .ret v fr => ∀ w h' tk, Ext fs s.heap h' → WRep h' v w → (fr = true → Fresh s.heap h' w) → R (.ok (.ret w)) { s with heap := h', toks := tk }
  | .exc cls args => ∀ e h' tk, Fly fs s.heap e cls args h' → R (.error (.ref e)) { s with heap := h', toks := tk }

/-- what a def of the text does, called so -/
noncomputable def Spec (G : Glo) (lvl : Nat) (f : Addr) (vs : List V) (kws : List (Str × V)) (P : RO → Prop) : Prop :=
  ∀ (A : Around) (fs : List Env) (s : Shared) (R : Result → Shared → Prop) (ws kw : List Value), A.frames = some fs → A.handled = none → A.depth + lvl < recursionLimit → A.units + 10 * lvl + 1000 < cLine → A.guards = some [] →
    G.b0.StaysIn s.heap → s.heap.FunFrames G.b0 fs → All2 (WRep s.heap) vs ws → All2 (WRep s.heap) (kws.map (·.2)) kw → (∀ o, P o → o.K fs s R) → codeAny (model G.prog G.w) A (.call (.ref f) ⟨ws, (kws.map (·.1)).zip kw⟩) R s

theorem Spec.mono {G : Glo} {l l' : Nat} {f : Addr} {vs : List V} {kws : List (Str × V)} {P P' : RO → Prop} (h : Spec G l f vs kws P) (hl : l ≤ l') (hp : ∀ o, P o → P' o) : Spec G l' f vs kws P' :=
  fun A fs s R ws kw h1 h2 h3 h4 hg h5 h6 h7 h8 h9 => h A fs s R ws kw h1 h2 (by omega) (by omega) hg h5 h6 h7 h8 fun o ho => h9 o (hp o ho)

/-- a def stands there -/
noncomputable def FnAt (G : Glo) (f : Addr) : Prop := ∃ o fd, G.b0.get? f = some o ∧ o.data = .func fd

section
variable {C : Ctx} {Γ : Gam}
theorem SE.call {x : Str} {px pos : Pos} {f : Addr} {es : List Expr} {ks : List Keyword} {vs kvs : List V} {v : V} {fr : Bool} (O : C.Ok) (hx : C.ev.kindOf x = some .globalImplicit) (hv : C.Glob x (.ref f)) (hd : (x == ("__debug__" : Str)) = false)
    (hf : FnAt C.toGlo f) (hn : noStars es) (hk : ks.all (·.arg.isSome) = true) (hkn : ks.any (·.arg.isNone) = false) (he : SEs C Γ es vs) (hks : SKs C Γ ks kvs)
    (hs : Spec C.toGlo C.lvl f vs ((ks.filterMap (·.arg)).zip kvs) (fun o => o = .ret v fr)) (hlen : (ks.filterMap (·.arg)).length = kvs.length) : SE C Γ (.Call (.Name x px) es ks pos) v fr := fun s Q E I h => by
  show wpAny C.M C.A (eval (.Name x px) C.ev >>= fun f => callWith pos f [] (backTo pos (starEach es C.ev)) (backToKw pos (keywordEach ks C.ev))) Q E s
  refine wpAny_bind (SE.glob (Γ := Γ) O.toOk0 hx hv hd s _ E I fun w h₀ t₀ x₀ r₀ _ => ?_)
  obtain rfl : w = .ref f := r₀
  obtain ⟨o, fd, ho, hdat⟩ := hf
  have I₀ := I.ext x₀
  refine callWith_ok (s := ⟨h₀, s.gens, s.drawn, t₀, s.os⟩) hn hk hkn he hks I₀ (fun h' hb => looks_fn ho hdat hb) fun ws kw h₁ t₁ x₁ r₁ r₂ => ?_
  have I₁ := I₀.ext x₁
  refine wpAny_call ?_
  have key := hs C.A C.fs ⟨h₁, s.gens, s.drawn, t₁, s.os⟩ (fun r s' => match r with | .ok (.ret v) => Q v s' | .ok _ => False | .error e => E e s') ws kw O.frames O.handled O.room O.units O.guards I₁.base I₁.frames r₁
    (by rw [List.map_snd_zip (by omega)]; exact r₂) (by
      rintro o rfl w h' tk x r f
      have x' := (x₀.trans x₁).trans x
      exact h w h' tk x' r fun q => (f q).back' I₁.frames (x₀.trans x₁))
  rw [List.map_fst_zip (by omega)] at key
  exact key
end
end Mine
end
section
set_option maxRecDepth 100000
set_option linter.unusedVariables false
namespace Mine

@[reducible] noncomputable def mkC (G : Glo) (A : Around) (fs : List Env) (ev : Env) (names : List Str) (lvl : Nat) : Ctx :=
  { toGlo := G, A := A.deeper ev, ev := ev, fs := ev :: fs, names := names, lvl := lvl }

/-- how a block's outcome goes out of the def -/
noncomputable def Outs (P : RO → Prop) : Out → Prop
  | .next _ => P (.ret (.im .none) true)
  | .ret v fr => P (.ret v fr)
  | .exc cls args => P (.exc cls args)
  | _ => False

section
variable {G : Glo}

theorem base_in {k : Heap} {ev : Env} {fs : List Env} {L : Addr} (hf : ev.frame = some L) (hk : k.get? L = none) : (hideAll k (fa fs)).StaysIn (hideAll k (fa (ev :: fs))) := fun b o e => by
  have h1 := of_hideAll _ e
  refine hideAll_get _ h1 fun hm => ?_
  simp only [fa, List.filterMap_cons, hf] at hm
  rcases List.mem_cons.mp hm with q | q
  · rw [q, hk] at h1; cases h1
  · rw [show (hideAll k (fa fs)).get? b = none from hideAll_none _ q] at e; cases e

theorem leave_exc {A : Around} {fs : List Env} {ev : Env} {L : Addr} {names : List Str} {lvl : Nat} {k : Heap} {s : Shared} {R : Result → Shared → Prop} {E' : Value → Shared → Prop} {e : Addr} {cls : Value} {args : List I} (hA : A.frames = some fs) (hf : ev.frame = some L) (hk : k.get? L = none) (hb : G.b0.StaysIn k)
    (x : Exc (mkC G A fs ev names lvl) k e cls args s.heap)
    (hR : ∀ h', Fly fs k e cls args h' → R (.error (.ref e)) { s with heap := h' }) :
    wpAny (model G.prog G.w) (A.deeper ev) (leaving ev (.ref e)) (fun _ s'' => R (.error (.ref e)) s'') E' s := by
  have hfr : (A.deeper ev).frames = some (ev :: fs) := Around.frames_deeper hA
  obtain ⟨vs, ha, hsl, x⟩ := x
  have hin : ∀ env ∈ (ev :: fs), ∀ b, env.frame = some b → b ∈ fa (ev :: fs) := fun env he b hb => List.mem_filterMap.mpr ⟨env, he, hb⟩
  rcases x with ⟨hm, xm, fm, mk⟩ | ⟨t, hfl, htup, hnt⟩ | ⟨t, L', hL', hh, htup, hnt⟩
  · have st : (hideAll k (fa (ev :: fs))).StaysIn hm := fun b o q => xm.keep b o (fun hmem => by rw [hideAll_none _ hmem] at q; cases q) (of_hideAll _ q)
    have fr : hm.FunFrames (hideAll k (fa (ev :: fs))) (ev :: fs) := by
      have := fm
      exact frames_base this fun b hb => hideAll_none _ hb
    refine wpAny_leaves_madeW hfr hf st fr mk fun h' t x1 x2 x3 x4 => hR h' ⟨vs, t, ha, hsl.trans x4, flyingW_base (base_in hf hk) x1, x2, fresh_of_stays (base_in hf hk) x3⟩
  · refine wpAny_leaves_onW hfr hf hfl fun h' x1 x2 => hR h' ⟨vs, t, ha, hsl.trans x2, flyingW_base (base_in hf hk) x1, htup.of_slots x2, fresh_of_stays (base_in hf hk) hnt⟩
  · have hL : ev.frame = some L' := hL'
    unfold leaving
    refine wpAny_bind (wpAny_noteFrame_againW hL hh.2.2.2 ?_)
    refine wpAny_landsW hh fun h' hfl x2 => ?_
    obtain ⟨k1, k2, ⟨_, _, k3⟩, k4⟩ := hfl
    exact hR h' ⟨vs, t, ha, hsl.trans x2, flyingW_base (base_in hf hk) ⟨k1, k2, k3, k4⟩, htup.of_slots x2, fresh_of_stays (base_in hf hk) hnt⟩
where frames_base {b0 B h : Heap} : ∀ {l : List Env}, h.FunFrames b0 l → (∀ b ∈ fa l, B.get? b = none) → h.FunFrames B l
  | [], _, _ => trivial
  | env :: l, ⟨hk, ⟨L, o, hf, _, ho, hd⟩, hr⟩, hn => ⟨hk, ⟨L, o, hf, hn L (by simp [fa, hf]), ho, hd⟩, frames_base hr fun b hb => hn b (by
      simp only [fa, List.filterMap_cons, hf]
      exact List.mem_cons_of_mem _ hb)⟩

theorem zip_lookup {ps : List Str} (hnd : ps.Nodup) : ∀ {ws : List Value} {i : Nat} {x : Str} {w : Value}, ps[i]? = some x → ws[i]? = some w → (ps.zip ws).lookup x = some w := by
  induction ps with
  | nil => intro ws i x w h; simp at h
  | cons p ps ih =>
    intro ws i x w hx hw
    cases ws with
    | nil => simp at hw
    | cons v ws =>
      cases i with
      | zero =>
        simp at hx hw
        subst hx; subst hw
        simp
      | succ i =>
        simp at hx hw
        have hne : x ≠ p := fun e => by
          subst e
          exact (List.nodup_cons.mp hnd).1 (List.mem_of_getElem? hx)
        rw [List.zip_cons_cons, List.lookup_cons]
        have : (x == p) = false := by simpa using hne
        rw [this]
        exact ih (List.nodup_cons.mp hnd).2 hx hw

theorem lookup_rev {l : List (Str × Value)} (hnd : (l.map (·.1)).Nodup) (x : Str) : l.reverse.lookup x = l.lookup x := by
  induction l with
  | nil => rfl
  | cons p l ih =>
    obtain ⟨y, v⟩ := p
    rw [List.reverse_cons, List.lookup_append, ih (List.nodup_cons.mp hnd).2]
    by_cases e : x = y
    · subst e
      have hn : l.lookup x = none := by
        rw [List.lookup_eq_none_iff]
        intro q hq
        simp only [ne_eq, bne_iff_ne]
        intro z
        exact (List.nodup_cons.mp hnd).1 (List.mem_map.mpr ⟨q, hq, z.symm⟩)
      rw [hn]; simp
    · have : (x == y) = false := by simpa using e
      simp [List.lookup_cons, this]

noncomputable def gam0 (vs : List V) (n : Nat) : Gam := vs.map (fun v => some v.weak) ++ List.replicate (n - vs.length) none

structure FnOk (G : Glo) (f : Addr) (fd : FuncData) (body : List Stmt) (ps names : List Str) : Prop where
  obj : ∃ o, G.b0.get? f = some o ∧ o.data = .func fd
  code : G.b0.CodeRec fd.code fd.qualname
  body : fd.body = .stmts body
  globals : fd.globals = mainGlobals
  builtins : fd.builtins = builtinsNs
  closure : fd.closure = []
  kind : fd.scope.kind = .function
  co : fd.scope.isCoroutine = false
  gen : fd.scope.isGenerator = false
  pre : ∃ more, names = ps ++ more
  nodup : names.Nodup
  loc : ∀ x ∈ ps, fd.scope.names.lookup x = some .local ∨ fd.scope.names.lookup x = some .cell

theorem FnOk.at {f : Addr} {fd : FuncData} {body : List Stmt} {ps names : List Str} (F : FnOk G f fd body ps names) : FnAt G f := let ⟨o, a, b⟩ := F.obj; ⟨o, fd, a, b⟩

theorem mem_of_lookup {x : Str} {k : NameKind} : ∀ {l : List (Str × NameKind)}, l.lookup x = some k → (x, k) ∈ l
  | [], h => by cases h
  | (y, q) :: l, h => by
    rw [List.lookup_cons] at h
    by_cases e : x = y
    · subst e
      simp at h
      subst h
      exact .head _
    · have : (x == y) = false := by simpa using e
      rw [this] at h
      exact .tail _ (mem_of_lookup h)

noncomputable def noMeths (vs : List V) : Prop := ∀ v ∈ vs, ∀ id j, v ≠ .meth id j

theorem Spec.of_body {lvl : Nat} {f : Addr} {fd : FuncData} {body : List Stmt} {ps names : List Str} {vs vs' : List V} {kws : List (Str × V)} {P : RO → Prop} (GO : G.Ok) (F : FnOk G f fd body ps names) (hcell : ∀ x ∈ fd.scope.names, x.2 ≠ .cell)
    (hlen : ps.length = vs'.length) (hnm : noMeths vs')
    (hbind : ∀ (s : Shared) (ws kw : List Value), G.b0.StaysIn s.heap → All2 (WRep s.heap) vs ws → All2 (WRep s.heap) (kws.map (·.2)) kw → ∃ ws', All2 (WRep s.heap) vs' ws' ∧ BindsTo s fd ⟨ws, (kws.map (·.1)).zip kw⟩ (ps.zip ws'))
    (hbody : ∀ (A : Around) (fs : List Env) (L : Addr), (mkC G A fs (callEnv fd L f) names lvl).Ok → BX (mkC G A fs (callEnv fd L f) names lvl) (gam0 vs' names.length) body (Outs P)) :
    Spec G (lvl + 1) f vs kws P := fun A fs s R ws kw hA hh hroom hunits hgu hbase hfr hvs hkw hP => by
  obtain ⟨ws', hws', hb⟩ := hbind s ws kw hbase hvs hkw
  obtain ⟨o, ho, hd⟩ := F.obj
  have hl' : ws'.length = ps.length := by rw [hlen, hws'.length]
  have floc : ∀ x ∈ ps, fd.scope.names.lookup x = some .local := fun x hx => (F.loc x hx).resolve_right fun q => hcell _ (mem_of_lookup q) rfl
  have hcloc : ∀ x ∈ ps.zip ws', fd.scope.names.lookup x.1 = some .local := fun x hx => floc x.1 (List.of_mem_zip hx).1
  refine codeAny_call_def (by lia) (hbase _ _ ho) hd (GO.lim.keeps hbase) (F.code.keeps hbase) F.body hb hcell hcloc (fun h₀ hns hk => ?_) F.co F.gen F.kind
  obtain ⟨more, hmore⟩ := F.pre
  have hnd : ps.Nodup := by have := F.nodup; rw [hmore] at this; exact (List.nodup_append.mp this).1
  have evf : (callEnv fd s.heap.objs.size f).frame = some s.heap.objs.size := rfl
  have evs : (callEnv fd s.heap.objs.size f).scope = fd.scope := rfl
  have kL : s.heap.get? s.heap.objs.size = none := Heap.get?_none_of_le (Nat.le_refl _)
  have OK : (mkC G A fs (callEnv fd s.heap.objs.size f) names lvl).Ok := {
    glo := GO
    frames := Around.frames_deeper hA
    handled := hh
    kind := F.kind
    globals := F.globals
    builtins := F.builtins
    room := by show A.depth + 1 + lvl < _; lia
    units := by show A.units + 3 + 10 * lvl + 1000 < _; lia
    guards := hgu
    cellsInj := fun x y c hc => by
      have : fd.closure.lookup x = some c := hc
      rw [F.closure] at this; cases this
    nodup := F.nodup }
  refine hbody A fs s.heap.objs.size OK s.heap ⟨h₀, s.gens, s.drawn, _, s.os⟩ _ _ ⟨⟨hbase, .of_keeps hk, ?_, ⟨_, hns, kL, ?_⟩, ?_⟩, ⟨fun i => ws'.getD i .none, ?_, ?_, ?_⟩, ?_⟩ ?_
  · refine .cons (by rw [evs, F.kind]; decide) evf hns ?_ (hfr.of_keeps fun b o e _ => ⟨o, hk b o e, rfl⟩)
    cases q : G.b0.get? s.heap.objs.size with
    | none => rfl
    | some o => rw [hbase _ _ q] at kL; cases kL
  · show s.heap.objs.size ∈ fa (callEnv fd s.heap.objs.size f :: fs)
    simp [fa, evf]
  · intro x hx
    exfalso
    have hx' : fd.scope.names.lookup x = some .cell := hx
    exact hcell _ (mem_of_lookup hx') rfl
  · intro i x v hx hv
    have hi : i < vs'.length := by
      rcases Nat.lt_or_ge i vs'.length with q | q
      · exact q
      · exfalso
        rw [gam0, List.getElem?_append_right (by simpa using q)] at hv
        rw [List.getElem?_replicate] at hv
        split at hv <;> cases hv
    rw [gam0, List.getElem?_append_left (by simpa using hi), List.getElem?_map] at hv
    have hv' : vs'[i]? = some vs'[i] := by simp [hi]
    rw [hv'] at hv
    simp only [Option.map_some, Option.some.injEq] at hv
    obtain ⟨w, hw, r⟩ := hws'.get hv'
    have hpx : ps[i]? = some x := by
      have : names[i]? = some x := hx
      rw [hmore, List.getElem?_append_left (by lia)] at this
      exact this
    rw [List.getD_eq_getElem?_getD, hw]
    refine ⟨.inl ⟨floc x (List.mem_of_getElem? hpx), _, hns, ?_⟩, ?_⟩
    · rw [lookup_rev (by rw [List.map_fst_zip (by lia)]; exact hnd)]
      exact zip_lookup hnd hpx hw
    · rw [← hv]
      show VRep h₀ vs'[i].weak w
      exact VRep.ext r (Ext.of_keeps (fs := []) hk)
  · intro i l hi
    exfalso
    rw [gam0] at hi
    rcases List.mem_append.mp (List.mem_of_getElem? hi) with q | q
    · obtain ⟨v, _, e⟩ := List.mem_map.mp q
      cases v <;> simp [V.weak] at e
    · have := List.eq_of_mem_replicate q; cases this
  · intro i id j hi
    exfalso
    rw [gam0] at hi
    rcases List.mem_append.mp (List.mem_of_getElem? hi) with q | q
    · obtain ⟨v, hv, e⟩ := List.mem_map.mp q
      cases v <;> simp [V.weak] at e
      exact hnm _ hv _ _ rfl
    · have := List.eq_of_mem_replicate q; cases this
  · show (gam0 vs' names.length).length = names.length
    rw [gam0, List.length_append, List.length_map, List.length_replicate, hmore, List.length_append]
    lia
  · intro o ho
    cases o with
    | next Γ =>
      intro h' tk S
      have := hP _ ho .none h' tk
      refine this ⟨fun b o nb e => S.ext.keep b o (fun hm => ?_) e, S.ext.slots⟩ rfl fun _ a e => by cases e
      simp only [fa, List.filterMap_cons, evf] at hm
      rcases List.mem_cons.mp hm with q | q
      · rw [q, kL] at e; cases e
      · exact nb q
    | cont Γ => exact ho.elim
    | brk Γ => exact ho.elim
    | ret v fr =>
      intro w h' tk x _ r f
      refine hP _ ho w h' tk ⟨fun b o nb e => x.keep b o (fun hm => ?_) e, x.slots⟩ r fun q => (f q).1
      simp only [fa, List.filterMap_cons, evf] at hm
      rcases List.mem_cons.mp hm with q | q
      · rw [q, kL] at e; cases e
      · exact nb q
    | exc cls args =>
      intro e h' tk x
      exact leave_exc (G := G) (s := ⟨h', s.gens, s.drawn, tk, s.os⟩) (R := R) hA evf kL hbase x fun h'' fl => hP _ ho e h'' tk fl
end
end Mine
end
section
set_option maxRecDepth 100000
set_option linter.unusedVariables false
namespace Mine

noncomputable abbrev vi (i : Int) : V := .im (.int i)
noncomputable abbrev vb (b : Bool) : V := .im (.bool b)
noncomputable abbrev vy (b : List UInt8) : V := .im (.bytes b)
noncomputable abbrev vs' (s : Str) : V := .im (.str s)

section
variable {C : Ctx} {Γ : Gam}

/-- an operation that makes one value that is no object -/
theorem op_im {t : Value → Value → Sem Value} {a b : V} {i : I} (hn : ∀ v, i ≠ .raw v)
    (h : ∀ (s : Shared) (Q : Value → Shared → Prop) (E : Value → Shared → Prop) (x y : Value), WRep s.heap a x → WRep s.heap b y →
      (∀ w tk, IRep i w → Q w { s with toks := tk }) → wpAny C.M C.A (t x y) Q E s) : OpOk C t a b (.im i) := fun s Q E x y _ _ rx ry hQ =>
  h s Q E x y rx ry fun w tk r => hQ w s.heap tk (fun _ _ e => e) r (fresh_im r hn)

theorem op_add {a b : Int} : OpOk C (binaryOp .Add) (vi a) (vi b) (vi (a + b)) := op_im (fun _ q => by cases q) fun s Q E x y rx ry h => by
  obtain ⟨t, rfl⟩ := rx; obtain ⟨u, rfl⟩ := ry
  with_reducible refine add_int ?_
  exact h _ _ ⟨_, rfl⟩
theorem op_sub {a b : Int} : OpOk C (binaryOp .Sub) (vi a) (vi b) (vi (a - b)) := op_im (fun _ q => by cases q) fun s Q E x y rx ry h => by
  obtain ⟨t, rfl⟩ := rx; obtain ⟨u, rfl⟩ := ry
  with_reducible refine sub_int ?_
  exact h _ _ ⟨_, rfl⟩
theorem op_mul {a b : Int} (hb : (-(2 ^ 64) < a ∧ a < 2 ^ 64) ∨ (-(2 ^ 64) < b ∧ b < 2 ^ 64)) : OpOk C (binaryOp .Mult) (vi a) (vi b) (vi (a * b)) := op_im (fun _ q => by cases q) fun s Q E x y rx ry h => by
  obtain ⟨t, rfl⟩ := rx; obtain ⟨u, rfl⟩ := ry
  have hm : IntMulOk a b := hb.elim (fun q => .of_left (intBits_le_64 q.1 q.2)) fun q => .of_right (intBits_le_64 q.1 q.2)
  with_reducible refine mul_int (hm := hm) ?_
  exact h _ _ ⟨_, rfl⟩
theorem op_div {a b : Int} (hb : 0 < b) (hs : b < 1073741824) : OpOk C (binaryOp .FloorDiv) (vi a) (vi b) (vi (a / b)) := op_im (fun _ q => by cases q) fun s Q E x y rx ry h => by
  obtain ⟨t, rfl⟩ := rx; obtain ⟨u, rfl⟩ := ry
  have h1 : b ≠ 0 := by lia
  have h2 : Builtin.divisionGoesByPylong a b = false := PyProof.noPylong_small (by lia)
  with_reducible refine floordiv_int h1 ?_ (Or.inl h2)
  rw [Int.fdiv_eq_ediv_of_nonneg a (by lia)]
  exact h _ _ ⟨_, rfl⟩
theorem op_mod {a b : Int} (hb : 0 < b) : OpOk C (binaryOp .Mod) (vi a) (vi b) (vi (a % b)) := op_im (fun _ q => by cases q) fun s Q E x y rx ry h => by
  obtain ⟨t, rfl⟩ := rx; obtain ⟨u, rfl⟩ := ry
  have h1 : b ≠ 0 := by lia
  with_reducible refine mod_int h1 ?_
  rw [Int.fmod_eq_emod_of_nonneg a (by lia)]
  exact h _ _ ⟨_, rfl⟩
theorem op_shl {a n : Int} (hn : 0 ≤ n) (hn2 : n ≤ 1000) (ha : a.natAbs < 2 ^ 64) : OpOk C (binaryOp .LShift) (vi a) (vi n) (vi (a * 2 ^ n.toNat)) := op_im (fun _ q => by cases q) fun s Q E x y rx ry h => by
  obtain ⟨t, rfl⟩ := rx; obtain ⟨u, rfl⟩ := ry
  have h1 : n ≤ 1000000 := by lia
  with_reducible refine lshift_int_small hn h1 ha ?_
  exact h _ _ ⟨_, rfl⟩
theorem op_shr {a n : Int} (hn : 0 ≤ n) : OpOk C (binaryOp .RShift) (vi a) (vi n) (vi (a / 2 ^ n.toNat)) := op_im (fun _ q => by cases q) fun s Q E x y rx ry h => by
  obtain ⟨t, rfl⟩ := rx; obtain ⟨u, rfl⟩ := ry
  with_reducible refine rshift_int hn ?_
  rw [Int.fdiv_eq_ediv_of_nonneg a (Int.pow_nonneg (by decide))]
  exact h _ _ ⟨_, rfl⟩
theorem op_or {a b : Int} : OpOk C (binaryOp .BitOr) (vi a) (vi b) (vi (Builtin.bitOr a b)) := op_im (fun _ q => by cases q) fun s Q E x y rx ry h => by
  obtain ⟨t, rfl⟩ := rx; obtain ⟨u, rfl⟩ := ry
  with_reducible refine or_int ?_
  exact h _ _ ⟨_, rfl⟩
theorem op_and {a b : Int} : OpOk C (binaryOp .BitAnd) (vi a) (vi b) (vi (Builtin.bitAnd a b)) := op_im (fun _ q => by cases q) fun s Q E x y rx ry h => by
  obtain ⟨t, rfl⟩ := rx; obtain ⟨u, rfl⟩ := ry
  with_reducible refine and_int ?_
  exact h _ _ ⟨_, rfl⟩

theorem cmp_eq {a b : Int} : OpOk C (compareOp .Eq) (vi a) (vi b) (vb (a == b)) := op_im (fun _ q => by cases q) fun s Q E x y rx ry h => by
  obtain ⟨t, rfl⟩ := rx; obtain ⟨u, rfl⟩ := ry
  with_reducible refine eq_int ?_
  exact h _ _ rfl
theorem cmp_ne {a b : Int} : OpOk C (compareOp .NotEq) (vi a) (vi b) (vb (a != b)) := op_im (fun _ q => by cases q) fun s Q E x y rx ry h => by
  obtain ⟨t, rfl⟩ := rx; obtain ⟨u, rfl⟩ := ry
  with_reducible refine ne_int ?_
  exact h _ _ rfl
theorem cmp_lt {a b : Int} : OpOk C (compareOp .Lt) (vi a) (vi b) (vb (decide (a < b))) := op_im (fun _ q => by cases q) fun s Q E x y rx ry h => by
  obtain ⟨t, rfl⟩ := rx; obtain ⟨u, rfl⟩ := ry
  with_reducible refine lt_int ?_
  exact h _ _ rfl
theorem cmp_le {a b : Int} : OpOk C (compareOp .LtE) (vi a) (vi b) (vb (decide (a ≤ b))) := op_im (fun _ q => by cases q) fun s Q E x y rx ry h => by
  obtain ⟨t, rfl⟩ := rx; obtain ⟨u, rfl⟩ := ry
  with_reducible refine le_int ?_
  exact h _ _ rfl
theorem cmp_gt {a b : Int} : OpOk C (compareOp .Gt) (vi a) (vi b) (vb (decide (b < a))) := op_im (fun _ q => by cases q) fun s Q E x y rx ry h => by
  obtain ⟨t, rfl⟩ := rx; obtain ⟨u, rfl⟩ := ry
  with_reducible refine gt_int ?_
  exact h _ _ rfl
theorem cmp_ge {a b : Int} : OpOk C (compareOp .GtE) (vi a) (vi b) (vb (decide (b ≤ a))) := op_im (fun _ q => by cases q) fun s Q E x y rx ry h => by
  obtain ⟨t, rfl⟩ := rx; obtain ⟨u, rfl⟩ := ry
  with_reducible refine ge_int ?_
  exact h _ _ rfl

theorem SE.cmp {l r : Expr} {op : CmpOp} {pos : Pos} {a b v : V} {f g : Bool} (hl : SE C Γ l a f) (hr : SE C Γ r b g) (ho : OpOk C (compareOp op) a b v) (hm : behindInMarks op r = false) :
    SE C Γ (.Compare l [op] [r] pos) v true := fun s Q E I h => by
  refine wpAny_Compare1 (hl s _ E I fun x h₁ t₁ x₁ r₁ _ => ?_) hm
  have I₁ := I.ext x₁
  refine hr ⟨h₁, s.gens, s.drawn, t₁, s.os⟩ _ E I₁ fun y h₂ t₂ x₂ r₂ _ => ?_
  have I₂ := I₁.ext x₂
  refine ho ⟨h₂, s.gens, s.drawn, t₂, s.os⟩ _ E x y I₂.base I₂.frames (VRep.ext r₁ x₂) r₂ fun w h' tk k r f => ?_
  have x₃ := x₁.trans x₂
  exact h w h' tk (x₃.trans (.of_keeps k)) r fun _ => f.back' I₂.frames x₃

theorem SE.ifexp {t body orelse : Expr} {pos : Pos} {b : Bool} {v : V} {f : Bool} (ht : ST C Γ t b) (h1 : b = true → SE C Γ body v f) (h2 : b = false → SE C Γ orelse v f) : SE C Γ (.IfExp t body orelse pos) v f := fun s Q E I h => by
  refine wpAny_IfExp (ht s _ E I fun h₁ t₁ x₁ => ?_)
  have I₁ := I.ext x₁
  have fin : ∀ w h' tk, Ext C.fs h₁ h' → VRep h' v.weak w → (f = true → Fresh h₁ h' w) → Q w { s with heap := h', toks := tk } := fun w h' tk x r q => h w h' tk (x₁.trans x) r fun e => (q e).back' I₁.frames x₁
  cases b with
  | true => exact h1 rfl ⟨h₁, s.gens, s.drawn, t₁, s.os⟩ Q E I₁ fin
  | false => exact h2 rfl ⟨h₁, s.gens, s.drawn, t₁, s.os⟩ Q E I₁ fin

theorem SE.neg {e : Expr} {pos : Pos} {a : Int} {f : Bool} (he : SE C Γ e (vi a) f) : SE C Γ (.UnaryOp .USub e pos) (vi (-a)) true := fun s Q E I h => by
  show wpAny C.M C.A (do let v ← eval e C.ev; standAt pos; holding [v] (unaryOp .USub v)) Q E s
  refine wpAny_bind (he s _ E I fun x h₁ t₁ x₁ r₁ _ => ?_)
  obtain ⟨t, rfl⟩ := r₁
  exact wpAny_bind (wpAny_standAt (wpAny_holding (neg_int (h _ _ _ x₁ ⟨_, rfl⟩ fun _ a e => by cases e))))

/-- truth of a value -/
noncomputable def TrOk (C : Ctx) (a : V) (b : Bool) : Prop :=
  ∀ (s : Shared) (Q : Bool → Shared → Prop) (E : Value → Shared → Prop) (x : Value), WRep s.heap a x → (∀ tk, Q b { s with toks := tk }) → wpAny C.M C.A (truthy x) Q E s

theorem tr_bool {b : Bool} : TrOk C (vb b) b := fun s Q E x r h => by
  obtain rfl : x = .bool b := r
  exact wpAny_truthy_bool (h s.toks)
theorem tr_int {i : Int} : TrOk C (vi i) (i != 0) := fun s Q E x r h => by
  obtain ⟨t, rfl⟩ := r
  exact P.truthy_int (h s.toks)
theorem tr_none : TrOk C (.im .none) false := fun s Q E x r h => by
  obtain rfl : x = .none := r
  exact truthy_none (h s.toks)
theorem tr_bytes {b : List UInt8} (hb : b.length ≤ 1099511627776) : TrOk C (vy b) (b.length != 0) := fun s Q E x r h => by
  obtain ⟨t, rfl⟩ := r
  refine truthy_bytes (by simpa using hb) ?_
  have : ((b.toArray.size : Int) != 0) = (b.length != 0) := by
    rw [Bool.eq_iff_iff]; simp
  rw [this]
  exact h _

theorem ST.val {e : Expr} {v : V} {f b : Bool} (he : SE C Γ e v f) (ht : TrOk C v b)
    (hp : ∀ env whole, isTrue e env whole = (do let v ← whole; standAt e.pos; holding [v] (truthy v))) : ST C Γ e b := fun s Q E I h => by
  refine isTrue_plain (he s _ E I fun x h₁ t₁ x₁ r₁ _ => ?_) (hp _ _)
  exact ht ⟨h₁, s.gens, s.drawn, t₁, s.os⟩ Q E x r₁ fun tk => h h₁ tk x₁

theorem ST.not {e : Expr} {pos : Pos} {b : Bool} (he : ST C Γ e b) : ST C Γ (.UnaryOp .Not e pos) (!b) := fun s Q E I h =>
  isTrue_not (he s _ E I h)

/-- a chain of comparisons behind a value -/
noncomputable def TC (C : Ctx) (Γ : Gam) (a : V) (ops : List CmpOp) (es : List Expr) (b : Bool) : Prop :=
  ∀ (pos : Pos) (s : Shared) (Q : Bool → Shared → Prop) (E : Value → Shared → Prop) (x : Value), Inv C Γ s.heap → WRep s.heap a x →
    (∀ h' tk, Ext C.fs s.heap h' → Q b { s with heap := h', toks := tk }) → wpAny C.M C.A (testChain pos x ops (markedEach ops es (evalEach es C.ev))) Q E s

theorem wpAny_operateX {M : Model} {A : Around} {E : Value → Shared → Prop} {s : Shared} {vs : List Value} {m : Sem Value} {Q : Value → Shared → Prop} (h : wpAny M A m Q E s) : wpAny M A (operate vs m) Q E s :=
  fun Γ p hΓ => by rw [Sem.wp_operate]; exact h Γ p hΓ

theorem TC.one {a v : V} {op : CmpOp} {e : Expr} {f b : Bool} (he : SE C Γ e v f) (ho : OpOk C (compareOp op) a v (vb b)) (hm : behindInMarks op e = false) : TC C Γ a [op] [e] b := fun pos s Q E x I r h => by
  show wpAny C.M C.A (do let rv ← holding [x] (markedBehindIn op e (eval e C.ev)); standAt pos; let c ← operate [x, rv] (compareOp op x rv); holding [c] (truthy c)) Q E s
  rw [markedBehindIn_of_false hm]
  refine wpAny_bind (wpAny_holding (he s _ E I fun y h₁ t₁ x₁ r₁ _ => ?_))
  have I₁ := I.ext x₁
  refine wpAny_bind (wpAny_standAt (wpAny_bind ?_))
  refine wpAny_operateX (ho ⟨h₁, s.gens, s.drawn, t₁, s.os⟩ _ E x y I₁.base I₁.frames (r.ext x₁) r₁ fun w h' tk k rw _ => ?_)
  obtain rfl : w = .bool b := rw
  exact wpAny_holding (wpAny_truthy_bool (h h' tk (x₁.trans (.of_keeps k))))
theorem TC.cons {a v : V} {op op2 : CmpOp} {ops : List CmpOp} {e e2 : Expr} {es : List Expr} {f b c : Bool} (he : SE C Γ e v f) (ho : OpOk C (compareOp op) a v (vb b)) (hr : b = true → TC C Γ v (op2 :: ops) (e2 :: es) c) :
    TC C Γ a (op :: op2 :: ops) (e :: e2 :: es) (b && c) := fun pos s Q E x I r h => by
  show wpAny C.M C.A (do
    let rv ← holding [x] (eval e C.ev)
    standAt pos
    let c ← holding [x, rv] (compareOp op x rv)
    release [x, rv] [c]
    if ← holding [c, rv] (truthy c) then testChain pos rv (op2 :: ops) (markedEach (op2 :: ops) (e2 :: es) (evalEach (e2 :: es) C.ev)) else pure false) Q E s
  refine wpAny_bind (wpAny_holding (he s _ E I fun y h₁ t₁ x₁ r₁ _ => ?_))
  have I₁ := I.ext x₁
  refine wpAny_bind (wpAny_standAt (wpAny_bind (wpAny_holding ?_)))
  refine ho ⟨h₁, s.gens, s.drawn, t₁, s.os⟩ _ E x y I₁.base I₁.frames (r.ext x₁) r₁ fun w h' tk k rw _ => ?_
  obtain rfl : w = .bool b := rw
  have x₂ : Ext C.fs s.heap h' := x₁.trans (.of_keeps k)
  refine wpAny_bind (wpAny_release (wpAny_bind (wpAny_holding (wpAny_truthy_bool ?_))))
  cases b with
  | false => exact wpAny_pure (h h' tk x₂)
  | true => exact hr rfl pos ⟨h', s.gens, s.drawn, tk, s.os⟩ Q E y (I.ext x₂) (WRep.ext r₁ (Ext.of_keeps (fs := C.fs) k)) fun h'' tk' x₃ => h h'' tk' (x₂.trans x₃)

theorem ST.cmp {l : Expr} {ops : List CmpOp} {es : List Expr} {pos : Pos} {a : V} {f b : Bool} (hl : SE C Γ l a f) (hc : TC C Γ a ops es b) : ST C Γ (.Compare l ops es pos) b := fun s Q E I h => by
  show wpAny C.M C.A (do testChain pos (← eval l C.ev) ops (markedEach ops es (evalEach es C.ev))) Q E s
  refine wpAny_bind (hl s _ E I fun x h₁ t₁ x₁ r₁ _ => ?_)
  exact hc pos ⟨h₁, s.gens, s.drawn, t₁, s.os⟩ Q E x (I.ext x₁) r₁ fun h' tk x₂ => h h' tk (x₁.trans x₂)

/-- all of a row of tests -/
noncomputable def TAnd (C : Ctx) (Γ : Gam) (es : List Expr) (b : Bool) : Prop := ∀ pos, ST C Γ (.BoolOp .And es pos) b
noncomputable def TOr (C : Ctx) (Γ : Gam) (es : List Expr) (b : Bool) : Prop := ∀ pos, ST C Γ (.BoolOp .Or es pos) b
theorem TAnd.nil : TAnd C Γ [] true := fun pos s Q E I h => isTrue_and_nil (h s.heap s.toks (.refl ..))
theorem TOr.nil : TOr C Γ [] false := fun pos s Q E I h => isTrue_or_nil (h s.heap s.toks (.refl ..))
theorem TAnd.cons {e : Expr} {es : List Expr} {b c : Bool} (he : ST C Γ e b) (hs : b = true → TAnd C Γ es c) : TAnd C Γ (e :: es) (b && c) := fun pos s Q E I h => by
  refine isTrue_and (he s _ E I fun h₁ t₁ x₁ => ?_)
  cases b with
  | false => exact h h₁ t₁ x₁
  | true => exact hs rfl pos ⟨h₁, s.gens, s.drawn, t₁, s.os⟩ Q E (I.ext x₁) fun h' tk x => h h' tk (x₁.trans x)
theorem TOr.cons {e : Expr} {es : List Expr} {b c : Bool} (he : ST C Γ e b) (hs : b = false → TOr C Γ es c) : TOr C Γ (e :: es) (b || c) := fun pos s Q E I h => by
  refine isTrue_or (he s _ E I fun h₁ t₁ x₁ => ?_)
  cases b with
  | true => exact h h₁ t₁ x₁
  | false => exact hs rfl pos ⟨h₁, s.gens, s.drawn, t₁, s.os⟩ Q E (I.ext x₁) fun h' tk x => h h' tk (x₁.trans x)
theorem ST.and {es : List Expr} {pos : Pos} {b : Bool} (h : TAnd C Γ es b) : ST C Γ (.BoolOp .And es pos) b := h pos
theorem ST.or {es : List Expr} {pos : Pos} {b : Bool} (h : TOr C Γ es b) : ST C Γ (.BoolOp .Or es pos) b := h pos
end
end Mine
end
section
set_option maxRecDepth 100000
set_option linter.unusedVariables false
namespace Mine

theorem base_ext {C : Ctx} {k k' : Heap} (x : Ext C.fs k k') : (base C k).StaysIn (base C k') := fun b o e => by
  have nb : b ∉ fa C.fs := fun hm => by
    have := hideAll_none (h := k) _ hm
    unfold base at e
    rw [this] at e; cases e
  exact hideAll_get _ (x.keep b o nb (of_hideAll _ e)) nb

theorem Exc.weaken {C : Ctx} {k k' : Heap} {e : Addr} {cls : Value} {args : List I} {h : Heap} (x : Ext C.fs k k') (y : Exc C k' e cls args h) : Exc C k e cls args h := by
  obtain ⟨vs, ha, hs, y⟩ := y
  refine ⟨vs, ha, x.slots.trans hs, ?_⟩
  rcases y with ⟨hm, xm, fm, mk⟩ | ⟨t, hfl, htup, hnt⟩ | ⟨t, L, hL, hh, htup, hnt⟩
  · exact .inl ⟨hm, x.trans xm, fm, mk⟩
  · exact .inr (.inl ⟨t, flyingW_base (base_ext x) hfl, htup, fresh_of_stays (base_ext x) hnt⟩)
  · exact .inr (.inr ⟨t, L, hL, heldW_base (base_ext x) hh, htup, fresh_of_stays (base_ext x) hnt⟩)

/-- noted in its own frame -/
noncomputable def Held (C : Ctx) (k : Heap) (e : Addr) (cls : Value) (args : List I) (h' : Heap) : Prop :=
  ∃ vs t L, All2 IRep args vs ∧ k.UpToSlots h' ∧ C.ev.frame = some L ∧ Heap.HeldW (base C k) C.fs e cls (.ref t) L h' ∧ h'.TupAt t vs ∧ (base C k).get? t = none
theorem Held.exc {C : Ctx} {k : Heap} {e : Addr} {cls : Value} {args : List I} {h' : Heap} (x : Held C k e cls args h') : Exc C k e cls args h' :=
  let ⟨vs, t, L, a, b, c, d, f, g⟩ := x; ⟨vs, a, b, .inr (.inr ⟨t, L, c, d, f, g⟩)⟩

theorem frames_on {b0 B h : Heap} : ∀ {l : List Env}, h.FunFrames b0 l → (∀ b ∈ fa l, B.get? b = none) → h.FunFrames B l
  | [], _, _ => trivial
  | env :: l, ⟨hk, ⟨L, o, hf, _, ho, hd⟩, hr⟩, hn => ⟨hk, ⟨L, o, hf, hn L (by simp [fa, hf]), ho, hd⟩, frames_on hr fun b hb => hn b (by
      simp only [fa, List.filterMap_cons, hf]
      exact List.mem_cons_of_mem _ hb)⟩

theorem exc_noted {C : Ctx} {k : Heap} {s : Shared} {e : Addr} {cls : Value} {args : List I} {Q : Unit → Shared → Prop} {E : Value → Shared → Prop} {outer : List Env} {L : Addr} (O : C.Ok) (hfs : C.fs = C.ev :: outer) (hf : C.ev.frame = some L)
    (x : Exc C k e cls args s.heap) (h : ∀ h', Held C k e cls args h' → Q () { s with heap := h' }) : wpAny C.M C.A (noteFrame (.ref e) C.ev) Q E s := by
  have hfr : C.A.frames = some (C.ev :: outer) := by rw [O.frames, hfs]
  obtain ⟨vs, ha, hsl, x⟩ := x
  rcases x with ⟨hm, xm, fm, mk⟩ | ⟨t, hfl, htup, hnt⟩ | ⟨t, L', hL', hh, htup, hnt⟩
  · obtain ⟨t, he, htn, ht⟩ := mk.there
    have st : (base C k).StaysIn hm := fun b o q => xm.keep b o (fun hmem => by
      have := hideAll_none (h := k) _ hmem
      unfold base at q
      rw [this] at q; cases q) (of_hideAll _ q)
    have fr : hm.FunFrames (base C k) (C.ev :: outer) := frames_on (hfs ▸ fm) fun b hb => hideAll_none _ (hfs ▸ hb)
    have fresh : ∀ b, hm.get? b = none → (base C k).get? b = none := fun b hb => fresh_of_stays st hb
    unfold noteFrame
    simp only [hf]
    refine wpAny_bind (wpAny_field (x := Value.none) he rfl rfl ?_)
    rw [if_neg (show ¬ ((Value.none != Value.none) = true) from by decide)]
    refine wpAny_entryW (a0 := .ref t) hfr (fr.of_keeps fun b o hb _ => ⟨o, mk.keeps b o hb, rfl⟩) hf he (fun b o hb => mk.keeps b o (st b o hb)) (fresh e mk.new) rfl (by simp) rfl fun h' hN => ?_
    obtain ⟨k1, k2, k3, k4⟩ := hN
    refine h h' ⟨vs, t, L, ha, hsl.trans k4, hf, ⟨k1, fresh e mk.new, hfs ▸ k2, k3⟩, Heap.TupAt.of_slots ⟨_, _, ht, rfl, rfl⟩ k4, fresh t htn⟩
  · refine wpAny_looks_onW hfr hf (hfs ▸ hfl) fun h' hh' hs' => ?_
    exact h h' ⟨vs, t, L, ha, hsl.trans hs', hf, hfs ▸ hh', htup.of_slots hs', hnt⟩
  · have : L' = L := Option.some.inj (hL'.symm.trans hf)
    subst this
    exact wpAny_noteFrame_againW hf hh.2.2.2 (h s.heap ⟨vs, t, L', ha, hsl, hf, hh, htup, hnt⟩)

theorem setFlight_some {M : Model} {A : Around} {E : Value → Shared → Prop} {s : Shared} {base : Heap} {l : List Env} {e L : Addr} {cls a0 fl : Value} {Q : Unit → Shared → Prop}
    (hkb : base.StaysIn s.heap) (hl : s.heap.FunFrames base l) (ht : s.heap.TracedAtW base e cls a0 fl)
    (h : ∀ h', base.StaysIn h' → h'.FunFrames base l → h'.TracedAtW base e cls a0 (rawInt L) → (∀ b o, s.heap.get? b = some o → (∀ vs, o.data ≠ .fields vs) → h'.get? b = some o) → Q () { s with heap := h' }) :
    wpAny M A (setFlight (.ref e) (some L)) Q E s := by
  obtain ⟨oe, vs, T, oT, ts, he, hcls, hd, h1, hnT, hTe, hT, hdT, h3⟩ := ht
  have hsz3 : 3 < ts.size := (Array.getElem?_eq_some_iff.mp h3).1
  have other : ∀ b, b ≠ T → (s.heap.update T (Obj.mapFields (·.setIfInBounds 3 ((some L).elim Value.none fun f => rawInt f)))).get? b = s.heap.get? b :=
    fun b hb => Heap.get?_update_other _ _ (Ne.symm hb)
  have noRecord : ∀ b o, s.heap.get? b = some o → (∀ vs, o.data ≠ .fields vs) → b ≠ T := fun b o hb hnf q => by
    rw [q, hT] at hb; injection hb with hb; subst hb; exact hnf ts hdT
  unfold setFlight
  refine wpAny_bind (wpAny_field he hd h1 ?_)
  rw [if_pos (show (Value.ref T != Value.none) = true from by simp)]
  refine wpAny_setField hT hdT hsz3 (h _ (fun b o hbo => (other b fun q => by rw [q, hnT] at hbo; cases hbo).trans (hkb b o hbo))
    (hl.of_keeps fun b o hb hnf => ⟨o, (other b (noRecord b o hb hnf)).trans hb, rfl⟩) ?_ fun b o hb hnf => (other b (noRecord b o hb hnf)).trans hb)
  exact ⟨oe, vs, T, _, _, (other e (Ne.symm hTe)).trans he, hcls, hd, h1, hnT, hTe, Heap.get?_update_self _ hT (Obj.isFreed_of_fields (Obj.data_mapFields hdT _)), Obj.data_mapFields hdT _, by simp [hsz3]⟩

theorem held_back {C : Ctx} {k : Heap} {s : Shared} {e : Addr} {cls : Value} {args : List I} {E : Value → Shared → Prop} (x : Held C k e cls args s.heap) (h : ∀ h', Held C k e cls args h' → E (.ref e) { s with heap := h' }) :
    cameBackBy C.M C.A C.ev E (.ref e) s := by
  obtain ⟨vs, t, L, ha, hsl, hf, ⟨f1, f2, f3, f4⟩, htup, hnt⟩ := x
  have f4' := f4
  obtain ⟨oe, ws, T, oT, ts, he, hcls, hd, h1, hnT, hTe, hT, hdT, h3⟩ := f4
  unfold cameBackBy
  refine wpAny_bind (wpAny_field he hd h1 ?_)
  rw [if_neg (show ¬ ((Value.ref T == Value.none) = true) from by simp)]
  rw [hf]
  refine setFlight_some f1 f3 f4' fun h' k1 k2 k3 k4 => h h' ⟨vs, t, L, ha, hsl.trans fun b o q n => ⟨o.slots, k4 b o q n⟩, hf, ⟨k1, f2, k2, k3⟩, ?_, hnt⟩
  exact htup.of_slots fun b o q n => ⟨o.slots, k4 b o q n⟩

/-- out of a loop or a handler of the block's own -/
theorem exc_out {C : Ctx} {k : Heap} {s : Shared} {e : Addr} {cls : Value} {args : List I} {E : Value → Shared → Prop} {outer : List Env} {L : Addr} (O : C.Ok) (hfs : C.fs = C.ev :: outer) (hf : C.ev.frame = some L)
    (x : Exc C k e cls args s.heap) (h : ∀ h', Exc C k e cls args h' → E (.ref e) { s with heap := h' }) : notedBy C.M C.A C.ev (cameBackBy C.M C.A C.ev E) (.ref e) s :=
  exc_noted O hfs hf x fun h' hh => held_back (s := { s with heap := h' }) hh fun h'' hh' => h h'' hh'.exc
end Mine
end
section
set_option maxRecDepth 100000
set_option linter.unusedVariables false
namespace Mine

section
variable {C : Ctx} {k h h' : Heap} {Γ : Gam}

theorem St.weaken {k' : Heap} (x : Ext C.fs k k') (S : St C k' Γ h) (hb : C.b0.StaysIn k) (hL : k.get? C.ev.locals = none) : St C k Γ h := by
  have none : ∀ a, a ∉ fa C.fs → k'.get? a = none → k.get? a = none := fun a na e => by
    cases q : k.get? a with
    | none => rfl
    | some o => rw [x.keep a o na q] at e; cases e
  refine ⟨⟨hb, x.trans S.ext, S.frames, ?_, fun y hy => ?_⟩, ?_, S.len⟩
  · obtain ⟨m, a, _, b⟩ := S.loc
    exact ⟨m, a, hL, b⟩
  · obtain ⟨c, v, a, b, d, e⟩ := S.cells y hy
    exact ⟨c, v, a, b, none c e d, e⟩
  · obtain ⟨Ws, X⟩ := S.vars
    refine ⟨Ws, X.reads, fun i l hi => ?_, X.meth⟩
    obtain ⟨a, h1, h2, h3, h4⟩ := X.own i l hi
    exact ⟨a, h1, none a h3 h2, h3, h4⟩

theorem St.touch {I : Addr} {oI : Obj} {ws : Array Value} (S : St C k Γ h) (hI : h.get? I = some oI) (hd : oI.data = .fields ws) (hc : oI.cls ≠ .type "builtin_function_or_method") (hk : k.get? I = none)
    (hs : ∀ b o, b ≠ I → h.get? b = some o → h'.get? b = some o) : St C k Γ h' := by
  have nI : ∀ b o, h.get? b = some o → (∀ vs, o.data ≠ .fields vs) → h'.get? b = some o := fun b o e n => hs b o (fun z => by
    rw [z, hI] at e; cases e; exact n _ hd) e
  have nf : I ∉ fa C.fs := fun hm => by
    obtain ⟨_, o, ho, n⟩ := S.frames.mem hm
    rw [hI] at ho; cases ho; exact n _ hd
  refine ⟨⟨S.baseK, ⟨fun b o nb e => hs b o (fun z => by rw [z, hk] at e; cases e) (S.ext.keep b o nb e), fun b o e n => ?_⟩, frames_keeps S.frames fun b hb o e => hs b o (fun z => nf (z ▸ hb)) e, ?_, fun y hy => ?_⟩, ?_, S.len⟩
  · obtain ⟨sl, q⟩ := S.ext.slots b o e n
    exact ⟨sl, nI b _ q n⟩
  · obtain ⟨m, ⟨o, es, ep, ho, hd', r⟩, b⟩ := S.loc
    exact ⟨m, ⟨o, es, ep, nI _ _ ho (fun vs q => by rw [hd'] at q; cases q), hd', r⟩, b⟩
  · obtain ⟨c, v, a, ⟨o, ho, hd'⟩, d⟩ := S.cells y hy
    exact ⟨c, v, a, ⟨o, nI _ _ ho (fun vs q => by rw [hd'] at q; cases q), hd'⟩, d⟩
  · obtain ⟨Ws, X⟩ := S.vars
    refine ⟨Ws, fun i y v hy hv => ?_, X.own, fun i id j hm => ?_⟩
    · obtain ⟨r, q⟩ := X.reads i y v hy hv
      constructor
      · rcases r with ⟨a, m, ⟨o, es, ep, ho, hd', r⟩, hu⟩ | ⟨a, c, hc, o, ho, hd'⟩
        · exact .inl ⟨a, m, ⟨o, es, ep, nI _ _ ho (fun vs q => by rw [hd'] at q; cases q), hd', r⟩, hu⟩
        · exact .inr ⟨a, c, hc, o, nI _ _ ho (fun vs q => by rw [hd'] at q; cases q), hd'⟩
      · cases v with
        | im i => exact q
        | list l =>
          obtain ⟨a, vs, e, ⟨o, ho, hc, n, hd'⟩, hr⟩ := q
          exact ⟨a, vs, e, ⟨o, nI _ _ ho (fun vs q => by rw [hd'] at q; cases q), hc, n, hd'⟩, hr⟩
        | own l =>
          obtain ⟨a, vs, n, e, ho, hr⟩ := q
          exact ⟨a, vs, n, e, nI _ _ ho (fun vs q => by cases q), hr⟩
        | meth id j => exact q
    · obtain ⟨q, a, o, h1, h2, h3, h4, h5, h6⟩ := X.meth i id j hm
      exact ⟨q, a, o, h1, h2, hs q o (fun z => by rw [z, hI] at h3; cases h3; exact hc h5) h3, h4, h5, h6⟩

/-- the block's own moving parts -/
noncomputable def cellsOf (C : Ctx) : List Addr := (C.ev.cells.filter fun p => C.ev.kindOf p.1 == some .cell && C.ev.cells.lookup p.1 == some p.2).map (·.2)
noncomputable def ownsOf (Γ : Gam) (Ws : Nat → Value) : List Addr := (List.range Γ.length).filterMap fun i => match Γ[i]?, Ws i with
  | some (some (V.own _)), Value.ref a => some a
  | _, _ => none
noncomputable def moving (C : Ctx) (Γ : Gam) (Ws : Nat → Value) : List Addr := C.ev.locals :: (cellsOf C ++ ownsOf Γ Ws)

theorem mem_cellsOf {c : Addr} (hm : c ∈ cellsOf C) : ∃ x, C.ev.kindOf x = some .cell ∧ C.ev.cells.lookup x = some c := by
  obtain ⟨p, hp, rfl⟩ := List.mem_map.mp hm
  have := (List.mem_filter.mp hp).2
  simp only [Bool.and_eq_true, beq_iff_eq] at this
  exact ⟨p.1, this⟩
theorem mem_lookup {α : Type} {x : Str} {c : α} : ∀ {l : List (Str × α)}, l.lookup x = some c → (x, c) ∈ l
  | [], h => by cases h
  | (y, q) :: l, h => by
    rw [List.lookup_cons] at h
    by_cases e : x = y
    · subst e; simp at h; subst h; exact .head _
    · have : (x == y) = false := by simpa using e
      rw [this] at h
      exact .tail _ (mem_lookup h)
theorem in_cellsOf {x : Str} {c : Addr} (hk : C.ev.kindOf x = some .cell) (hl : C.ev.cells.lookup x = some c) : c ∈ cellsOf C :=
  List.mem_map.mpr ⟨(x, c), List.mem_filter.mpr ⟨mem_lookup hl, by simp [hk, hl]⟩, rfl⟩
theorem mem_ownsOf {Ws : Nat → Value} {a : Addr} (hm : a ∈ ownsOf Γ Ws) : ∃ (i : Nat) (l : List I), Γ[i]? = some (some (.own l)) ∧ Ws i = .ref a := by
  obtain ⟨i, _, e⟩ := List.mem_filterMap.mp hm
  split at e
  · rename_i l b h1 h2
    cases e
    exact ⟨i, l, h1, h2⟩
  · cases e
theorem in_ownsOf {Ws : Nat → Value} {i : Nat} {l : List I} {a : Addr} (h1 : Γ[i]? = some (some (.own l))) (h2 : Ws i = .ref a) : a ∈ ownsOf Γ Ws :=
  List.mem_filterMap.mpr ⟨i, List.mem_range.mpr (List.getElem?_eq_some_iff.mp h1).1, by rw [h1, h2]⟩

theorem moving_k {Ws : Nat → Value} (S : St C k Γ h) (X : Vars C k Γ h Ws) {b : Addr} (hm : b ∈ moving C Γ Ws) : k.get? b = none := by
  rcases List.mem_cons.mp hm with e | hm
  · obtain ⟨m, _, a, _⟩ := S.loc
    rw [e]; exact a
  · rcases List.mem_append.mp hm with hm | hm
    · obtain ⟨x, h1, h2⟩ := mem_cellsOf hm
      obtain ⟨c, v, a, _, d, _⟩ := S.cells x h1
      rw [a] at h2; cases h2; exact d
    · obtain ⟨i, l, h1, h2⟩ := mem_ownsOf hm
      obtain ⟨a, h3, h4, _⟩ := X.own i l h1
      rw [h3] at h2; cases h2; exact h4

/-- all that stands, but the block's own moving parts, as a ghost -/
theorem ghost (S : St C k Γ h) : ∃ (Ws : Nat → Value) (k' : Heap), Vars C k Γ h Ws ∧ St C k' Γ h ∧ Ext C.fs k k' ∧ (∀ b o, h.get? b = some o → b ∉ moving C Γ Ws → k'.get? b = some o) := by
  obtain ⟨Ws, X⟩ := S.vars
  have back : ∀ b o, (hideAll h (moving C Γ Ws)).get? b = some o → h.get? b = some o := fun b o e => of_hideAll _ e
  have stay : ∀ b o, h.get? b = some o → b ∉ moving C Γ Ws → (hideAll h (moving C Γ Ws)).get? b = some o := fun b o e n => hideAll_get _ e n
  have kin : ∀ b o, k.get? b = some o → b ∉ moving C Γ Ws := fun b o e hm => by rw [moving_k S X hm] at e; cases e
  refine ⟨Ws, hideAll h (moving C Γ Ws), X, ⟨⟨fun b o e => stay b o (S.inv.base b o e) (kin b o (S.baseK b o e)), ⟨fun b o _ e => back b o e, fun b o e _ => ⟨o.slots, back b o e⟩⟩, S.frames, ?_, fun y hy => ?_⟩, ⟨Ws, X.reads, fun i l hi => ?_, X.meth⟩, S.len⟩, ⟨fun b o nb e => stay b o (S.ext.keep b o nb e) (kin b o e), fun b o e n => ?_⟩, stay⟩
  · obtain ⟨m, a, _, b⟩ := S.loc
    exact ⟨m, a, hideAll_none _ (.head _), b⟩
  · obtain ⟨c, v, a, b, d, e⟩ := S.cells y hy
    exact ⟨c, v, a, b, hideAll_none _ (.tail _ (List.mem_append_left _ (in_cellsOf hy a))), e⟩
  · obtain ⟨a, h1, h2, h3, h4⟩ := X.own i l hi
    exact ⟨a, h1, hideAll_none _ (.tail _ (List.mem_append_right _ (in_ownsOf hi h1))), h3, h4⟩
  · obtain ⟨sl, q⟩ := S.ext.slots b o e n
    exact ⟨sl, stay b _ q (kin b o e)⟩

/-- a value of the object kinds fields is no moving part -/
theorem fields_off {Ws : Nat → Value} (S : St C k Γ h) (X : Vars C k Γ h Ws) {b : Addr} {o : Obj} {vs : Array Value} (e : h.get? b = some o) (hd : o.data = .fields vs) : b ∉ moving C Γ Ws := fun hm => by
  rcases List.mem_cons.mp hm with z | hm
  · obtain ⟨m, ⟨o', es, ep, ho', hd', _⟩, _⟩ := S.loc
    rw [z, ho'] at e; cases e
    rw [hd] at hd'; cases hd'
  · rcases List.mem_append.mp hm with hm | hm
    · obtain ⟨x, h1, h2⟩ := mem_cellsOf hm
      obtain ⟨c, v, a, ⟨o', ho', hd'⟩, d, _⟩ := S.cells x h1
      rw [a] at h2; cases h2
      rw [ho'] at e; cases e
      rw [hd] at hd'; cases hd'
    · obtain ⟨i, l, h1, h2⟩ := mem_ownsOf hm
      have hi : i < C.names.length := by rw [← S.len]; exact (List.getElem?_eq_some_iff.mp h1).1
      obtain ⟨_, a, vs', n, ea, ho, _⟩ := X.reads i C.names[i] _ (by simp [hi]) h1
      rw [h2] at ea; cases ea
      rw [ho] at e; cases e; cases hd
end

theorem reads_same {ev : Env} {h : Heap} {x : Str} {w w' : Value} (r : Reads ev h x w) (r' : Reads ev h x w') : w = w' := by
  rcases r with ⟨a, m, ⟨o, es, ep, ho, hd, _, hf⟩, hm⟩ | ⟨a, c, hc, o, ho, hd⟩ <;> rcases r' with ⟨a', m', ⟨o', es', ep', ho', hd', _, hf'⟩, hm'⟩ | ⟨a', c', hc', o', ho', hd'⟩
  · rw [ho] at ho'; cases ho'
    rw [hd] at hd'; cases hd'
    have q := (hf x).symm.trans (hf' x)
    rw [hm, hm'] at q
    exact Option.some.inj q
  · rw [a] at a'; cases a'
  · rw [a] at a'; cases a'
  · rw [hc] at hc'; cases hc'
    rw [ho] at ho'; cases ho'
    rw [hd] at hd'; cases hd'
    rfl

/-- a walk over the items, as a for begins it -/
noncomputable def IE (C : Ctx) (Γ : Gam) (e : Expr) (items : List I) : Prop :=
  ∀ (k : Heap) (s : Shared) (Q : Value → Shared → Prop) (E : Value → Shared → Prop), St C k Γ s.heap →
    (∀ (J : Addr) (fp : List Addr) (T : Nat → Heap → Prop) h' tk, Ext C.fs s.heap h' → Walks C.prog C.w C.A J fp [J] items.length (fun i v => ∃ x, items[i]? = some x ∧ IRep x v) T → T 0 h' → s.heap.get? J = none →
      (∀ i h, T i h → ∃ o vs, h.get? J = some o ∧ o.data = .fields vs ∧ o.cls ≠ .type "builtin_function_or_method") →
      (∀ i h h₂, T i h → (∀ o, h.get? J = some o → h₂.get? J = some o) → (∀ b ∈ fp, b ≠ J → ∀ o, h.get? b = some o → ∃ sl, h₂.get? b = some { o with slots := sl }) → T i h₂) →
      (∀ b ∈ fp, b ≠ J → (∃ o its n, h'.get? b = some o ∧ o.data = .seq its n) ∧ ∀ Ws, Vars C k Γ s.heap Ws → ∀ (j : Nat) (l : List I), Γ[j]? = some (some (.own l)) → Ws j ≠ .ref b) →
      Q (.ref J) { s with heap := h', toks := tk }) →
    wpAny C.M C.A (eval e C.ev) (fun x s₁ => wpAny C.M C.A (pyIter x) Q E s₁) E s

/-- a turn's outcome -/
noncomputable def LoopOut (J : Gam → Prop) (P : Out → Prop) : Out → Prop
  | .next Γ => J Γ
  | .cont Γ => J Γ
  | .brk Γ => P (.next Γ)
  | o => P o

theorem BX1.for {C : Ctx} {Γ : Gam} {P : Out → Prop} {i : Nat} {x : Str} {px pos : Pos} {e : Expr} {body : List Stmt} {items : List I} {outer : List Env} (O : C.Ok) (hfs : C.fs = C.ev :: outer) (hfr : C.ev.frame = some C.ev.locals)
    (he : IE C Γ e items) (hx : C.names[i]? = some x) (hl : isLocal C x) (J : Nat → Gam → Prop) (h0 : J 0 Γ) (hm : ∀ n Γ', J n Γ' → noMeth Γ' i)
    (turn : ∀ n v Γ', items[n]? = some v → J n Γ' → BX C (Γ'.set i (some (.im v))) body (LoopOut (J (n + 1)) P))
    (done : ∀ Γ', J items.length Γ' → P (.next Γ')) (hs : ∀ x, foldedSetIterable e C.ev x = pure x) : BX1 C Γ (.For (.Name x px) e body [] pos) P := fun k s Q E S hP => by
  refine wpAny_For (he k s _ E S fun I fp T h₁ t₁ x₁ W T₀ hI hT hst hfp => ?_) hs
  have S₁ := S.ext' x₁
  obtain ⟨Ws₀, X₀⟩ := S.vars
  obtain ⟨Ws₁, k₁, X₁, Sk, xk, stay⟩ := ghost S₁
  have kLnone : k.get? C.ev.locals = none := let ⟨_, _, a, _⟩ := S.loc; a
  have kI : k.get? I = none := (gone S.ext S.frames hI).1
  -- the ghost of the loop: all that stood at its start, but the walk's own object
  let k₂ : Heap := hideAll k₁ [I]
  have k2back : ∀ b o, k₂.get? b = some o → k₁.get? b = some o := fun b o e => of_hideAll _ e
  have k2stay : ∀ b o, b ≠ I → k₁.get? b = some o → k₂.get? b = some o := fun b o n e => hideAll_get _ e (by simpa using n)
  have If : I ∉ fa C.fs := (gone S.ext S.frames hI).2
  have xk2 : Ext C.fs k k₂ := ⟨fun b o nb e => k2stay b o (fun z => by rw [z, kI] at e; cases e) (xk.keep b o nb e), fun b o e n => by
    obtain ⟨sl, q⟩ := xk.slots b o e n
    exact ⟨sl, k2stay b _ (fun z => by rw [z, kI] at e; cases e) q⟩⟩
  have k2L : k₂.get? C.ev.locals = none := by
    cases q : k₂.get? C.ev.locals with
    | none => rfl
    | some o =>
      have := k2back _ _ q
      obtain ⟨_, _, a, _⟩ := Sk.loc
      rw [a] at this; cases this
  have S₂ : St C k₂ Γ h₁ := by
    refine St.weaken ⟨fun b o _ e => k2back b o e, fun b o e _ => ⟨o.slots, k2back b o e⟩⟩ Sk (fun b o e => k2stay b o (fun z => ?_) (Sk.baseK b o e)) k2L
    have := S.baseK b o e
    rw [z, kI] at this; cases this
  have k2I : k₂.get? I = none := hideAll_none _ (.head _)
  -- what the walk looks at beside its own object stays
  have fpk : ∀ b ∈ fp, b ≠ I → ∃ o, k₂.get? b = some o ∧ ∀ vs, o.data ≠ .fields vs := fun b hb nb => by
    obtain ⟨⟨o, its, n, ho, hd⟩, hown⟩ := hfp b hb nb
    refine ⟨o, k2stay b o nb (stay b o ho fun hmv => ?_), fun vs q => by rw [hd] at q; cases q⟩
    rcases List.mem_cons.mp hmv with z | hmv
    · obtain ⟨m, ⟨o', es, ep, ho', hd', _⟩, _⟩ := S₁.loc
      rw [z, ho'] at ho; cases ho
      rw [hd] at hd'; cases hd'
    · rcases List.mem_append.mp hmv with hmv | hmv
      · obtain ⟨y, h1, h2⟩ := mem_cellsOf hmv
        obtain ⟨c, v, a, ⟨o', ho', hd'⟩, d, _⟩ := S₁.cells y h1
        rw [a] at h2; cases h2
        rw [ho'] at ho; cases ho
        rw [hd] at hd'; cases hd'
      · obtain ⟨j, l, h1, h2⟩ := mem_ownsOf hmv
        -- the own list's address is the same by its name
        have hj : j < C.names.length := by rw [← S.len]; exact (List.getElem?_eq_some_iff.mp h1).1
        obtain ⟨r1, _⟩ := X₁.reads j C.names[j] _ (by simp [hj]) h1
        obtain ⟨r0, _⟩ := X₀.reads j C.names[j] _ (by simp [hj]) h1
        have : Ws₁ j = Ws₀ j := reads_same r1 (r0.slots x₁.slots)
        exact hown Ws₀ X₀ j l h1 (this ▸ h2)
  refine codeAny_forLoop (R := fun r s' => match r with | .ok f => Q f s' | .error e => cameBackBy C.M C.A C.ev E e s')
    (fun n s' => ∃ m Γ' h' tk, n = items.length + 1 - m ∧ m ≤ items.length ∧ s' = { s with heap := h', toks := tk } ∧ J m Γ' ∧ St C k₂ Γ' h' ∧ T m h') ?_ (items.length + 1) ⟨0, Γ, h₁, t₁, rfl, Nat.zero_le _, rfl, h0, S₂, T₀⟩
  rintro n s' ⟨m, Γ', h', tk, rfl, hmle, rfl, hJ, S', hT'⟩
  obtain ⟨oI, wsI, hoI, hdI, hcI⟩ := hT m h' hT'
  by_cases hlt : m < items.length
  · refine W.item m _ _ _ hlt hT' fun v h₂ tk₂ hv hT₂ hk₂ => ?_
    obtain ⟨u, hu, hr⟩ := hv
    have S₃ : St C k₂ Γ' h₂ := S'.touch hoI hdI hcI k2I fun b o nb e => hk₂ b o (by simpa using nb) e
    refine wpAny_assign_Name ?_
    obtain ⟨Ws, X⟩ := S₃.vars
    refine store0 (s := ⟨h₂, s.gens, s.drawn, tk₂, s.os⟩) O S₃.toSt0 hl fun h₃ tk₃ S₄ rx ro st => ?_
    have hi : i < Γ'.length := by rw [S₃.len]; exact (List.getElem?_eq_some_iff.mp hx).1
    have S₅ : St C k₂ (Γ'.set i (some (.im u))) h₃ := ⟨S₄, ⟨_, vars_set O X hx (fun j hj => get_set_ne hj) (get_set_self' hi) (hm m Γ' hJ) rx ro st hr (fun q => by cases q) (fun l q => by cases q) (fun _ _ q => by cases q)⟩, by rw [List.length_set]; exact S₃.len⟩
    obtain ⟨Ws₆, k₃, X₆, S₆, x₆, stay₆⟩ := ghost S₅
    obtain ⟨oI2, wsI2, hoI2, hdI2, _⟩ := hT (m + 1) h₂ hT₂
    have two : ∀ (ha hb : Heap), k₂.UpToSlots ha → k₂.UpToSlots hb → ∀ b ∈ fp, b ≠ I → ∀ o, ha.get? b = some o → ∃ sl, hb.get? b = some { o with slots := sl } := fun ha hb ya yb b hb' nb o e => by
      obtain ⟨o', ho', hn'⟩ := fpk b hb' nb
      obtain ⟨s1, e1⟩ := ya b o' ho' hn'
      obtain ⟨s2, e2⟩ := yb b o' ho' hn'
      rw [e1] at e; cases e
      exact ⟨s2, e2⟩
    have hT₃ : T (m + 1) h₃ := hst _ _ _ hT₂ (fun o e => st I o (.inr ⟨_, by rw [hoI2] at e; cases e; exact hdI2⟩) e) (two _ _ S₃.ext.slots S₄.ext.slots)
    have x₂₃ : Ext C.fs k k₃ := xk2.trans x₆
    refine turn m u Γ' hu hJ k₃ ⟨h₃, s.gens, s.drawn, tk₃, s.os⟩ _ _ S₆ fun o ho => ?_
    -- a turn's end
    have back : ∀ Γ'' h₄ (tk₄ : Tok), J (m + 1) Γ'' → St C k₃ Γ'' h₄ → ∃ n', n' < items.length + 1 - m ∧ ∃ m' Γ'' h' tk, n' = items.length + 1 - m' ∧ m' ≤ items.length ∧ (⟨h₄, s.gens, s.drawn, tk₄, s.os⟩ : Shared) = { s with heap := h', toks := tk } ∧ J m' Γ'' ∧ St C k₂ Γ'' h' ∧ T m' h' := fun Γ'' h₄ tk₄ hJ' S₇ => by
      refine ⟨items.length + 1 - (m + 1), by lia, m + 1, Γ'', h₄, tk₄, rfl, hlt, rfl, hJ', St.weaken x₆ S₇ S₂.baseK k2L, hst _ _ _ hT₃ (fun o e => ?_) (two _ _ S₄.ext.slots (x₆.slots.trans S₇.ext.slots))⟩
      obtain ⟨oI3, wsI3, hoI3, hdI3, _⟩ := hT (m + 1) h₃ hT₃
      rw [hoI3] at e; cases e
      exact S₇.ext.keep I _ If (stay₆ I _ hoI3 (fields_off S₅ X₆ hoI3 hdI3))
    cases o with
    | next Γ'' => exact fun h₄ tk₄ S₇ => back Γ'' h₄ tk₄ ho S₇
    | cont Γ'' => exact fun h₄ tk₄ S₇ => back Γ'' h₄ tk₄ ho S₇
    | brk Γ'' => exact fun h₄ tk₄ S₇ => hP _ ho h₄ tk₄ (St.weaken x₂₃ S₇ S.baseK kLnone)
    | ret v fr =>
      intro w h₄ tk₄ x f r fr'
      refine hP _ ho w h₄ tk₄ (x₂₃.trans x) f r fun q => ⟨fun a e => ?_, (fr' q).2⟩
      obtain ⟨h1, h2⟩ := (fr' q).1 a e
      refine ⟨?_, h2⟩
      cases qq : k.get? a with
      | none => rfl
      | some o3 => rw [x₂₃.keep a o3 ((fr' q).2 a e) qq] at h1; cases h1
    | exc cls args => exact fun e' h₄ tk₄ x => exc_out (s := ⟨h₄, s.gens, s.drawn, tk₄, s.os⟩) O hfs hfr (x.weaken x₂₃) fun h₅ y => hP _ ho e' h₅ tk₄ y
  · have hme : m = items.length := by lia
    subst hme
    refine W.done _ _ _ hT' fun h₂ tk₂ hk₂ => wpAny_execs_nil ?_
    have S₃ : St C k₂ Γ' h₂ := S'.touch hoI hdI hcI k2I fun b o nb e => hk₂ b o (by simpa using nb) e
    exact hP _ (done Γ' hJ) h₂ tk₂ (St.weaken xk2 S₃ S.baseK kLnone)
end Mine
end
section
set_option maxRecDepth 100000
set_option linter.unusedVariables false
namespace Mine

theorem Walks.conv' {prog : Program} {w : World} {A : Around} {J : Addr} {fp wr : List Addr} {n n' : Nat} {P P' : Nat → Value → Prop} {T : Nat → Heap → Prop} (W : Walks prog w A J fp wr n P T) (e : n = n') (h : ∀ i v, P i v → P' i v) : Walks prog w A J fp wr n' P' T := by
  subst e
  exact ⟨W.sub, W.frame, fun i s Q E hi st hQ => W.item i s Q E hi st fun v h' tk p st' k => hQ v h' tk (h i v p) st' k, W.done, W.self⟩

noncomputable def byI (b : List UInt8) : List I := b.map fun c => .int c.toNat
noncomputable def ups (n : Nat) (c : Int) (d : Nat) : List I := (List.range n).map fun (i : Nat) => .int (c + (i : Int) * (d : Int))

section
variable {C : Ctx} {Γ : Gam}

/-- the call of a built-in by its name -/
theorem callB_any {x : Str} {px pos : Pos} {f : Value} {es : List Expr} {vs : List V} {s : Shared} {Q : Value → Shared → Prop} {E : Value → Shared → Prop} (O : C.Ok0) (hx : C.ev.kindOf x = some .globalImplicit) (hv : C.Glob x f) (hd : (x == ("__debug__" : Str)) = false)
    (hf : ∀ a, f ≠ .ref a) (hn : noStars es) (he : SEs C Γ es vs) (I : Inv C Γ s.heap)
    (h : ∀ ws h' tk, Ext C.fs s.heap h' → All2 (WRep h') vs ws → wpAny C.M C.A (call f ws []) Q E { s with heap := h', toks := tk }) : wpAny C.M C.A (eval (.Call (.Name x px) es [] pos) C.ev) Q E s := by
  show wpAny C.M C.A (eval (.Name x px) C.ev >>= fun f => callWith pos f [] (backTo pos (starEach es C.ev)) (backToKw pos (keywordEach [] C.ev))) Q E s
  refine wpAny_bind (SE.glob (Γ := Γ) O hx hv hd s _ E I fun w h₀ t₀ x₀ r₀ _ => ?_)
  obtain rfl : w = f := r₀
  refine callWith_ok (s := ⟨h₀, s.gens, s.drawn, t₀, s.os⟩) hn rfl rfl he SKs.nil (I.ext x₀) (fun h' hb => looks_machine hf) fun ws kw h₁ t₁ x₁ r₁ r₂ => ?_
  exact h ws h₁ t₁ (x₀.trans x₁) r₁

/-- a walk, and what it looks at besides its own object -/
noncomputable def IG (C : Ctx) (Γ : Gam) (e : Expr) (items : List I) (D : Heap → Heap → Addr → Prop) : Prop :=
  ∀ (s : Shared) (Q : Value → Shared → Prop) (E : Value → Shared → Prop), Inv C Γ s.heap →
    (∀ (J : Addr) (fp : List Addr) (T : Nat → Heap → Prop) h' tk, Ext C.fs s.heap h' → Walks C.prog C.w C.A J fp [J] items.length (fun i v => ∃ x, items[i]? = some x ∧ IRep x v) T → T 0 h' → s.heap.get? J = none →
      (∀ i h, T i h → ∃ o vs, h.get? J = some o ∧ o.data = .fields vs ∧ o.cls ≠ .type "builtin_function_or_method") →
      (∀ i h h₂, T i h → (∀ o, h.get? J = some o → h₂.get? J = some o) → (∀ b ∈ fp, b ≠ J → ∀ o, h.get? b = some o → ∃ sl, h₂.get? b = some { o with slots := sl }) → T i h₂) →
      (∀ b ∈ fp, b ≠ J → (∃ o its n, h'.get? b = some o ∧ o.data = .seq its n) ∧ D s.heap h' b) →
      Q (.ref J) { s with heap := h', toks := tk }) →
    wpAny C.M C.A (eval e C.ev) (fun x s₁ => wpAny C.M C.A (pyIter x) Q E s₁) E s

theorem iter_new {fs : List Env} {b0 h h₁ : Heap} (x : Ext fs h h₁) (hl : h₁.FunFrames b0 fs) : h.get? h₁.objs.size = none :=
  (gone x hl (Heap.get?_none_of_le (Nat.le_refl _))).1

theorem IG.bytes {e : Expr} {b : List UInt8} {f : Bool} (hh : C.A.handled = none) (he : SE C Γ e (vy b) f) : IG C Γ e (byI b) (fun _ _ _ => False) := fun s Q E S h => by
  refine he s _ E S fun w h₁ t₁ x₁ r _ => ?_
  obtain ⟨t, rfl⟩ := r
  refine KBw.pyIter_bytes ?_
  refine h h₁.objs.size [h₁.objs.size] _ _ t₁ (x₁.push _) (Walks.conv' (KBw.walks hh h₁.objs.size b.toArray t) (by simp [byI]) ?_) ⟨_, Heap.get?_push_size _ rfl, rfl, rfl⟩ (iter_new x₁ (S.ext x₁).frames) ?_ ?_ ?_
  · rintro i v ⟨c, u, hc, rfl⟩
    exact ⟨.int c.toNat, by simp at hc; simp [byI, hc], u, rfl⟩
  · rintro i h ⟨o, ho, hc, hd⟩
    exact ⟨o, _, ho, hd, by rw [hc]; simp⟩
  · rintro i h h₂ ⟨o, ho, hc, hd⟩ hJ _
    exact ⟨o, hJ o ho, hc, hd⟩
  · intro b hb nb
    exact absurd (List.mem_singleton.mp hb) nb

theorem list_stable {J a : Addr} {its : Array Value} {h h₂ : Heap} {i : Nat} (t : h.IsListIter J a i ∧ h.IsList a its) (hne : a ≠ J) (hJ : ∀ o, h.get? J = some o → h₂.get? J = some o)
    (hf : ∀ b ∈ [J, a], b ≠ J → ∀ o, h.get? b = some o → ∃ sl, h₂.get? b = some { o with slots := sl }) : h₂.IsListIter J a i ∧ h₂.IsList a its := by
  obtain ⟨⟨o, ho, hc, hd⟩, ⟨o', ho', hc', n, hd'⟩⟩ := t
  obtain ⟨sl, e⟩ := hf a (by simp) hne o' ho'
  exact ⟨⟨o, hJ o ho, hc, hd⟩, ⟨_, e, hc', n, hd'⟩⟩

theorem IG.list {e : Expr} {l : List I} {f : Bool} (hh : C.A.handled = none) (he : SE C Γ e (.list l) f) : IG C Γ e l (fun h h' a => f = true → h.get? a = none) := fun s Q E S h => by
  refine he s _ E S fun w h₁ t₁ x₁ r fr => ?_
  obtain ⟨a, vs, rfl, hl, hr⟩ := r
  have hne : a ≠ h₁.objs.size := let ⟨o, ho, _⟩ := hl; Nat.ne_of_lt (Heap.lt_size ho)
  refine wpAny_pyIter_list hl ?_
  refine h h₁.objs.size [h₁.objs.size, a] _ _ t₁ (x₁.push _) (Walks.conv' (Walks.list hh h₁.objs.size a hne vs.toArray) (by simpa using hr.length.symm) ?_) ⟨⟨_, Heap.get?_push_size _ rfl, rfl, rfl⟩, hl.push _⟩ (iter_new x₁ (S.ext x₁).frames) ?_ ?_ ?_
  · intro i v hv
    have hv' : vs[i]? = some v := by simpa using hv
    have hi : i < l.length := by rw [hr.length]; exact (List.getElem?_eq_some_iff.mp hv').1
    obtain ⟨w, hw, rr⟩ := hr.get (k := i) (a := l[i]) (by simp [hi])
    rw [hv'] at hw; cases hw
    exact ⟨l[i], by simp [hi], rr⟩
  · rintro i h ⟨⟨o, ho, hc, hd⟩, _⟩
    exact ⟨o, _, ho, hd, by rw [hc]; simp⟩
  · exact fun i h h₂ t hJ hf => list_stable t hne hJ hf
  · intro b hb nb
    rcases List.mem_cons.mp hb with e | hb
    · exact absurd e nb
    · obtain rfl := List.mem_singleton.mp hb
      obtain ⟨o, ho, hc, n, hd⟩ := hl
      exact ⟨⟨o, _, n, Heap.get?_push_of_some _ ho, hd⟩, fun q => (fr q b rfl).1⟩

theorem ups_get {n d : Nat} {c : Int} {i : Nat} (h : i < n) : (ups n c d)[i]? = some (.int (c + (i : Int) * (d : Int))) := by simp [ups, h]

theorem range_lt {prog : Program} {w : World} {A : Around} (hh : A.handled = none) (J : Addr) (a c : Int) (n : Nat) :
    Walks prog w A J [J] [J] n (fun i v => i < n ∧ ∃ t, v = .int (a + i * c) t) (fun i h => IsRangeIter h J (a + (i : Nat) * c) ((n : Int) - (i : Nat)) c) :=
  let W := Walks.range (prog := prog) (w := w) hh J a c n
  ⟨W.sub, W.frame, fun i s Q E hi st hQ => W.item i s Q E hi st fun v h' tk p st' k => hQ v h' tk ⟨hi, p⟩ st' k, W.done, W.self⟩

theorem IG.range_of {e : Expr} {a b : Int} {d : Nat} {n : Nat} (hh : C.A.handled = none) (hsm : Builtin.Range.small a b d = true) (hn : Builtin.Range.rangeSize a b d = n)
    (hc : ∀ (s : Shared) (Q : Value → Shared → Prop) (E : Value → Shared → Prop), Inv C Γ s.heap → (∀ r t u v h' tk, Ext C.fs s.heap h' → IsRange h' r a b d t u v → Q (.ref r) { s with heap := h', toks := tk }) → wpAny C.M C.A (eval e C.ev) Q E s) : IG C Γ e (ups n a d) (fun _ _ _ => False) := fun s Q E S h => by
  refine hc s _ E S fun r t u v h₁ t₁ x₁ hr => ?_
  refine wpAny_pyIter_range hr hsm ?_
  rw [hn]
  refine h h₁.objs.size [h₁.objs.size] _ _ t₁ (x₁.push _) (Walks.conv' (range_lt hh h₁.objs.size a d n) (by simp [ups]) ?_) ?_ (iter_new x₁ (S.ext x₁).frames) ?_ ?_ ?_
  · rintro i v ⟨hi, t', rfl⟩
    exact ⟨_, ups_get hi, t', rfl⟩
  · show IsRangeIter _ _ (a + ((0 : Nat) : Int) * d) ((n : Int) - (0 : Nat)) d
    rw [show (a + ((0 : Nat) : Int) * (d : Int)) = a by simp, show ((n : Int) - (0 : Nat)) = n by simp]
    exact Heap.get?_push_size _ rfl
  · rintro i h hi
    exact ⟨_, _, hi, rfl, by simp⟩
  · exact fun i h h₂ t hJ _ => hJ _ t
  · intro b hb nb
    exact absurd (List.mem_singleton.mp hb) nb


noncomputable def isStar : Expr → Bool
  | .Starred _ _ => true
  | _ => false
theorem star_cons {e : Expr} {es : List Expr} (h : isStar e = false) (ev : Env) : starEach (e :: es) ev = (false, eval e ev) :: starEach es ev := by
  cases e <;> first | rfl | cases h
theorem noStars_of : ∀ {es : List Expr}, es.all (fun e => !isStar e) = true → noStars es
  | [], _, _ => rfl
  | e :: es, h, ev => by
    simp only [List.all_cons, Bool.and_eq_true, Bool.not_eq_true'] at h
    rw [star_cons h.1, noStars_of h.2 ev]; rfl
theorem SEs.one {e : Expr} {v : V} {f : Bool} (he : SE C Γ e v f) (h : isStar e = false) : SEs C Γ [e] [v] := .cons he .nil (star_cons h)
theorem SEs.two {e e2 : Expr} {v v2 : V} {f f2 : Bool} (he : SE C Γ e v f) (h : isStar e = false) (he2 : SE C Γ e2 v2 f2) (h2 : isStar e2 = false) : SEs C Γ [e, e2] [v, v2] := .cons he (.one he2 h2) (star_cons h)
theorem SEs.three {e e2 e3 : Expr} {v v2 v3 : V} {f f2 f3 : Bool} (he : SE C Γ e v f) (h : isStar e = false) (he2 : SE C Γ e2 v2 f2) (h2 : isStar e2 = false) (he3 : SE C Γ e3 v3 f3) (h3 : isStar e3 = false) : SEs C Γ [e, e2, e3] [v, v2, v3] := .cons he (.two he2 h2 he3 h3) (star_cons h)

theorem small_of {a b d : Int} (ha : -(2 ^ 40) ≤ a) (ha' : a ≤ 2 ^ 40) (hb : -(2 ^ 40) ≤ b) (hb' : b ≤ 2 ^ 40) (hd : 0 < d) (hd' : d ≤ 2 ^ 40) : Builtin.Range.small a b d = true := by
  have hs : 0 ≤ Builtin.Range.rangeSize a b d ∧ Builtin.Range.rangeSize a b d ≤ 2 ^ 42 := by
    unfold Builtin.Range.rangeSize
    rw [if_pos hd]
    split
    · have h1 : 0 ≤ (b - a - 1) / d := Int.ediv_nonneg (by lia) (by lia)
      have h2 : (b - a - 1) / d ≤ b - a - 1 := Int.ediv_le_self _ (by lia)
      lia
    · lia
  unfold Builtin.Range.small
  rw [if_pos hd]
  simp only [Builtin.Range.rangeFitsLong, Bool.and_eq_true, Bool.or_eq_true, decide_eq_true_eq, beq_iff_eq]
  lia

theorem IG.range1 {px pos : Pos} {e : Expr} {n : Nat} {f : Bool} (O : C.Ok) (hx : C.ev.kindOf ("range" : Str) = some .globalImplicit) (hv : C.Glob ("range" : Str) (.type "range")) (hn : isStar e = false) (he : SE C Γ e (vi n) f) (hb : n ≤ 2 ^ 40) :
    IG C Γ (.Call (.Name ("range" : Str) px) [e] [] pos) (ups n 0 1) (fun _ _ _ => False) := by
  refine IG.range_of (d := 1) (b := (n : Int)) O.handled (small_of (by lia) (by lia) (by lia) (by lia) (by lia) (by lia)) (by rw [show ((1 : Nat) : Int) = 1 from rfl, rangeSize_one]; split <;> lia) fun s Q E S h => ?_
  refine callB_any O.toOk0 hx hv (by decide) (by intro a q; cases q) (noStars_of (by simp [hn])) (.one he hn) S fun ws h₁ t₁ x₁ r₁ => ?_
  cases r₁ with
  | cons a r =>
    cases r
    obtain ⟨t, rfl⟩ := a
    refine call_range_1 ?_
    exact h _ _ _ _ _ _ (x₁.push _) (IsRange.new ..)
theorem IG.range3 {px pos : Pos} {e1 e2 e3 : Expr} {a b : Int} {d n : Nat} {f1 f2 f3 : Bool} (O : C.Ok) (hx : C.ev.kindOf ("range" : Str) = some .globalImplicit) (hv : C.Glob ("range" : Str) (.type "range")) (hn : isStar e1 = false) (hn2 : isStar e2 = false) (hn3 : isStar e3 = false)
    (he : SE C Γ e1 (vi a) f1) (he2 : SE C Γ e2 (vi b) f2) (he3 : SE C Γ e3 (vi d) f3) (ha : -(2 ^ 40) ≤ a) (ha' : a ≤ 2 ^ 40) (hb : -(2 ^ 40) ≤ b) (hb' : b ≤ 2 ^ 40) (hd : 0 < d) (hd' : d ≤ 2 ^ 20) (hsz : Builtin.Range.rangeSize a b d = n) :
    IG C Γ (.Call (.Name ("range" : Str) px) [e1, e2, e3] [] pos) (ups n a d) (fun _ _ _ => False) := by
  refine IG.range_of (b := b) O.handled (small_of (by lia) (by lia) (by lia) (by lia) (by lia) (by lia)) hsz fun s Q E S h => ?_
  refine callB_any O.toOk0 hx hv (by decide) (by intro a q; cases q) (noStars_of (by simp [hn, hn2, hn3])) (.three he hn he2 hn2 he3 hn3) S fun ws h₁ t₁ x₁ r₁ => ?_
  cases r₁ with
  | cons a r =>
    cases r with
    | cons a2 r =>
      cases r with
      | cons a3 r =>
        cases r
        obtain ⟨t, rfl⟩ := a
        obtain ⟨t2, rfl⟩ := a2
        obtain ⟨t3, rfl⟩ := a3
        refine call_range_3 (by lia) ?_ (.inl (PyProof.noPylong_small (by lia)))
        exact h _ _ _ _ _ _ (x₁.push _) (IsRange.new ..)

theorem IE.of {e : Expr} {items : List I} {D : Heap → Heap → Addr → Prop} (h : IG C Γ e items D) (hd : ∀ (k h h' : Heap) (b : Addr), St C k Γ h → Ext C.fs h h' → (∃ o its n, h'.get? b = some o ∧ o.data = .seq its n) → D h h' b → ∀ Ws, Vars C k Γ h Ws → ∀ (j : Nat) (l : List I), Γ[j]? = some (some (.own l)) → Ws j ≠ .ref b) : IE C Γ e items := fun k s Q E S hQ =>
  h s Q E S.inv fun J fp T h' tk x W T0 hJ hT hst hfp => hQ J fp T h' tk x W T0 hJ hT hst fun b hb nb => ⟨(hfp b hb nb).1, hd k s.heap h' b S x (hfp b hb nb).1 (hfp b hb nb).2⟩
theorem IE.of_none {e : Expr} {items : List I} (h : IG C Γ e items (fun _ _ _ => False)) : IE C Γ e items := .of h fun _ _ _ _ _ _ _ q => q.elim
theorem IE.bytes {e : Expr} {b : List UInt8} {f : Bool} (O : C.Ok) (he : SE C Γ e (vy b) f) : IE C Γ e (byI b) := .of_none (.bytes O.handled he)
theorem IE.new {e : Expr} {l : List I} (O : C.Ok) (he : SE C Γ e (.list l) true) : IE C Γ e l := .of (.list O.handled he) fun k h h' b S x ho hn => by
  exact fun Ws X j l hl => not_held X S.len (hn rfl) j _ hl rfl
theorem IE.name {i : Nat} {x : Str} {pos : Pos} {l : List I} (O : C.Ok) (hx : C.names[i]? = some x) (hv : Γ[i]? = some (some (.list l))) (hd : (x == ("__debug__" : Str)) = false) : IE C Γ (.Name x pos) l := fun k s Q E S h => by
  obtain ⟨Ws, X⟩ := S.vars
  obtain ⟨r, q⟩ := X.reads i x _ hx hv
  obtain ⟨a, vs, ha, hl, hr⟩ := q
  have key : wpAny C.M C.A (pyIter (.ref a)) Q E s := by
    have hne : a ≠ s.heap.objs.size := let ⟨o, ho, _⟩ := hl; Nat.ne_of_lt (Heap.lt_size ho)
    refine wpAny_pyIter_list hl ?_
    refine h s.heap.objs.size [s.heap.objs.size, a] _ _ s.toks ((Ext.refl ..).push _) (Walks.conv' (Walks.list O.handled s.heap.objs.size a hne vs.toArray) (by simpa using hr.length.symm) ?_) ⟨⟨_, Heap.get?_push_size _ rfl, rfl, rfl⟩, hl.push _⟩ (Heap.get?_none_of_le (Nat.le_refl _)) ?_ ?_ ?_
    · intro i v hv
      have hv' : vs[i]? = some v := by simpa using hv
      have hi : i < l.length := by rw [hr.length]; exact (List.getElem?_eq_some_iff.mp hv').1
      obtain ⟨w, hw, rr⟩ := hr.get (k := i) (a := l[i]) (by simp [hi])
      rw [hv'] at hw; cases hw
      exact ⟨l[i], by simp [hi], rr⟩
    · rintro i h ⟨⟨o, ho, hc, hd⟩, _⟩
      exact ⟨o, _, ho, hd, by rw [hc]; simp⟩
    · exact fun i h h₂ t hJ hf => list_stable t hne hJ hf
    · intro b hb nb
      rcases List.mem_cons.mp hb with e | hb
      · exact absurd e nb
      · obtain rfl := List.mem_singleton.mp hb
        obtain ⟨o, ho, hc, n, hd⟩ := hl
        refine ⟨⟨o, _, n, Heap.get?_push_of_some _ ho, hd⟩, fun Ws' X' j l' hj z => ?_⟩
        · obtain ⟨b', hb', _, _, h4⟩ := X'.own j l' hj
          rw [z] at hb'; cases hb'
          have hji : i ≠ j := fun e => by
            subst e
            rw [hv] at hj; cases hj
          obtain ⟨r', _⟩ := X'.reads i x _ hx hv
          exact h4 i _ hji hv rfl ((reads_same r' r).trans ha)
  refine wpAny_Name ?_ hd
  rcases r with ⟨hk, m, hn, hm⟩ | ⟨hk, c, hc, hw⟩
  · refine wpAny_loadName_local O.kind hk hn hm ?_
    rw [ha]; exact key
  · refine wpAny_loadName_cell O.kind hk hc hw ?_
    rw [ha]; exact key

/-- a store that demotes: a new list that nobody changes -/
theorem BX1.assign_list {P : Out → Prop} {i : Nat} {x : Str} {px pos : Pos} {e : Expr} {l : List I} (O : C.Ok) (he : SE C Γ e (.list l) true) (hx : C.names[i]? = some x) (hl : isLocal C x) (hm : noMeth Γ i)
    (hs : swapsWith e (some (.Name x px)) pos.line C.ev = pure false) (h : P (.next (Γ.set i (some (.list l))))) : BX1 C Γ (.Assign [.Name x px] e pos) P := fun k s Q E S hP => by
  refine wpAny_Assign_Name (he s _ E S.inv fun w h' tk x' r f => ?_) hs
  have S' := S.ext' x'
  obtain ⟨Ws, X₀⟩ := S.vars
  have X := X₀.ext' x'
  refine store0 (s := ⟨h', s.gens, s.drawn, tk, s.os⟩) O S'.toSt0 hl fun h₂ tk₂ S₂ rx ro st => ?_
  have hi : i < Γ.length := by rw [S.len]; exact (List.getElem?_eq_some_iff.mp hx).1
  obtain ⟨a, vs, rfl, hlst, hr⟩ := id r
  obtain ⟨hn, its, n, hp⟩ := f rfl a rfl
  exact hP _ h h₂ tk₂ ⟨S₂, ⟨_, vars_set O X hx (fun j hj => get_set_ne hj) (get_set_self' hi) hm rx ro st r (fun _ j l' hj hl' => not_held X₀ S.len hn j _ hl' rfl)
    (fun l' q => by cases q) (fun _ _ q => by cases q)⟩, by rw [List.length_set]; exact S.len⟩
end
end Mine
end
section
set_option maxRecDepth 100000
set_option linter.unusedVariables false
namespace Mine

section
variable {C : Ctx} {Γ : Gam}

theorem SE.frim {e : Expr} {i : I} {f : Bool} (he : SE C Γ e (.im i) f) (hn : ∀ v, i ≠ .raw v) : SE C Γ e (.im i) true := fun s Q E S h =>
  he s Q E S fun w h' tk x r _ => h w h' tk x r fun _ => fresh_im r hn
theorem SE.old {e : Expr} {v : V} {f : Bool} (he : SE C Γ e v f) : SE C Γ e v false := fun s Q E S h =>
  he s Q E S fun w h' tk x r _ => h w h' tk x r fun q => by cases q

theorem SE.sub_bytes {value slice : Expr} {pos : Pos} {b : List UInt8} {i : Int} {f g : Bool} (hv : SE C Γ value (vy b) f) (hi : SE C Γ slice (vi i) g) (h0 : 0 ≤ i) (h1 : i < b.length) (hl : b.length ≤ 1099511627776)
    (hs : ∀ o k, subscripted slice false o k = operate [o, k] (getItem o k)) : SE C Γ (.Subscript value slice pos) (vi (b.getD i.toNat 0).toNat) true := fun s Q E S h => by
  refine Subscript_ (hv s _ E S fun w h₁ t₁ x₁ r₁ _ => ?_)
  obtain ⟨t, rfl⟩ := r₁
  refine hi ⟨h₁, s.gens, s.drawn, t₁, s.os⟩ _ E (S.ext x₁) fun w h₂ t₂ x₂ r₂ _ => ?_
  obtain ⟨u, rfl⟩ := r₂
  refine tail_any (typeIs_bytes _ _ _) FB.slot_bytes_getitem.lookup ?_ (hs _ _)
  refine getItem_bytes hl h0 h1 (h _ h₂ _ (x₁.trans x₂) ⟨_, rfl⟩ fun _ a e => by cases e)

theorem SE.sub_list {value slice : Expr} {pos : Pos} {l : List I} {i : Int} {x : I} {f g : Bool} (hv : SE C Γ value (.list l) f) (hi : SE C Γ slice (vi i) g) (h0 : 0 ≤ i) (h1 : i < 2 ^ 40) (hx : l[i.toNat]? = some x)
    (hs : ∀ o k, subscripted slice false o k = operate [o, k] (getItem o k)) : SE C Γ (.Subscript value slice pos) (.im x) false := fun s Q E S h => by
  refine Subscript_ (hv s _ E S fun w h₁ t₁ x₁ r₁ _ => ?_)
  refine hi ⟨h₁, s.gens, s.drawn, t₁, s.os⟩ _ E (S.ext x₁) fun w₂ h₂ t₂ x₂ r₂ _ => ?_
  obtain ⟨u, rfl⟩ := r₂
  obtain ⟨a, vs, rfl, hl, hr⟩ := VRep.ext (v := .list l) r₁ x₂
  obtain ⟨y, hy, ry⟩ := hr.get hx
  refine tail_any (Heap.IsList.typeIs (s := ⟨h₂, s.gens, s.drawn, t₂, s.os⟩) hl) slot_list_getitem.lookup ?_ (hs _ _)
  refine wpAny_getItem_list hl h0 (by lia) (x := y) (by simpa using hy) (h y h₂ t₂ (x₁.trans x₂) ry fun q => by cases q)

/-- a bound of a slice -/
inductive PE (C : Ctx) (Γ : Gam) : Option Expr → Option Int → Prop
  | none : PE C Γ none none
  | some {e i f} : SE C Γ e (vi i) f → PE C Γ (some e) (some i)

theorem PE.run {o : Option Expr} {p : Option Int} {s : Shared} {Q : Value → Shared → Prop} {E : Value → Shared → Prop} (hp : PE C Γ o p) (S : Inv C Γ s.heap)
    (h : ∀ w h' tk, Ext C.fs s.heap h' → IsPart w p → Q w { s with heap := h', toks := tk }) : wpAny C.M C.A (evalPart o C.ev) Q E s := by
  cases hp with
  | none => exact wpAny_pure (h .none s.heap s.toks (.refl ..) .none)
  | some he => exact he s Q E S fun w h' tk x r _ => let ⟨t, e⟩ := r; h w h' tk x (e ▸ .int _ _)

noncomputable def cut {α : Type} (l : List α) (lo hi : Option Int) : List α := (l.drop (lo.elim 0 (clipAt l.length))).take (hi.elim l.length (clipAt l.length) - lo.elim 0 (clipAt l.length))

theorem cut_len {α : Type} (l : List α) (lo hi : Option Int) : (cut l lo hi).length ≤ l.length := by
  unfold cut
  rw [List.length_take, List.length_drop]; lia

theorem SE.cut_list {value : Expr} {lower upper : Option Expr} {p pos : Pos} {l : List I} {lo hi : Option Int} {f : Bool} (hv : SE C Γ value (.list l) f) (hlo : PE C Γ lower lo) (hhi : PE C Γ upper hi) (hz : l.length ≤ 16777216) :
    SE C Γ (.Subscript value (.Slice lower upper none p) pos) (.list (cut l lo hi)) true := fun s Q E S h => by
  refine Subscript_ (hv s _ E S fun w h₁ t₁ x₁ r₁ _ => ?_)
  refine wpAny_Slice (hlo.run (s := ⟨h₁, s.gens, s.drawn, t₁, s.os⟩) (S.ext x₁) fun wl h₂ t₂ x₂ p₂ => hhi.run (s := ⟨h₂, s.gens, s.drawn, t₂, s.os⟩) ((S.ext x₁).ext x₂) fun wu h₃ t₃ x₃ p₃ => ?_)
  rw [evalPart_none]
  refine wpAny_pure ?_
  obtain ⟨a, vs, rfl, hl, hr⟩ := VRep.ext (v := .list l) r₁ (x₂.trans x₃)
  have hl' := hl.push { cls := .type "slice", data := .fields #[wl, wu, .none] }
  refine tail_any (Heap.IsList.typeIs (s := ⟨h₃.push { cls := .type "slice", data := .fields #[wl, wu, .none] }, s.gens, s.drawn, t₃, s.os⟩) hl') slot_list_getitem.lookup ?_ rfl
  have x₄ := ((x₁.trans x₂).trans x₃).push { cls := .type "slice", data := .fields #[wl, wu, .none] }
  refine wpAny_getItem_list_slice hl' (Heap.IsSliceOf.new ..) p₂ p₃ .none (by simp) ?_ (by rw [sizeLine_eq, List.size_toArray, ← hr.length]; exact hz)
  have e : slicePick vs.toArray lo hi none = (cut vs lo hi).toArray := by rw [slicePick_plain]; simp [cut]
  rw [e]
  refine h _ _ _ (x₄.push _) ⟨_, cut vs lo hi, rfl, ⟨_, Heap.get?_push_size _ rfl, rfl, 0, rfl⟩, ?_⟩ fun _ a e => ?_
  · unfold cut
    rw [hr.length]
    exact (hr.drop _).take _
  · cases e
    refine ⟨iter_new x₄ (S.ext x₄).frames, _, _, Heap.get?_push_size _ rfl⟩

theorem SE.cut_bytes {value : Expr} {lower upper : Option Expr} {p pos : Pos} {b : List UInt8} {lo hi : Option Int} {f : Bool} (hv : SE C Γ value (vy b) f) (hlo : PE C Γ lower lo) (hhi : PE C Γ upper hi) (hz : b.length ≤ 16777216) :
    SE C Γ (.Subscript value (.Slice lower upper none p) pos) (vy (cut b lo hi)) true := fun s Q E S h => by
  refine Subscript_ (hv s _ E S fun w h₁ t₁ x₁ r₁ _ => ?_)
  refine wpAny_Slice (hlo.run (s := ⟨h₁, s.gens, s.drawn, t₁, s.os⟩) (S.ext x₁) fun wl h₂ t₂ x₂ p₂ => hhi.run (s := ⟨h₂, s.gens, s.drawn, t₂, s.os⟩) ((S.ext x₁).ext x₂) fun wu h₃ t₃ x₃ p₃ => ?_)
  rw [evalPart_none]
  refine wpAny_pure ?_
  obtain ⟨t, rfl⟩ := r₁
  refine tail_any (typeIs_bytes _ _ _) FB.slot_bytes_getitem.lookup ?_ rfl
  have x₄ := ((x₁.trans x₂).trans x₃).push { cls := .type "slice", data := .fields #[wl, wu, .none] }
  refine getItem_meets (typeIs_bytes _ _ _) (by decide) FB.slot_bytes_getitem FB.entry_bytes_getitem (FB.args_bytes_getitem_2 _ _) (KBc.meets_slice2 b.toArray t _ p₂ p₃) ⟨Heap.IsSliceOf.new .., Nat.le_trans (KBc.size_picked_le ..) (by rw [sizeLine_eq]; simpa using hz), fun t' k => ?_⟩
  have e : KBy.picked b.toArray lo hi = (cut b lo hi).toArray := by rw [KBc.picked_eq]; simp [cut]
  rw [e]
  exact h _ _ k x₄ ⟨_, rfl⟩ fun _ a q => by cases q

/-- a list as it is written -/
theorem SE.listd {es : List Expr} {pos : Pos} {l : List I} (he : SEs C Γ es (l.map .im)) (hz : l.length ≤ 1000) : SE C Γ (.List es pos) (.list l) true := fun s Q E S h => by
  refine List_ (he pos s _ E S fun ws h₁ t₁ x₁ r₁ => ?_)
  have hr : All2 IRep l ws := by
    clear h hz he
    generalize e : l.map V.im = vs at r₁
    induction r₁ generalizing l with
    | nil => cases l with
      | nil => exact .nil
      | cons a l => cases e
    | cons a _ ih => cases l with
      | nil => cases e
      | cons b l =>
        simp at e
        obtain ⟨rfl, e⟩ := e
        exact .cons a (ih e)
  refine wpAny_newObj_type (h _ _ _ (x₁.push _) ⟨_, ws, rfl, ⟨_, Heap.get?_push_size _ rfl, rfl, 0, rfl⟩, hr⟩ fun _ a e => ?_) (by show ws.toArray.size ≤ sizeLine; rw [List.size_toArray, sizeLine_eq, ← hr.length]; lia)
  cases e
  exact ⟨iter_new x₁ (S.ext x₁).frames, _, _, Heap.get?_push_size _ rfl⟩

theorem op_add_lists {l m : List I} (hz : l.length + m.length ≤ 16777216) : OpOk C (binaryOp .Add) (.list l) (.list m) (.list (l ++ m)) := fun s Q E x y hb hf rx ry h => by
  obtain ⟨a, vs, rfl, hl, hr⟩ := rx
  obtain ⟨b, ws, rfl, hm, hr2⟩ := ry
  obtain ⟨⟨cls, dd, data, sl⟩, ho, hc, n, hd⟩ := id hl
  obtain ⟨⟨cls2, dd2, data2, sl2⟩, ho2, hc2, n2, hd2⟩ := id hm
  simp only at hc hd hc2 hd2
  subst hc hd hc2 hd2
  have e : vs.toArray ++ ws.toArray = (vs ++ ws).toArray := by simp
  refine concat_meets ⟨_, ho, rfl⟩ ⟨_, ho2, rfl⟩ noFill_list_add seq_list_add PySem.F.slot_list_add PySem.F.entry_list_add (PySem.F.args_list_add_2 _ _) (list_addW a b vs.toArray ws.toArray n n2 dd dd2 sl sl2 (by rw [sizeLine_eq, List.size_toArray, List.size_toArray, ← hr.length, ← hr2.length]; exact hz)) ⟨ho, ho2, ?_⟩
  rw [e]
  refine h _ _ s.toks (fun _ _ q => Heap.get?_push_of_some _ q) ⟨_, vs ++ ws, rfl, ⟨_, Heap.get?_push_size _ rfl, rfl, 0, rfl⟩, hr.append hr2⟩ fun a e => ?_
  cases e
  exact ⟨Heap.get?_none_of_le (Nat.le_refl _), _, _, Heap.get?_push_size _ rfl⟩

theorem op_add_bytes {b d : List UInt8} (hz : b.length + d.length ≤ 16777216) : OpOk C (binaryOp .Add) (vy b) (vy d) (vy (b ++ d)) := op_im (fun _ q => by cases q) fun s Q E x y rx ry h => by
  obtain ⟨t, rfl⟩ := rx; obtain ⟨u, rfl⟩ := ry
  refine PySem.W.KBy.add_bytes (by simpa using hz) fun t' k => h _ k ⟨t', by simp⟩
end
end Mine
end
section
set_option maxRecDepth 100000
set_option linter.unusedVariables false
namespace Mine

section
variable {C : Ctx} {Γ : Gam}

/-- what a built-in makes of such values -/
noncomputable def CallOk (C : Ctx) (f : Value) (vs : List V) (v : V) (fr : Bool) : Prop :=
  ∀ (s : Shared) (Q : Value → Shared → Prop) (E : Value → Shared → Prop) (ws : List Value), C.b0.StaysIn s.heap → s.heap.FunFrames C.b0 C.fs → All2 (WRep s.heap) vs ws →
    (∀ w h' tk, (∀ b o, s.heap.get? b = some o → h'.get? b = some o) → VRep h' v.weak w → (fr = true → Fresh s.heap h' w) → Q w { s with heap := h', toks := tk }) → wpAny C.M C.A (call f ws []) Q E s

theorem SE.callB {x : Str} {px pos : Pos} {f : Value} {es : List Expr} {vs : List V} {v : V} {fr : Bool} (O : C.Ok0) (hx : C.ev.kindOf x = some .globalImplicit) (hv : C.Glob x f) (hd : (x == ("__debug__" : Str)) = false)
    (hf : ∀ a, f ≠ .ref a) (hn : es.all (fun e => !isStar e) = true) (he : SEs C Γ es vs) (hc : CallOk C f vs v fr) : SE C Γ (.Call (.Name x px) es [] pos) v fr := fun s Q E S h => by
  refine callB_any O hx hv hd hf (noStars_of hn) he S fun ws h₁ t₁ x₁ r₁ => ?_
  have S₁ := S.ext x₁
  refine hc ⟨h₁, s.gens, s.drawn, t₁, s.os⟩ Q E ws S₁.base S₁.frames r₁ fun w h' tk k r f => ?_
  exact h w h' tk (x₁.trans (.of_keeps k)) r fun q => (f q).back' S₁.frames x₁

/-- one argument, a value that is no object -/
theorem co_im1 {f : Value} {a : V} {i : I} (hn : ∀ v, i ≠ .raw v)
    (h : ∀ (s : Shared) (Q : Value → Shared → Prop) (E : Value → Shared → Prop) (x : Value), WRep s.heap a x → (∀ w h' tk, (∀ b o, s.heap.get? b = some o → h'.get? b = some o) → IRep i w → Q w { s with heap := h', toks := tk }) → wpAny C.M C.A (call f [x] []) Q E s) : CallOk C f [a] (.im i) true := fun s Q E ws _ _ r hQ => by
  cases r with
  | cons a r =>
    cases r
    exact h s Q E _ a fun w h' tk k r => hQ w h' tk k r fun _ => fresh_im r hn
theorem co_im2 {f : Value} {a b : V} {i : I} (hn : ∀ v, i ≠ .raw v)
    (h : ∀ (s : Shared) (Q : Value → Shared → Prop) (E : Value → Shared → Prop) (x y : Value), WRep s.heap a x → WRep s.heap b y → (∀ w h' tk, (∀ b o, s.heap.get? b = some o → h'.get? b = some o) → IRep i w → Q w { s with heap := h', toks := tk }) → wpAny C.M C.A (call f [x, y] []) Q E s) : CallOk C f [a, b] (.im i) true := fun s Q E ws _ _ r hQ => by
  cases r with
  | cons a r =>
    cases r with
    | cons b r =>
      cases r
      exact h s Q E _ _ a b fun w h' tk k r => hQ w h' tk k r fun _ => fresh_im r hn

theorem co_len_bytes {b : List UInt8} (hz : b.length ≤ 1099511627776) : CallOk C (.builtin "len") [vy b] (vi b.length) true := co_im1 (fun _ q => by cases q) fun s Q E x r h => by
  obtain ⟨t, rfl⟩ := r
  exact len_bytes (by simpa using hz) (h _ s.heap _ (fun _ _ e => e) ⟨_, by simp; rfl⟩)
theorem co_len_list {l : List I} (hz : l.length ≤ 1099511627776) : CallOk C (.builtin "len") [.list l] (vi l.length) true := co_im1 (fun _ q => by cases q) fun s Q E x r h => by
  obtain ⟨a, vs, rfl, hl, hr⟩ := r
  have hz' := hr.length
  exact Calls.call_len_list hl (by simp; lia) (h _ s.heap _ (fun _ _ e => e) ⟨_, by simp [hr.length]; rfl⟩)
theorem co_min {a b : Int} (hh : C.A.handled = none) : CallOk C (.builtin "min") [vi a, vi b] (vi (if b < a then b else a)) true := co_im2 (fun _ q => by cases q) fun s Q E x y rx ry h => by
  obtain ⟨t, rfl⟩ := rx; obtain ⟨u, rfl⟩ := ry
  refine min_two_ints hh fun h' tk k => ?_
  by_cases q : b < a
  · rw [if_pos q] at h ⊢
    exact h _ h' tk k ⟨u, rfl⟩
  · rw [if_neg q] at h ⊢
    exact h _ h' tk k ⟨t, rfl⟩
theorem co_chr {i : Int} (h0 : 0 ≤ i) (h1 : i < 256) : CallOk C (.builtin "chr") [vi i] (.im (.str ⟨#[i.toNat]⟩)) true := co_im1 (fun _ q => by cases q) fun s Q E x r h => by
  obtain ⟨t, rfl⟩ := r
  exact P.chr_of_int (by simp; lia) (h _ s.heap _ (fun _ _ e => e) ⟨_, rfl⟩)

theorem ints_are {ns : List Int} {vs : List Value} (h : All2 IRep (ns.map .int) vs) : IntsAre vs ns := by
  induction ns generalizing vs with
  | nil => cases h; exact .nil
  | cons n ns ih => cases h with
    | cons a r =>
      obtain ⟨t, rfl⟩ := a
      exact .cons n t (ih r)

noncomputable def toB (ns : List Int) : List UInt8 := ns.map fun n => n.toNat.toUInt8
theorem co_bytes_list {ns : List Int} (hh : C.A.handled = none) (hr : ∀ n ∈ ns, 0 ≤ n ∧ n < 256) (hz : ns.length ≤ 16777216) : CallOk C (.type "bytes") [.list (ns.map .int)] (vy (toB ns)) true := co_im1 (fun _ q => by cases q) fun s Q E x r h => by
  obtain ⟨a, vs, rfl, hl, hv⟩ := r
  refine call_bytes_ints hl (ints_are hv) hr (by rw [sizeLine_eq, ← hv.length]; simpa using hz) hh fun h' t k hk => ?_
  exact h _ h' k hk ⟨t, rfl⟩

noncomputable def tyOf : I → String
  | .none => "NoneType"
  | .bool _ => "bool"
  | .int _ => "int"
  | .str _ => "str"
  | .bytes _ => "bytes"
  | .raw _ => "?"
theorem typeIs_I {s : Shared} {i : I} {w : Value} (r : IRep i w) (hn : ∀ v, i ≠ .raw v) : s.TypeIs w (tyOf i) := by
  cases i with
  | none => subst r; rfl
  | bool b => subst r; rfl
  | int i => obtain ⟨t, rfl⟩ := r; rfl
  | str i => obtain ⟨t, rfl⟩ := r; rfl
  | bytes i => obtain ⟨t, rfl⟩ := r; rfl
  | raw v => exact absurd rfl (hn v)
theorem tyNe (i : I) : (Value.type (tyOf i) == Value.type "builtin_function_or_method") = false := by
  cases i <;> simp only [tyOf] <;> decide
theorem co_type {i : I} (hn : ∀ v, i ≠ .raw v) : CallOk C (.type "type") [.im i] (.im (.raw (.type (tyOf i)))) true := fun s Q E ws _ _ r hQ => by
  cases r with
  | cons a r =>
    cases r
    refine call_type_of (typeIs_I (s := s) a hn) (tyNe i) ?_
    exact hQ _ s.heap s.toks (fun _ _ e => e) rfl fun _ a q => by cases q
end
end Mine
end
section
set_option maxRecDepth 100000
set_option linter.unusedVariables false
namespace Mine

section
variable {prog : Program} {w : World} {A : Around} {E : Value → Shared → Prop} {s : Shared}

theorem extend_bytes {R : Result → Shared → Prop} (hh : A.handled = none) (x : Array UInt8) (t : Tok) (S : Addr) (res : Value) (c₀ : Nat) (hS : s.heap.get? S = some { cls := .type "list", data := .seq #[] c₀ })
    (hR : ∀ h' tk acc' c', (∀ b o, b ≠ S → s.heap.get? b = some o → h'.get? b = some o) → h'.get? S = some { cls := .type "list", dict := none, data := .seq acc' c', slots := #[] } →
      ItemsOf (fun i v => ∃ c u, x[i]? = some c ∧ v = .int (c.toNat : Int) u) acc' x.size → R (.ok (.ret res)) { s with heap := h', toks := tk }) (hn : x.size ≤ sizeLine) :
    wpAny (model prog w) A.in1 (Builtin.List.listExtendWith (.ref S) (.bytes x t) res)
      (fun fin s' => match fin with | .done f => R (.ok f) s' | .again c' => c'.quiet = true ∧ codeAny (model prog w) A c' R s') (fun e s' => R (.error e) s') s := by
  have hSI : S ≠ s.heap.objs.size := Nat.ne_of_lt (Heap.lt_size hS)
  have hSf : S ∉ [s.heap.objs.size] := fun hm => hSI (List.mem_singleton.mp hm)
  unfold Builtin.List.listExtendWith
  refine wpAny_bind (wpAny_typeOf (T := "bytes") (v := .bytes x t) rfl ?_)
  have h1 : Builtin.List.listSameRef (.ref S) (.bytes x t) = false := rfl
  have h2 : (Value.type "bytes" == Value.type "list") = false := by decide
  have h3 : (Value.type "bytes" == Value.type "tuple") = false := by decide
  simp only [h1, h2, h3, Bool.or_false, Bool.false_eq_true, if_false]
  refine wpAny_bind (KBw.pyIter_bytes ?_)
  refine wpAny_bind (wpAny_holding ?_)
  unfold Builtin.List.listLengthHint
  refine wpAny_bind (wpAny_specialOf (T := "bytes") (v := .bytes x t) rfl FB.slot_bytes_len.lookup ?_)
  generalize hid : ("bytes.__len__" : String) = id0
  wp_delta
  rw [show splitId id0 = some ("bytes", "__len__") from by subst hid; decide +kernel]
  subst hid
  refine wpAny_bind (wpAny_isInstance (T := "bytes") (v := .bytes x t) (b := true) rfl (by rw [isSubtype_type]; kernel_rfl) ?_)
  show wpAny _ _ (typeOf (Value.bytes x t) >>= _) _ _ _
  refine wpAny_bind (wpAny_typeOf (T := "bytes") (v := .bytes x t) rfl ?_)
  refine wpAny_pure ?_
  rw [if_neg (by decide)]
  have W := (KBw.walks (prog := prog) (w := w) (A := A.in1) hh s.heap.objs.size x t).toS
  refine wpAny_pure ⟨plainId_quiet PySem.F.plain_extend_loop _, codeAny_extend_loopS W hn _ hSf _ x.size 0 _ _ _ rfl (Nat.zero_le _) ⟨_, Heap.get?_push_size _ rfl, rfl, rfl⟩ (Heap.get?_push_of_some _ hS) (ItemsOf.nil _) fun s' acc' c' hm hS' hacc => ?_⟩
  rw [Moved.eq_with hm]
  refine hR s'.heap s'.toks acc' c' (fun b ob hb e => hm.heap b ob (fun hmem => ?_) (Heap.get?_push_of_some _ e)) hS' hacc
  rcases List.mem_cons.mp hmem with e' | hmem
  · exact hb e'
  · exact absurd (Heap.lt_size e) (by rw [List.mem_singleton.mp hmem]; exact Nat.lt_irrefl _)

theorem list_init_bytes {R : Result → Shared → Prop} (hh : A.handled = none) (x : Array UInt8) (t : Tok) (S : Addr) (hS : s.heap.get? S = some { cls := .type "list", data := .seq #[] })
    (hR : ∀ h' tk acc' c', (∀ b o, b ≠ S → s.heap.get? b = some o → h'.get? b = some o) → h'.get? S = some { cls := .type "list", dict := none, data := .seq acc' c', slots := #[] } →
      ItemsOf (fun i v => ∃ c u, x[i]? = some c ∧ v = .int (c.toNat : Int) u) acc' x.size → R (.ok (.ret .none)) { s with heap := h', toks := tk }) (hn : x.size ≤ sizeLine) :
    wpAny (model prog w) A.in1 (Builtin.«list.__init__» ⟨[.ref S, .bytes x t], []⟩)
      (fun fin s' => match fin with | .done f => R (.ok f) s' | .again c' => c'.quiet = true ∧ codeAny (model prog w) A c' R s') (fun e s' => R (.error e) s') s := by
  show wpAny _ _ (do let old ← Builtin.List.listItems (.ref S); Builtin.List.listUpdate (.ref S) (fun _ => #[]); letGo old.toList.reverse; Builtin.List.listExtendWith (.ref S) (.bytes x t) .none) _ _ s
  refine wpAny_bind ?_
  unfold Builtin.List.listItems
  refine wpAny_bind (wpAny_seqItems hS rfl (wpAny_pure ?_))
  show wpAny _ _ (updateSeq S (fun _ => #[]) >>= fun _ => letGo (#[] : Array Value).toList.reverse >>= fun _ => Builtin.List.listExtendWith (.ref S) (.bytes x t) .none) _ _ s
  refine wpAny_bind (wpAny_updateSeq hS rfl ?_)
  have hS₂ := Heap.get?_update_self (Obj.mapSeq (fun _ => (#[] : Array Value))) hS rfl
  have oth : ∀ b o, b ≠ S → s.heap.get? b = some o → (s.heap.update S (Obj.mapSeq (fun _ => (#[] : Array Value)))).get? b = some o :=
    fun b o hb e => (Heap.get?_update_other _ _ (Ne.symm hb)).trans e
  refine wpAny_bind (wpAny_letGo ?_)
  refine extend_bytes (hn := hn) hh x t S .none _ hS₂ fun h' tk acc' c' hk hS' hacc => ?_
  exact hR h' tk acc' c' (fun b o hb e => hk b o hb (oth b o hb e)) hS' hacc

theorem call_list_bytes {Q : Value → Shared → Prop} (hh : A.handled = none) (x : Array UInt8) (t : Tok)
    (hQ : ∀ h' tk acc' c', (∀ b o, s.heap.get? b = some o → h'.get? b = some o) →
      h'.get? s.heap.objs.size = some { cls := .type "list", dict := none, data := .seq acc' c', slots := #[] } → ItemsOf (fun i v => ∃ c u, x[i]? = some c ∧ v = .int (c.toNat : Int) u) acc' x.size → Q (.ref s.heap.objs.size) { s with heap := h', toks := tk }) (hn : x.size ≤ sizeLine) :
    wpAny (model prog w) A (call (.type "list") [.bytes x t]) Q E s := by
  refine callType_codes (Q₁ := fun obj s₁ => obj = .ref s.heap.objs.size ∧ s₁ = { s with heap := s.heap.push { cls := .type "list", data := .seq #[] } }) PySem.F.called_list (PySem.F.typeCall_list_1 _) PySem.F.entry_list_init
    (code_list_new _ ⟨rfl, rfl⟩) fun obj s₁ h₁ => ?_
  obtain ⟨rfl, rfl⟩ := h₁
  have hS : (s.heap.push { cls := .type "list", data := .seq #[] }).get? s.heap.objs.size = some { cls := .type "list", data := .seq #[] } := Heap.get?_push_size _ rfl
  refine ⟨⟨_, hS, rfl⟩, PySem.F.args_list_init_2 _ _, list_init_bytes (A := A.in1) (hn := hn) hh x t _ hS fun h' tk acc' c' hk hS' hacc => ?_⟩
  exact ⟨rfl, hQ h' tk acc' c' (fun b o e => hk b o (Nat.ne_of_lt (Heap.lt_size e)) (Heap.get?_push_of_some _ e)) hS' hacc⟩
end

section
variable {C : Ctx} {Γ : Gam}
theorem all2_of_get {l : List I} {vs : List Value} (hlen : vs.length = l.length) (h : ∀ (j : Nat) (v : Value), vs[j]? = some v → ∃ i, l[j]? = some i ∧ IRep i v) : All2 IRep l vs := by
  induction l generalizing vs with
  | nil => cases vs with
    | nil => exact .nil
    | cons a r => simp at hlen
  | cons i l ih => cases vs with
    | nil => simp at hlen
    | cons a r =>
      obtain ⟨i', hi, ri⟩ := h 0 a rfl
      simp at hi; subst hi
      exact .cons ri (ih (by simpa using hlen) fun j v hv => by
        have := h (j + 1) v (by simpa using hv)
        simpa using this)

theorem co_list_bytes {b : List UInt8} (hh : C.A.handled = none) (hz : b.length ≤ 16777216) : CallOk C (.type "list") [vy b] (.list (byI b)) true := fun s Q E ws _ _ r hQ => by
  cases r with
  | cons a r =>
    cases r
    obtain ⟨t, rfl⟩ := a
    refine call_list_bytes hh b.toArray t (fun h' tk acc c hk hS hacc => ?_) (by rw [sizeLine_eq]; simpa using hz)
    refine hQ _ h' tk hk ⟨_, acc.toList, rfl, ⟨_, hS, rfl, c, by simp⟩, all2_of_get (by simp [byI, hacc.1]) fun j v hv => ?_⟩ fun _ a e => ?_
    · obtain ⟨x, u, hx, rfl⟩ := hacc.2 j v (by simpa using hv)
      exact ⟨.int x.toNat, by simp at hx; simp [byI, hx], u, rfl⟩
    · cases e
      exact ⟨Heap.get?_none_of_le (Nat.le_refl _), acc, c, hS⟩
end
end Mine
end
section
set_option maxRecDepth 100000
set_option linter.unusedVariables false
namespace Mine

section
variable {C : Ctx} {Γ : Gam}

theorem cmp_eq_bytes {b c : List UInt8} : OpOk C (compareOp .Eq) (vy b) (vy c) (vb (b == c)) := op_im (fun _ q => by cases q) fun s Q E x y rx ry h => by
  obtain ⟨t, rfl⟩ := rx; obtain ⟨u, rfl⟩ := ry
  exact eq_bytes (h _ s.toks rfl)
theorem cmp_ne_bytes {b c : List UInt8} : OpOk C (compareOp .NotEq) (vy b) (vy c) (vb (b != c)) := op_im (fun _ q => by cases q) fun s Q E x y rx ry h => by
  obtain ⟨t, rfl⟩ := rx; obtain ⟨u, rfl⟩ := ry
  exact ne_bytes (h _ s.toks rfl)
theorem cmp_ne_bool {b c : Bool} : OpOk C (compareOp .NotEq) (vb b) (vb c) (vb (b != c)) := op_im (fun _ q => by cases q) fun s Q E x y rx ry h => by
  obtain rfl : x = .bool b := rx
  obtain rfl : y = .bool c := ry
  refine SeqAt.RcNeAt.bool_bool b c C.prog C.w E Q ?_
  exact h _ s.toks rfl
theorem cmp_ne_str {b c : Str} : OpOk C (compareOp .NotEq) (vs' b) (vs' c) (vb (b != c)) := op_im (fun _ q => by cases q) fun s Q E x y rx ry h => by
  obtain ⟨t, rfl⟩ := rx; obtain ⟨u, rfl⟩ := ry
  refine SeqAt.RcNeAt.str_str b t c u C.prog C.w E Q ?_
  exact h _ s.toks rfl

noncomputable def isN : I → Bool
  | .none => true
  | _ => false
theorem cmp_is_none {i : I} (hn : ∀ v, i ≠ .raw v) : OpOk C (compareOp .Is) (.im i) (.im .none) (vb (isN i)) := op_im (fun _ q => by cases q) fun s Q E x y rx ry h => by
  obtain rfl : y = .none := ry
  refine is_none ?_
  have e : (x == Value.none) = isN i := by
    cases i with
    | none => obtain rfl := rx; rfl
    | bool b => obtain rfl := rx; rfl
    | int i => obtain ⟨t, rfl⟩ := rx; rfl
    | str i => obtain ⟨t, rfl⟩ := rx; rfl
    | bytes i => obtain ⟨t, rfl⟩ := rx; rfl
    | raw v => exact absurd rfl (hn v)
  rw [e]
  exact h _ s.toks rfl
theorem cmp_isnot_none {i : I} (hn : ∀ v, i ≠ .raw v) : OpOk C (compareOp .IsNot) (.im i) (.im .none) (vb (!isN i)) := op_im (fun _ q => by cases q) fun s Q E x y rx ry h => by
  obtain rfl : y = .none := ry
  refine isNot_none ?_
  have e : (!(x == Value.none)) = !isN i := by
    cases i with
    | none => obtain rfl := rx; rfl
    | bool b => obtain rfl := rx; rfl
    | int i => obtain ⟨t, rfl⟩ := rx; rfl
    | str i => obtain ⟨t, rfl⟩ := rx; rfl
    | bytes i => obtain ⟨t, rfl⟩ := rx; rfl
    | raw v => exact absurd rfl (hn v)
  rw [e]
  exact h _ s.toks rfl
theorem cmp_isnot_none_list {l : List I} : OpOk C (compareOp .IsNot) (.list l) (.im .none) (vb true) := op_im (fun _ q => by cases q) fun s Q E x y rx ry h => by
  obtain rfl : y = .none := ry
  obtain ⟨a, vs, rfl, _⟩ := rx
  exact isNot_none (h _ s.toks rfl)
theorem cmp_is_none_list {l : List I} : OpOk C (compareOp .Is) (.list l) (.im .none) (vb false) := op_im (fun _ q => by cases q) fun s Q E x y rx ry h => by
  obtain rfl : y = .none := ry
  obtain ⟨a, vs, rfl, _⟩ := rx
  exact is_none (h _ s.toks rfl)
theorem cmp_is_type {a b : String} (hs : isSame (.type a) (.type b) = pure (a == b)) : OpOk C (compareOp .Is) (.im (.raw (.type a))) (.im (.raw (.type b))) (vb (a == b)) := op_im (fun _ q => by cases q) fun s Q E x y rx ry h => by
  obtain rfl : x = _ := rx
  obtain rfl : y = _ := ry
  show wpAny _ _ (do return Value.bool (← isSame (.type a) (.type b))) _ _ s
  rw [hs]
  exact wpAny_bind (wpAny_pure (wpAny_pure (h _ s.toks rfl)))
theorem cmp_isnot_type {a b : String} (hs : isSame (.type a) (.type b) = pure (a == b)) : OpOk C (compareOp .IsNot) (.im (.raw (.type a))) (.im (.raw (.type b))) (vb (!(a == b))) := op_im (fun _ q => by cases q) fun s Q E x y rx ry h => by
  obtain rfl : x = _ := rx
  obtain rfl : y = _ := ry
  show wpAny _ _ (do return Value.bool (!(← isSame (.type a) (.type b)))) _ _ s
  rw [hs]
  exact wpAny_bind (wpAny_pure (wpAny_pure (h _ s.toks rfl)))
theorem cmp_is_ref {a : Addr} : OpOk C (compareOp .Is) (.im (.raw (.ref a))) (.im (.raw (.ref a))) (vb true) := op_im (fun _ q => by cases q) fun s Q E x y rx ry h => by
  obtain rfl : x = _ := rx
  obtain rfl : y = _ := ry
  show wpAny _ _ (do return Value.bool (← isSame (.ref a) (.ref a))) _ _ s
  have e : isSame (.ref a) (.ref a) = pure true := by
    show (if (a == a) = true then pure true else _) = _
    rw [if_pos (beq_self_eq_true a)]
  rw [e]
  exact wpAny_bind (wpAny_pure (wpAny_pure (h _ s.toks rfl)))

theorem cmp_eq_ints {ns ms : List Int} (hu : C.A.units + 64 < cLine) : OpOk C (compareOp .Eq) (.list (ns.map .int)) (.list (ms.map .int)) (vb (decide (ns = ms))) := op_im (fun _ q => by cases q) fun s Q E x y rx ry h => by
  obtain ⟨a, vs, rfl, hl, hr⟩ := rx
  obtain ⟨b, ws, rfl, hm, hs⟩ := ry
  exact ke_eq_ints hl hm (ints_are hr) (ints_are hs) hu (h _ s.toks rfl)
theorem cmp_in_ints {k : Int} {ns : List Int} : OpOk C (compareOp .In) (vi k) (.list (ns.map .int)) (vb (ns.any (· == k))) := op_im (fun _ q => by cases q) fun s Q E x y rx ry h => by
  obtain ⟨t, rfl⟩ := rx
  obtain ⟨a, vs, rfl, hl, hr⟩ := ry
  exact in_list_ints hl (ints_are hr) (h _ s.toks rfl)
theorem cmp_notin_ints {k : Int} {ns : List Int} : OpOk C (compareOp .NotIn) (vi k) (.list (ns.map .int)) (vb (!(ns.any (· == k)))) := op_im (fun _ q => by cases q) fun s Q E x y rx ry h => by
  obtain ⟨t, rfl⟩ := rx
  obtain ⟨a, vs, rfl, hl, hr⟩ := ry
  exact notin_list_ints hl (ints_are hr) (h _ s.toks rfl)

theorem rc_bytes {A : Around} {s : Shared} (a b : List UInt8) (t u : Tok) : SeqAt.RcAt A s (.bytes a.toArray t) (.bytes b.toArray u) (a == b) := fun prog w E Q h =>
  richCompare_gives (typeIs_bytes s _ t) (typeIs_bytes s _ u) FB.slot_bytes_eq FB.entry_bytes_eq (FB.args_bytes_eq_2 _ _) (gives_bytes_eq _ _ t u) (fun e => nomatch e) h
theorem eqat_bytes {A : Around} {s : Shared} (a b : List UInt8) (t u : Tok) : SeqAt.EqAt A s (.bytes a.toArray t) (.bytes b.toArray u) (a == b) := fun prog w E Q h => by
  unfold eqBool
  refine wpAny_holding ?_
  refine wpAny_ite_split (fun hab => ?_) (fun _ => ?_)
  · have e : a = b := by
      have := eq_of_beq hab
      injection this with h1 h2
      simpa using h1
    subst e
    exact wpAny_bind (wpAny_rule (wpAny_pure (by simpa using h)))
  · exact wpAny_bind (rc_bytes a b t u prog w E _ (wpAny_truthy_bool h))

theorem cmp_ne_bytesl {xs ys : List (List UInt8)} (hu : C.A.units < cLine) : OpOk C (compareOp .NotEq) (.list (xs.map .bytes)) (.list (ys.map .bytes)) (vb (!decide (xs = ys))) := op_im (fun _ q => by cases q) fun s Q E x y rx ry h => by
  obtain ⟨a, vs, rfl, hl, hr⟩ := rx
  obtain ⟨b, ws, rfl, hm, hs⟩ := ry
  have l1 := hr.length
  have l2 := hs.length
  rw [List.length_map] at l1 l2
  by_cases e : xs.length = ys.length
  · refine SeqAt.RcNeAt.lists (e := fun j => xs.getD j [] == ys.getD j []) hl hm (by simp; lia) hu (fun j h1 h2 => ?_) C.prog C.w E Q ?_
    · have j1 : j < xs.length := by simp at h1; lia
      have j2 : j < ys.length := by simp at h2; lia
      obtain ⟨v, hv, t, ev⟩ := hr.get (k := j) (a := .bytes xs[j]) (by simp [j1])
      obtain ⟨v', hv', t', ev'⟩ := hs.get (k := j) (a := .bytes ys[j]) (by simp [j2])
      have g1 : vs.toArray[j] = v := by
        have := List.getElem?_eq_some_iff.mp hv
        obtain ⟨_, q⟩ := this
        simpa using q
      have g2 : ws.toArray[j] = v' := by
        have := List.getElem?_eq_some_iff.mp hv'
        obtain ⟨_, q⟩ := this
        simpa using q
      rw [g1, g2, ev, ev']
      have := eqat_bytes (A := C.A.in1) (s := s) xs[j] ys[j] t t'
      simpa [j1, j2] using this
    · have q : (!(List.range vs.toArray.size).all fun j => xs.getD j [] == ys.getD j []) = !decide (xs = ys) := by
        congr 1
        rw [Bool.eq_iff_iff]
        simp only [List.all_eq_true, List.mem_range, decide_eq_true_eq, List.size_toArray, beq_iff_eq]
        constructor
        · intro g
          apply List.ext_getElem e
          intro i h1 h2
          have := g i (by lia)
          simpa [h1, h2] using this
        · intro g i _; rw [g]
      rw [q]
      exact h _ s.toks rfl
  · refine SeqAt.RcNeAt.lists_lengths hl hm (by simp; lia) hu C.prog C.w E Q ?_
    have : (!decide (xs = ys)) = true := by
      simp only [Bool.not_eq_true', decide_eq_false_iff_not]
      intro q; exact e (by rw [q])
    rw [← this]
    exact h _ s.toks rfl


theorem sub_ty {a b : String} {r : Bool} (h : isSubtype (.type a) (.type b) = pure r) : isSubtype (.type a) (.type b) = pure r := h

theorem co_isinst_bytes {i : I} (hn : ∀ v, i ≠ .raw v) (hi : ∀ k, i ≠ .int k) : CallOk C (.builtin "isinstance") [.im i, .im (.raw (.type "bytes"))] (vb (match i with | .bytes _ => true | _ => false)) true := co_im2 (fun _ q => by cases q) fun s Q E x y rx ry h => by
  obtain rfl : y = _ := ry
  cases i with
  | none => obtain rfl := rx; exact call_isinstance (isinstance_false_none (by decide) PySem.F.isi_meta_bytes (by rw [isSubtype_type]; kernel_rfl)) (h (.bool false) s.heap _ (fun _ _ e => e) rfl)
  | bool b => obtain rfl := rx; exact call_isinstance (isinstance_false_bool (by decide) PySem.F.isi_meta_bytes (by rw [isSubtype_type]; kernel_rfl)) (h (.bool false) s.heap _ (fun _ _ e => e) rfl)
  | str x => obtain ⟨t, rfl⟩ := rx; exact call_isinstance (isinstance_false_str (by decide) PySem.F.isi_meta_bytes (by rw [isSubtype_type]; kernel_rfl)) (h (.bool false) s.heap _ (fun _ _ e => e) rfl)
  | int i => exact absurd rfl (hi i)
  | bytes b => obtain ⟨t, rfl⟩ := rx; exact call_isinstance (isinstance_true (Tx := "bytes") PySem.F.isi_meta_bytes (by rw [isSubtype_type]; kernel_rfl)) ⟨rfl, h (.bool true) s.heap _ (fun _ _ e => e) rfl⟩
  | raw v => exact absurd rfl (hn v)

theorem isinstance_false_bytes {n : Array UInt8} {u : Tok} {T : String} (hne : (Value.type "bytes" == Value.type T) = false) (hty : typeOf (.type T) = pure (.type "type")) (hsub : isSubtype (.type "bytes") (.type T) = pure false) :
    Meets (Builtin.«isinstance» ⟨[.bytes n u, .type T], []⟩) (fun _ R s => R (.ok (.ret (.bool false))) { s with toks := s.toks + 1 }) :=
  fun _ _ _ _ s hs => by
    obtain ⟨h, g, d, t, os⟩ := s
    exact isinstance_outer (isinstance_nested_false_bytes hne hty hsub hs)

theorem co_isinst_str {b : List UInt8} : CallOk C (.builtin "isinstance") [vy b, .im (.raw (.type "str"))] (vb false) true := co_im2 (fun _ q => by cases q) fun s Q E x y rx ry h => by
  obtain rfl : y = _ := ry
  obtain ⟨t, rfl⟩ := rx
  exact call_isinstance (isinstance_false_bytes (by decide) PySem.F.isi_meta_str (by rw [isSubtype_type]; kernel_rfl)) (h (.bool false) s.heap _ (fun _ _ e => e) rfl)

theorem co_isinst_tup {b : List UInt8} {a : Addr} (ht : C.b0.get? a = some { cls := .type "tuple", data := .seq #[.type "bytes", .type "bytearray"] }) : CallOk C (.builtin "isinstance") [vy b, .im (.raw (.ref a))] (vb true) true := fun s Q E ws hb _ r h => by
  cases r with
  | cons rx r =>
    cases r with
    | cons ry r =>
      cases r
      obtain rfl : _ = _ := ry
      obtain ⟨t, rfl⟩ := rx
      refine call_isinstance (isinstance_tuple (Tx := "bytes") (cs := [.type "bytes", .type "bytearray"]) (vs := [true, false]) ⟨?_, ?_, trivial⟩) ⟨rfl, hb _ _ ht, fun tk => h (.bool true) s.heap tk (fun _ _ e => e) rfl fun _ a q => by cases q⟩
      · intro dep tk prog w A R s h
        exact isinstance_nested_true rfl h.1 PySem.F.isi_meta_bytes (by rw [isSubtype_type]; kernel_rfl) (h.2 s.toks)
      · intro dep tk prog w A R s h
        obtain ⟨hp, g, d, t', os⟩ := s
        exact isinstance_nested_false_bytes (by decide) PySem.F.isi_meta_bytearray (by rw [isSubtype_type]; kernel_rfl) (h.2 (t' + 1))

/-- an int among the octets -/
theorem gives_in_bytes (b : List UInt8) (k : Int) (t u : Tok) (h0 : 0 ≤ k) (h1 : k < 256) : Gives (Builtin.«bytes.__contains__» ⟨[.bytes b.toArray t, .int k u], []⟩) (.val (.bool (b.contains k.toNat.toUInt8))) := by
  refine .of_wp fun M A E s Q hq => ?_
  show wpAny M A (Builtin.Bytes.containsIn "bytes.__contains__" (.bytes b.toArray t) (.int k u) >>= fun r => _) _ E s
  refine wpAny_bind ?_
  unfold Builtin.Bytes.containsIn
  refine wpAny_bind (wpAny_attempt (wpAny_of_eq (a := k) rfl ?_))
  refine wpAny_bind (wpAny_of_eq KBy.buffer_eq ?_)
  dsimp only
  have hk : (decide (k < 0) || decide (k ≥ 256)) = false := by simp; lia
  rw [if_neg (by rw [hk]; exact Bool.false_ne_true)]
  have e : b.toArray.contains k.toNat.toUInt8 = b.contains k.toNat.toUInt8 := by simp
  rw [e]
  first
    | exact wpAny_pure (wpAny_pure ⟨_, rfl, hq⟩)
    | exact wpAny_bind (wpAny_pure (wpAny_pure ⟨_, rfl, hq⟩))

theorem cmp_in_bytes {k : Int} {b : List UInt8} (h0 : 0 ≤ k) (h1 : k < 256) : OpOk C (compareOp .In) (vi k) (vy b) (vb (b.contains k.toNat.toUInt8)) := op_im (fun _ q => by cases q) fun s Q E x y rx ry h => by
  obtain ⟨t, rfl⟩ := rx; obtain ⟨u, rfl⟩ := ry
  exact in_gives (typeIs_bytes s _ u) FB.slot_bytes_contains FB.entry_bytes_contains (FB.args_bytes_contains_2 _ _) (gives_in_bytes b k u t h0 h1) (h _ s.toks rfl)
theorem cmp_notin_bytes {k : Int} {b : List UInt8} (h0 : 0 ≤ k) (h1 : k < 256) : OpOk C (compareOp .NotIn) (vi k) (vy b) (vb (!b.contains k.toNat.toUInt8)) := op_im (fun _ q => by cases q) fun s Q E x y rx ry h => by
  obtain ⟨t, rfl⟩ := rx; obtain ⟨u, rfl⟩ := ry
  exact notIn_gives (typeIs_bytes s _ u) FB.slot_bytes_contains FB.entry_bytes_contains (FB.args_bytes_contains_2 _ _) (gives_in_bytes b k u t h0 h1) (h _ s.toks rfl)

theorem op_add_str {x y : Str} (hz : x.length + y.length ≤ 16777216) : OpOk C (binaryOp .Add) (vs' x) (vs' y) (vs' (x ++ y)) := op_im (fun _ q => by cases q) fun s Q E a b rx ry h => by
  obtain ⟨t, rfl⟩ := rx; obtain ⟨u, rfl⟩ := ry
  exact add_str (fun t' tk => h _ tk ⟨t', rfl⟩) (by rw [sizeLine_eq]; exact hz)

theorem op_mul_list {l : List I} {n : Int} (h0 : 0 ≤ n) (h1 : n ≤ 1000) (hz : l.length ≤ 1000) : OpOk C (binaryOp .Mult) (.list l) (vi n) (.list (List.replicate n.toNat l).flatten) := fun s Q E a b hb hf rx ry h => by
  obtain ⟨l', vs, rfl, hl, hr⟩ := rx
  obtain ⟨u, rfl⟩ := ry
  obtain ⟨⟨cls, d, data, sl⟩, ho, hcl, k, hd⟩ := id hl
  simp only at hcl hd
  subst hcl hd
  have hsz' : vs.toArray.size * n.toNat ≤ 2 ^ 24 := by
    rw [List.size_toArray, ← hr.length]
    have : l.length * n.toNat ≤ 1000 * 1000 := Nat.mul_le_mul hz (by lia)
    lia
  refine wpAny_binaryOp_repeat_ref (T := "list") (U := "int") (by decide) ⟨_, ho, rfl⟩ (fun s' => typeIs_int s' n u) noFill_list_mul PySem.F.fills_int_mul PySem.F.slot_int_rmul repeat_list PySem.F.slot_int_index.lookup
    (call_meets PySem.F.slot_int_rmul (typeIs_int s n u) PySem.F.entry_int_rmul (PySem.F.args_int_rmul_2 _ _) (lm_int_rmul_list_any n u l' vs.toArray k d sl)
      ⟨ho, rfl, ⟨_, ho, rfl⟩, call_meets PySem.F.slot_list_mul ⟨_, ho, rfl⟩ PySem.F.entry_list_mul (PySem.F.args_list_mul_2 _ _)
        (lm_list_mul_any l' vs.toArray k d sl n u (by simp [Builtin.List.listFitsIndex]; omega) (by omega) (by simp [Builtin.List.listTooLong, sizeLine]; omega))
        ⟨ho, ?_⟩⟩)
  rw [listMul_foldl_if]
  have rep : ∀ m, All2 IRep (List.replicate m l).flatten (List.replicate m vs).flatten := fun m => by
    induction m with
    | zero => exact .nil
    | succ m ih => rw [List.replicate_succ, List.replicate_succ, List.flatten_cons, List.flatten_cons]; exact hr.append ih
  refine h _ _ s.toks (fun _ _ q => Heap.get?_push_of_some _ q) ⟨_, (List.replicate n.toNat vs).flatten, rfl, ⟨_, Heap.get?_push_size _ rfl, rfl, 0, rfl⟩, rep _⟩ fun a e => ?_
  cases e
  exact ⟨Heap.get?_none_of_le (Nat.le_refl _), _, _, Heap.get?_push_size _ rfl⟩

theorem op_mul_bytes {b : List UInt8} {n : Int} (hb : b ≠ []) (hs : b.length ≤ 16) (h0 : 0 ≤ n) (h1 : n ≤ 1000) : OpOk C (binaryOp .Mult) (vy b) (vi n) (vy (List.replicate n.toNat b).flatten) := op_im (fun _ q => by cases q) fun s Q E x y rx ry h => by
  obtain ⟨t, rfl⟩ := rx; obtain ⟨u, rfl⟩ := ry
  exact bytes_mul_any hb (by lia) (by lia) hs fun t' k => h _ k ⟨t', rfl⟩
end
end Mine
end
section
set_option maxRecDepth 100000
set_option linter.unusedVariables false
namespace Mine
namespace B
theorem slot_md_get : Slot "method_descriptor" "__get__" "method_descriptor.__get__" :=
  .of (owner := "method_descriptor") (n := "__get__") (by rw [typeLookup_type, builtinLookup_eq_fast]; kernel_rfl) (by decide +kernel) (by decide +kernel) (by decide +kernel)
    (by first | exact .inl (by decide +kernel) | exact .inr (by decide +kernel)) (by rw [isSubtype_type]; kernel_rfl)
theorem md_no_set : typeLookup (.type "method_descriptor") "__set__" = pure none := by rw [typeLookup_type, builtinLookup_eq_fast]; kernel_rfl
theorem md_no_del : typeLookup (.type "method_descriptor") "__delete__" = pure none := by rw [typeLookup_type, builtinLookup_eq_fast]; kernel_rfl
theorem entry_md_get : entryFor table "method_descriptor.__get__" = some Builtin.«method_descriptor.__get__» := entryFor_of_tree (by kernel_rfl)
theorem args_md_get (a b c : Value) : argsOk "method_descriptor.__get__" ⟨[a, b, c], []⟩ := by unfold argsOk; kernel_rfl
theorem own_append : (kfb_private% "ownerAndName") "list.append" = ("list", "append") := by first | decide +kernel | kernel_rfl
theorem own_clear : (kfb_private% "ownerAndName") "list.clear" = ("list", "clear") := by first | decide +kernel | kernel_rfl
end B
noncomputable def boundM (id : String) (v : Value) : Obj := { cls := .type "builtin_function_or_method", data := .fields #[.builtin id, v] }
section
variable {prog : Program} {w : World} {A : Around} {E : Value → Shared → Prop} {h : Heap} {g : Array GenState} {d : Drawn} {t : Nat} {os : OsState} {a : Addr} {o : Obj}



theorem md_get {id nm : String} {P : Fin → Shared → Prop} (hT : (⟨h, g, d, t, os⟩ : Shared).TypeIs (.ref a) "list") (hown : (kfb_private% "ownerAndName") id = ("list", nm)) (told : Manifest.toldItsClass.contains id = false)
    (hq : P (.done (.ret (.ref h.objs.size))) ⟨h.push (boundM id (.ref a)), g, d, t, os⟩) : wpAny (model prog w) A (Builtin.«method_descriptor.__get__» ⟨[.builtin id, .ref a, .type "list"], []⟩) P E ⟨h, g, d, t, os⟩ := by
  unfold Builtin.«method_descriptor.__get__»
  refine wpAny_bind (wpAny_of_eq (a := (.builtin id, some (.ref a), some (.type "list"))) (by first | rfl | kernel_rfl) ?_)
  dsimp only
  rw [if_neg (by rw [told]; exact Bool.false_ne_true)]
  first | refine wpAny_pure ?_ | skip
  show wpAny _ _ ((kfb_private% "checkInstance") (.builtin id) (.ref a) >>= fun _ => (newFields "builtin_function_or_method" [.builtin id, .ref a] >>= fun v => ret v)) _ _ _
  refine wpAny_bind ?_
  show wpAny _ _ ((kfb_private% "nameAndClass") (.builtin id) >>= fun p => _) _ _ _
  refine wpAny_bind ?_
  have hn : (kfb_private% "nameAndClass") (.builtin id) = pure ((Str.ofString nm), Value.type "list") := by
    show (match (kfb_private% "ownerAndName") id with | (owner, name) => (pure ((Str.ofString name), Value.type owner) : Sem (Str × Value))) = _
    rw [hown]
  rw [hn]
  refine wpAny_pure ?_
  dsimp only
  refine wpAny_bind (wpAny_isInstance (b := true) hT (by rw [isSubtype_type]; kernel_rfl) ?_)
  refine wpAny_pure ?_
  exact wpAny_bind (wpAny_newObj_type (wpAny_pure hq))

theorem ga_list {its : Array Value} {n : Nat} {tk : Tok} {name : Str} {id nm : String} {Q : Fin → Shared → Prop} (hx : h.get? a = some (listOf its n)) (f4 : typeLookup (.type "list") name = pure (some (.builtin id))) (f5 : typeOf (.builtin id) = pure (.type "method_descriptor"))
    (hown : (kfb_private% "ownerAndName") id = ("list", nm)) (told : Manifest.toldItsClass.contains id = false)
    (hname : (["__module__", "__name__", "__qualname__", "__doc__", "__annotations__"] : List Str).contains name = false) (hq : Q (.done (.ret (.ref h.objs.size))) ⟨h.push (boundM id (.ref a)), g, d, t, os⟩) :
    wpAny (model prog w) A (Builtin.«object.__getattribute__» ⟨[.ref a, .str name tk], []⟩) Q E ⟨h, g, d, t, os⟩ := by
  have hT : (⟨h, g, d, t, os⟩ : Shared).TypeIs (.ref a) "list" := ⟨_, hx, rfl⟩
  have f6 := B.slot_md_get.lookup
  have f7 := B.md_no_set
  have f8 := B.md_no_del
  unfold Builtin.«object.__getattribute__»
  repeat (any_goals (first | assumption | wp_step))
  simp only [hname, Bool.false_eq_true, if_false]
  repeat (any_goals (first | assumption | wp_step))
  have hT5 : (⟨h, g, d, t, os⟩ : Shared).TypeIs (.builtin id) "method_descriptor" := f5
  refine codeAny_call_builtin B.slot_md_get.plain B.entry_md_get (B.slot_md_get.check _ _ _ _ _ _ _ _ hT5 (B.args_md_get _ _ _) ?_)
  refine md_get (nm := nm) hT hown told ?_
  repeat (any_goals (first | assumption | wp_step))

theorem getAttr_list {its : Array Value} {n : Nat} {name : Str} {id nm : String} {Q : Value → Shared → Prop} (hx : h.get? a = some (listOf its n)) (f4 : typeLookup (.type "list") name = pure (some (.builtin id))) (f5 : typeOf (.builtin id) = pure (.type "method_descriptor"))
    (hown : (kfb_private% "ownerAndName") id = ("list", nm)) (told : Manifest.toldItsClass.contains id = false) (hname : (["__module__", "__name__", "__qualname__", "__doc__", "__annotations__"] : List Str).contains name = false) (hq : Q (.ref h.objs.size) ⟨h.push (boundM id (.ref a)), g, d, t + 1, os⟩) :
    wpAny (model prog w) A (getAttr (.ref a) name true) Q E ⟨h, g, d, t, os⟩ := by
  have hT : ∀ tk', (⟨h, g, d, tk', os⟩ : Shared).TypeIs (.ref a) "list" := fun _ => ⟨_, hx, rfl⟩
  have f3 := PySem.F.slot_list_getattribute.lookup
  have f4' := PySem.F.slot_list_getattribute.bind (.ref a)
  unfold getAttr getAttrBy
  repeat (any_goals (first | assumption | exact hT _ | ((with_reducible show wpAny _ _ (call (Value.builtin "list.__getattribute__") _ _) _ _ _); refine wpAny_call (codeAny_call_builtin PySem.F.slot_list_getattribute.plain PySem.F.entry_list_ga (PySem.F.slot_list_getattribute.check _ _ _ _ _ _ _ _ (hT _) (PySem.F.args_list_getattribute_2 _ _) (ga_list hx f4 f5 hown told hname ?_)))) | wp_step))
end
end Mine
end
section
set_option maxRecDepth 100000
set_option linter.unusedVariables false
namespace Mine
section
variable {prog : Program} {w : World} {A : Around} {E : Value → Shared → Prop} {s : Shared} {a q : Addr}

theorem kind_append : builtinKind "list.append" = some .method := by decide +kernel
theorem kind_clear : builtinKind "list.clear" = some .method := by decide +kernel
theorem var_append : Manifest.varargsMethods.contains "list.append" = false := by decide +kernel
theorem var_clear : Manifest.varargsMethods.contains "list.clear" = false := by decide +kernel

/-- a bound method's call is let through -/
theorem cb_list {id : String} {args : List Value} {sig : Manifest.Signature} {its : Array Value} {n : Nat} {Q : Unit → Shared → Prop} (hx : s.heap.get? a = some (listOf its n)) (hs : Manifest.signature? id = some sig) (hk : builtinKind id = some .method)
    (hv : Manifest.varargsMethods.contains id = false) (hc : Bind.checkArgs id { sig with full := s!"{Bind.lastOf "list"}.{Bind.lastOf id}" } ⟨.ref a :: args, []⟩ = pure ()) (h : Q () s) : wpAny (model prog w) A (checkBoundCall id ⟨.ref a :: args, []⟩) Q E s := by
  have hT : s.TypeIs (.ref a) "list" := ⟨_, hx, rfl⟩
  unfold checkBoundCall
  rw [hs]
  dsimp only
  rw [hk]
  dsimp only
  rw [if_neg (by decide)]
  refine wpAny_bind (wpAny_isInstance (b := false) hT (by rw [isSubtype_type]; kernel_rfl) ?_)
  rw [if_neg (by rw [hv]; decide)]
  have hi : wpAny (model prog w) A (isType (.ref a)) (fun b s' => b = false ∧ s' = s) E s := by
    repeat (any_goals (first | assumption | wp_step))
    exact ⟨rfl, rfl⟩
  refine wpAny_bind (wpAny_mono hi (fun b s' hb => ?_) fun _ _ e => e)
  obtain ⟨rfl, rfl⟩ := hb
  rw [if_neg (by decide)]
  refine wpAny_bind (wpAny_typeOf hT ?_)
  dsimp only
  exact wpAny_of_eq hc h

/-- a bound method called -/
theorem call_bound {id : String} {b : Builtin} {args : List Value} {vs : Array Value} {o : Obj} {Q : Value → Shared → Prop} (ho : s.heap.get? q = some o) (hcl : o.cls = .type "builtin_function_or_method") (hd : o.data = .fields vs) (h0 : vs[0]? = some (.builtin id)) (h1 : vs[1]? = some (.ref a))
    (hp : plainId id = true) (hb : entryFor table id = some b) (hchk : ∀ (A : Around) (E : Value → Shared → Prop) (P : Unit → Shared → Prop), P () s → wpAny (model prog w) A (checkBoundCall id ⟨.ref a :: args, []⟩) P E s)
    (h : wpAny (model prog w) A.in1 (b ⟨.ref a :: args, []⟩) (fun fin s' => ∃ v, fin = .done (.ret v) ∧ Q v s') E s) : wpAny (model prog w) A (call (.ref q) args) Q E s := by
  refine wpAny_call (codeAny_of_tree ?_)
  show wpAny _ _ (callAny (.ref q) _) _ _ _
  unfold callAny
  refine wpAny_bind (wpAny_load ho ?_)
  rw [hd]
  dsimp only
  rw [hcl, if_pos (by decide), h0, h1]
  dsimp only
  rw [if_pos (by decide)]
  refine wpAny_bind (hchk _ _ _ ?_)
  refine wpAny_bind (wpAny_pure (wpAny_pure ⟨plainId_quiet hp _, codeAny_builtin hb ?_⟩))
  rw [Around.under_plainId hp _]
  refine wpAny_mono h (fun fin s' hf => ?_) fun _ _ e => e
  obtain ⟨v, rfl, hv⟩ := hf
  exact hv

theorem call_bound_meets {id : String} {b : Builtin} {args : List Value} {vs : Array Value} {o : Obj} {S : PySem.Spec} {Q : Value → Shared → Prop} (ho : s.heap.get? q = some o) (hcl : o.cls = .type "builtin_function_or_method") (hd : o.data = .fields vs) (h0 : vs[0]? = some (.builtin id)) (h1 : vs[1]? = some (.ref a))
    (hp : plainId id = true) (hb : entryFor table id = some b) (hchk : ∀ (A : Around) (E : Value → Shared → Prop) (P : Unit → Shared → Prop), P () s → wpAny (model prog w) A (checkBoundCall id ⟨.ref a :: args, []⟩) P E s)
    (g : Meets (b ⟨.ref a :: args, []⟩) S) (h : S A (wants Q E) s) : wpAny (model prog w) A (call (.ref q) args) Q E s := by
  refine wpAny_call (codeAny_of_tree ?_)
  show wpAny _ _ (callAny (.ref q) _) _ _ _
  unfold callAny
  refine wpAny_bind (wpAny_load ho ?_)
  rw [hd]
  dsimp only
  rw [hcl, if_pos (by decide), h0, h1]
  dsimp only
  rw [if_pos (by decide)]
  refine wpAny_bind (hchk _ _ _ ?_)
  refine wpAny_bind (wpAny_pure (wpAny_pure ⟨plainId_quiet hp _, codeAny_builtin hb ?_⟩))
  rw [Around.under_plainId hp _]
  exact g prog w A _ s h

theorem sig_append : ∃ sig, Manifest.signature? "list.append" = some sig ∧ ∀ x y : Value, Bind.checkArgs "list.append" { sig with full := s!"{Bind.lastOf "list"}.{Bind.lastOf "list.append"}" } ⟨[x, y], []⟩ = pure () :=
  ⟨_, by rw [signature?_of (id := "list.append") (n := ['d', 'n', 'e', 'p', 'p', 'a']) (o := ['t', 's', 'i', 'l']) (by kernel_rfl) PySem.F.owner_list]; rfl, fun x y => by kernel_rfl⟩
theorem sig_clear : ∃ sig, Manifest.signature? "list.clear" = some sig ∧ ∀ x : Value, Bind.checkArgs "list.clear" { sig with full := s!"{Bind.lastOf "list"}.{Bind.lastOf "list.clear"}" } ⟨[x], []⟩ = pure () :=
  ⟨_, by rw [signature?_of (id := "list.clear") (n := ['r', 'a', 'e', 'l', 'c']) (o := ['t', 's', 'i', 'l']) (by kernel_rfl) PySem.F.owner_list]; rfl, fun x => by kernel_rfl⟩

theorem bound_append {x : Value} {its : Array Value} {n : Nat} {vs : Array Value} {o : Obj} {Q : Value → Shared → Prop} (ho : s.heap.get? q = some o) (hcl : o.cls = .type "builtin_function_or_method") (hd : o.data = .fields vs) (h0 : vs[0]? = some (.builtin "list.append")) (h1 : vs[1]? = some (.ref a))
    (hx : s.heap.get? a = some (listOf its n)) (hsz : its.size ≤ sizeLine) (h : ∀ h', Heap.SameBut a s.heap h' → h'.get? a = some (listOf (its.push x) (n + 1)) → Q .none { s with heap := h' }) : wpAny (model prog w) A (call (.ref q) [x]) Q E s := by
  obtain ⟨sig, hs, hc⟩ := sig_append
  refine call_bound ho hcl hd h0 h1 slot_list_append.plain entry_list_append (fun A E P hP => cb_list hx hs kind_append var_append (hc _ _) hP) ?_
  show wpAny _ _ (updateSeq a (·.push x) >>= fun _ => ret .none) _ _ s
  refine wpAny_bind (wpAny_updateSeq (hz := hsz) (_hz' := by rw [Array.size_push]; omega) hx rfl (wpAny_pure ⟨.none, rfl, h _ (Heap.SameBut.update ..) ?_⟩))
  rw [Heap.get?_update_self _ hx (by rw [mapSeq_push]; rfl), mapSeq_push]

theorem bound_clear {its : Array Value} {n : Nat} {vs : Array Value} {o : Obj} {Q : Value → Shared → Prop} (ho : s.heap.get? q = some o) (hcl : o.cls = .type "builtin_function_or_method") (hd : o.data = .fields vs) (h0 : vs[0]? = some (.builtin "list.clear")) (h1 : vs[1]? = some (.ref a))
    (hx : s.heap.get? a = some (listOf its n)) (hsz : its.size ≤ sizeLine) (h : ∀ h' m, Heap.SameBut a s.heap h' → h'.get? a = some (listOf #[] m) → Q .none { s with heap := h' }) : wpAny (model prog w) A (call (.ref q) []) Q E s := by
  obtain ⟨sig, hs, hc⟩ := sig_clear
  refine call_bound_meets ho hcl hd h0 h1 PySem.F.slot_list_clear.plain PySem.F.entry_list_clear (fun A E P hP => cb_list hx hs kind_clear var_clear (hc _) hP) (AutoSeq1.list_clear_list_0 a its n hsz) ⟨hx, ?_⟩
  refine h _ _ (Heap.SameBut.update ..) (Heap.get?_update_self _ hx rfl)
end
end Mine
end
section
set_option maxRecDepth 100000
set_option linter.unusedVariables false
namespace Mine
section
variable {C : Ctx} {Γ : Gam} {P : Out → Prop}

/-- a statement that is an expression that comes to none -/
theorem own_at {k h : Heap} {Ws : Nat → Value} {i : Nat} {x : Str} {l : List I} (X : Vars C k Γ h Ws) (hx : C.names[i]? = some x) (hv : Γ[i]? = some (some (.own l))) :
    ∃ a vs n, Ws i = .ref a ∧ h.get? a = some (listOf vs.toArray n) ∧ All2 IRep l vs ∧ k.get? a = none ∧ a ∉ fa C.fs := by
  obtain ⟨_, a, vs, n, e, ho, hr⟩ := X.reads i x _ hx hv
  obtain ⟨a', e', h1, h2, _⟩ := X.own i l hv
  rw [e] at e'; cases e'
  exact ⟨a, vs, n, e, ho, hr, h1, h2⟩

theorem name_any {h : Heap} {s : Shared} {x : Str} {px : Pos} {w : Value} {Q : Value → Shared → Prop} {E : Value → Shared → Prop} (O : C.Ok0) (r : Reads C.ev s.heap x w) (hd : (x == ("__debug__" : Str)) = false) (hq : Q w s) : wpAny C.M C.A (eval (.Name x px) C.ev) Q E s := by
  refine wpAny_Name ?_ hd
  rcases r with ⟨hk, m, hn, hm⟩ | ⟨hk, c, hc, hw⟩
  · exact wpAny_loadName_local O.kind hk hn hm hq
  · exact wpAny_loadName_cell O.kind hk hc hw hq

theorem method_any {o : Expr} {name : Str} {ap cp : Pos} {es : List Expr} {ev : Env} {s : Shared} {Q : Value → Shared → Prop} {E : Value → Shared → Prop} (hb : attributeBase o name ev (eval o ev) = eval o ev) (hn : noStars es) (hf : es.length < 30) (hl : (ap.endLine == cp.line) = true)
    (h : wpAny C.M C.A (eval o ev) (fun ov s₁ => ∀ pl, wpAny C.M C.A (getMethod ov name pl) (fun fx s₂ => wpAny C.M C.A (callWith cp fx.1 fx.2 (backTo cp (starEach es ev)) (backToKw cp (keywordEach [] ev))) Q E s₂) E s₁) E s) :
    wpAny C.M C.A (eval (.Call (.Attribute o name ap) es [] cp) ev) Q E s := by
  have form : methodCallForm (es.length + ([] : List Keyword).length) (backTo cp (starEach es ev)) (backToKw cp (keywordEach [] ev)) = true := by
    have h1 := stars_plain hn cp ev
    have h2 : (backTo cp (starEach es ev)).all (!·.1) = true := by
      rw [← Bool.not_eq_false, ← Bool.not_eq_true', ← List.not_any_eq_all_not] at *
      simpa using h1
    unfold methodCallForm
    rw [h2]
    simp [backToKw, keywordEach, hf]
  show wpAny C.M C.A (do
    let ov ← attributeBase o name ev (eval o ev)
    standAt ap.atName
    methodCall o name ap cp ev ov (es.length + ([] : List Keyword).length) (backTo cp (starEach es ev)) (backToKw cp (keywordEach [] ev))) Q E s
  rw [hb]
  refine wpAny_bind (wpAny_mono h (fun ov s₁ h₁ => wpAny_bind (wpAny_standAt ?_)) fun _ _ e => e)
  unfold methodCall
  rw [form]
  refine wpAny_bind (wpAny_holding ?_)
  show wpAny C.M C.A (getMethod ov name _) _ _ s₁
  refine wpAny_mono (h₁ _) (fun fx s₂ h₂ => ?_) fun _ _ e => e
  have hp : methodCallPos true o ev ap cp = pure cp := by
    unfold methodCallPos
    rw [hl]; rfl
  rw [hp]
  exact wpAny_bind (wpAny_pure h₂)

theorem BX1.append {i : Nat} {x : Str} {px ap cp pos : Pos} {e : Expr} {v : I} {l : List I} {f : Bool} (O : C.Ok) (hx : C.names[i]? = some x) (hv : Γ[i]? = some (some (.own l))) (hd : (x == ("__debug__" : Str)) = false)
    (he : SE C Γ e (.im v) f) (hst : isStar e = false) (hz : l.length ≤ 1000000) (hi : interactive C.ev = false) (hl : (ap.endLine == cp.line) = true) (h : P (.next (Γ.set i (some (.own (l ++ [v])))))) : BX1 C Γ (.Expr (.Call (.Attribute (.Name x px) "append" ap) [e] [] cp) pos) P := fun k s Q E S hP => by
  obtain ⟨Ws, X⟩ := S.vars
  obtain ⟨r, _⟩ := X.reads i x _ hx hv
  obtain ⟨a, vs, n, ea, ho, hr, hk, hf⟩ := own_at X hx hv
  refine wpAny_Expr (method_any rfl (noStars_of (by simp [hst])) (by simp) hl (name_any (h := s.heap) O.toOk0 r hd fun pl => ?_)) hi
  rw [ea]
  refine Calls.getMethod_list_append ho rfl rfl ?_
  refine callWith_ok (s := s) (noStars_of (by simp [hst])) rfl rfl (.one he hst) SKs.nil S.inv (fun h' hb => looks_machine (by intro a q; cases q)) fun ws kw h₁ t₁ x₁ r₁ r₂ => ?_
  cases r₁ with
  | cons rv r₁ =>
    cases r₁
    have S₁ := S.ext' x₁
    have X₁ := X.ext' x₁
    have ho₁ := x₁.keep a _ hf ho
    have hlen := hr.length
    refine append_at (s := ⟨h₁, s.gens, s.drawn, t₁, s.os⟩) ho₁ (fun h' hs hp => ?_) (by rw [sizeLine_eq]; simp; lia)
    refine hP _ h h' t₁ ⟨st0_updated S₁.toSt0 hk hs ⟨_, _, ho₁⟩ hf, ⟨Ws, updated (x := x) X₁ hv ea hs (by simpa using hp) (hr.append (.cons rv .nil)) S.len ⟨_, _, ho₁⟩⟩, by rw [List.length_set]; exact S.len⟩

/-- the same by a bound method that a name holds -/
theorem meth_at {k h : Heap} {Ws : Nat → Value} {i j : Nat} {id : String} (X : Vars C k Γ h Ws) (hm : Γ[j]? = some (some (.meth id i))) :
    ∃ q a o vs, Ws j = .ref q ∧ Ws i = .ref a ∧ h.get? q = some o ∧ q ∉ fa C.fs ∧ o.cls = .type "builtin_function_or_method" ∧ o.data = .fields vs ∧ vs[0]? = some (.builtin id) ∧ vs[1]? = some (.ref a) := by
  obtain ⟨q, a, o, h1, h2, h3, h4, h5, vs, h6, h7⟩ := X.meth j id i hm
  refine ⟨q, a, o, vs, h1, h2, h3, h4, h5, h6, ?_, ?_⟩
  · have : vs.toList[0]? = some (.builtin id) := by
      have := congrArg (·[0]?) h7
      simpa [List.getElem?_take] using this
    simpa using this
  · have : vs.toList[1]? = some (.ref a) := by
      have := congrArg (·[1]?) h7
      simpa [List.getElem?_take] using this
    simpa using this

theorem looks_bound {M : Model} {h' : Heap} {q : Addr} {o : Obj} {vs : Array Value} (ho : h'.get? q = some o) (hc : o.cls = .type "builtin_function_or_method") (hd : o.data = .fields vs) : Looks M h' (keeperOf (.ref q)) .machine := by
  obtain ⟨c, d, dt, sl⟩ := o
  simp only at hc hd
  subst hc hd
  exact (Looks.ld (part := none) ho).andThen .now

theorem callWith_meth {es : List Expr} {vs : List V} {q : Addr} {o : Obj} {fs : Array Value} {pos : Pos} {s : Shared} {Q : Value → Shared → Prop} {E : Value → Shared → Prop} (hn : noStars es) (he : SEs C Γ es vs) (I : Inv C Γ s.heap)
    (ho : s.heap.get? q = some o) (hq : q ∉ fa C.fs) (hc : o.cls = .type "builtin_function_or_method") (hd : o.data = .fields fs)
    (h : ∀ ws h' tk, Ext C.fs s.heap h' → All2 (WRep h') vs ws → wpAny C.M C.A (call (.ref q) ws []) Q E { s with heap := h', toks := tk }) :
    wpAny C.M C.A (callWith pos (.ref q) [] (backTo pos (starEach es C.ev)) (backToKw pos (keywordEach [] C.ev))) Q E s := by
  refine callWith_of (P := fun h' => h'.get? q = some o) ?_ (fun h' hb => ⟨.machine, .inr (.inl rfl), looks_bound hb hc hd⟩) (args_ok hn rfl he SKs.nil I fun ws kw h' tk x r₁ r₂ => ⟨x.keep q o hq ho, ?_⟩)
  · rw [stars_plain hn]; rfl
  · exact h ws h' tk x r₁

theorem BX1.methAppend {i j : Nat} {x y : Str} {py cp pos : Pos} {e : Expr} {v : I} {l : List I} {f : Bool} (O : C.Ok) (hx : C.names[i]? = some x) (hv : Γ[i]? = some (some (.own l))) (hy : C.names[j]? = some y) (hm : Γ[j]? = some (some (.meth "list.append" i))) (hd : (y == ("__debug__" : Str)) = false)
    (he : SE C Γ e (.im v) f) (hst : isStar e = false) (hz : l.length ≤ 1000000) (hi : interactive C.ev = false) (h : P (.next (Γ.set i (some (.own (l ++ [v])))))) : BX1 C Γ (.Expr (.Call (.Name y py) [e] [] cp) pos) P := fun k s Q E S hP => by
  obtain ⟨Ws, X⟩ := S.vars
  obtain ⟨r, _⟩ := X.reads j y _ hy hm
  obtain ⟨a, vs, n, ea, ho, hr, hk, hf⟩ := own_at X hx hv
  obtain ⟨q, a', o, fs, eq, ea', hq, hqf, hc, hdt, h0, h1⟩ := meth_at X hm
  rw [ea] at ea'; cases ea'
  refine wpAny_Expr ?_ hi
  show wpAny C.M C.A (eval (.Name y py) C.ev >>= fun f => callWith cp f [] (backTo cp (starEach [e] C.ev)) (backToKw cp (keywordEach [] C.ev))) _ E s
  refine wpAny_bind (name_any (h := s.heap) O.toOk0 r hd ?_)
  rw [eq]
  refine callWith_meth (noStars_of (by simp [hst])) (.one he hst) S.inv hq hqf hc hdt fun ws h₁ t₁ x₁ r₁ => ?_
  cases r₁ with
  | cons rv r₁ =>
    cases r₁
    have S₁ := S.ext' x₁
    have X₁ := X.ext' x₁
    have ho₁ := x₁.keep a _ hf ho
    have hlen := hr.length
    refine bound_append (s := ⟨h₁, s.gens, s.drawn, t₁, s.os⟩) (x₁.keep q _ hqf hq) hc hdt h0 h1 ho₁ (by rw [sizeLine_eq]; simp; lia) fun h' hs hp => ?_
    refine hP _ h h' t₁ ⟨st0_updated S₁.toSt0 hk hs ⟨_, _, ho₁⟩ hf, ⟨Ws, updated (x := x) X₁ hv ea hs (by simpa using hp) (hr.append (.cons rv .nil)) S.len ⟨_, _, ho₁⟩⟩, by rw [List.length_set]; exact S.len⟩

theorem BX1.methClear {i j : Nat} {x y : Str} {py cp pos : Pos} {l : List I} (O : C.Ok) (hx : C.names[i]? = some x) (hv : Γ[i]? = some (some (.own l))) (hy : C.names[j]? = some y) (hm : Γ[j]? = some (some (.meth "list.clear" i))) (hd : (y == ("__debug__" : Str)) = false)
    (hz : l.length ≤ 1000000) (hi : interactive C.ev = false) (h : P (.next (Γ.set i (some (.own []))))) : BX1 C Γ (.Expr (.Call (.Name y py) [] [] cp) pos) P := fun k s Q E S hP => by
  obtain ⟨Ws, X⟩ := S.vars
  obtain ⟨r, _⟩ := X.reads j y _ hy hm
  obtain ⟨a, vs, n, ea, ho, hr, hk, hf⟩ := own_at X hx hv
  obtain ⟨q, a', o, fs, eq, ea', hq, hqf, hc, hdt, h0, h1⟩ := meth_at X hm
  rw [ea] at ea'; cases ea'
  refine wpAny_Expr ?_ hi
  show wpAny C.M C.A (eval (.Name y py) C.ev >>= fun f => callWith cp f [] (backTo cp (starEach [] C.ev)) (backToKw cp (keywordEach [] C.ev))) _ E s
  refine wpAny_bind (name_any (h := s.heap) O.toOk0 r hd ?_)
  rw [eq]
  refine callWith_meth (noStars_of (by simp)) .nil S.inv hq hqf hc hdt fun ws h₁ t₁ x₁ r₁ => ?_
  cases r₁
  have S₁ := S.ext' x₁
  have X₁ := X.ext' x₁
  have ho₁ := x₁.keep a _ hf ho
  have hlen := hr.length
  refine bound_clear (s := ⟨h₁, s.gens, s.drawn, t₁, s.os⟩) (x₁.keep q _ hqf hq) hc hdt h0 h1 ho₁ (by rw [sizeLine_eq]; simp; lia) fun h' m hs hp => ?_
  refine hP _ h h' t₁ ⟨st0_updated S₁.toSt0 hk hs ⟨_, _, ho₁⟩ hf, ⟨Ws, updated (x := x) (vs' := []) X₁ hv ea hs hp .nil S.len ⟨_, _, ho₁⟩⟩, by rw [List.length_set]; exact S.len⟩
end
end Mine
end
section
set_option maxRecDepth 100000
set_option linter.unusedVariables false
namespace Mine
section
variable {C : Ctx} {Γ : Gam} {P : Out → Prop}

theorem BX1.while {test : Expr} {body : List Stmt} {pos : Pos} {outer : List Env} (O : C.Ok) (hfs : C.fs = C.ev :: outer) (hfr : C.ev.frame = some C.ev.locals) (J : Nat → Gam → Prop) (n₀ : Nat) (h0 : J n₀ Γ)
    (turn : ∀ n Γ', J n Γ' → ∃ b, ST C Γ' test b ∧ (b = true → BX C Γ' body (LoopOut (fun Γ'' => ∃ m, m < n ∧ J m Γ'') P)) ∧ (b = false → P (.next Γ'))) : BX1 C Γ (.While test body [] pos) P := fun k s Q E S hP => by
  refine wpAny_While (codeAny_whileLoop (R := fun r s' => match r with | .ok f => Q f s' | .error e => cameBackBy C.M C.A C.ev E e s')
    (fun n s' => ∃ Γ' h' tk, s' = { s with heap := h', toks := tk } ∧ J n Γ' ∧ St C k Γ' h') ?_ n₀ ⟨Γ, s.heap, s.toks, rfl, h0, S⟩)
  rintro n s' ⟨Γ', h', tk, rfl, hJ, S'⟩
  obtain ⟨b, ht, h1, h2⟩ := turn n Γ' hJ
  refine ht ⟨h', s.gens, s.drawn, tk, s.os⟩ _ _ S'.inv fun h₁ t₁ x₁ => ?_
  have S₁ := S'.ext' x₁
  cases b with
  | false => exact wpAny_execs_nil (hP _ (h2 rfl) h₁ t₁ S₁)
  | true =>
    refine h1 rfl k ⟨h₁, s.gens, s.drawn, t₁, s.os⟩ _ _ S₁ fun o ho => ?_
    cases o with
    | next Γ'' => exact fun h₄ tk₄ S₇ => let ⟨m, hm, hj⟩ := ho; ⟨m, hm, Γ'', h₄, tk₄, rfl, hj, S₇⟩
    | cont Γ'' => exact fun h₄ tk₄ S₇ => let ⟨m, hm, hj⟩ := ho; ⟨m, hm, Γ'', h₄, tk₄, rfl, hj, S₇⟩
    | brk Γ'' => exact fun h₄ tk₄ S₇ => hP _ ho h₄ tk₄ S₇
    | ret v fr => exact fun w h₄ tk₄ x f r fr' => hP _ ho w h₄ tk₄ x f r fr'
    | exc cls args => exact fun e' h₄ tk₄ x => exc_out (s := ⟨h₄, s.gens, s.drawn, tk₄, s.os⟩) O hfs hfr x fun h₅ y => hP _ ho e' h₅ tk₄ y

theorem BX1.brk {pos : Pos} (h : P (.brk Γ)) : BX1 C Γ (.Break pos) P := fun k s Q E S hP => wpAny_Break (hP _ h s.heap s.toks S)
theorem BX1.cont {pos : Pos} (h : P (.cont Γ)) : BX1 C Γ (.Continue pos) P := fun k s Q E S hP => wpAny_Continue (hP _ h s.heap s.toks S)

/-- a method of an own list, held by a name -/
theorem BX1.assign_meth {i j : Nat} {x y name : Str} {id nm : String} {px py ap pos : Pos} {l : List I} (O : C.Ok) (hij : j ≠ i) (hx : C.names[i]? = some x) (hv : Γ[i]? = some (some (.own l))) (hd : (x == ("__debug__" : Str)) = false) (hy : C.names[j]? = some y) (hl : isLocal C y) (hm : noMeth Γ j)
    (f4 : typeLookup (.type "list") name = pure (some (.builtin id))) (f5 : typeOf (.builtin id) = pure (.type "method_descriptor")) (hown : (kfb_private% "ownerAndName") id = ("list", nm)) (told : Manifest.toldItsClass.contains id = false)
    (hname : (["__module__", "__name__", "__qualname__", "__doc__", "__annotations__"] : List Str).contains name = false)
    (h : P (.next (Γ.set j (some (.meth id i))))) : BX1 C Γ (.Assign [.Name y py] (.Attribute (.Name x px) name ap) pos) P := fun k s Q E S hP => by
  obtain ⟨Ws, X⟩ := S.vars
  obtain ⟨r, _⟩ := X.reads i x _ hx hv
  obtain ⟨a, vs, n, ea, ho, hr, hk, hf⟩ := own_at X hx hv
  refine wpAny_Assign_Name (Attribute_name (name_any (h := s.heap) O.toOk0 r hd ?_)) rfl
  rw [ea]
  obtain ⟨hp, g, d, tk, os⟩ := s
  refine getAttr_list ho f4 f5 hown told hname ?_
  have x₁ : Ext C.fs hp (hp.push (boundM id (.ref a))) := (Ext.refl ..).push _
  have S₁ := S.ext' x₁
  have X₁ := X.ext' x₁
  refine store0 (s := ⟨hp.push (boundM id (.ref a)), g, d, tk + 1, os⟩) O S₁.toSt0 hl fun h₂ tk₂ S₂ rx ro st => ?_
  have hj : j < Γ.length := by rw [S.len]; exact (List.getElem?_eq_some_iff.mp hy).1
  have hq : hp.get? hp.objs.size = none := Heap.get?_none_of_le (Nat.le_refl _)
  obtain ⟨_, hqf⟩ := gone S.ext S.frames hq
  have hq₂ : h₂.get? hp.objs.size = some (boundM id (.ref a)) := st _ _ (.inr ⟨_, rfl⟩) (Heap.get?_push_size _ rfl)
  -- as an object of no kind first, then as a method
  have X₂ := vars_set (v := .im (.raw (.ref hp.objs.size))) O X₁ hy (fun j' hj' => get_set_ne hj') (get_set_self' hj) hm rx ro st rfl (fun q => by cases q) (fun l q => by cases q) (fun _ _ q => by cases q)
  refine hP _ h h₂ tk₂ ⟨S₂, ⟨upW Ws j (.ref hp.objs.size), fun i' y' v' hy' hv' => ?_, fun i' l' hl' => ?_, fun i' id' j' hm' => ?_⟩, by rw [List.length_set]; exact S.len⟩
  · by_cases e : i' = j
    · subst e
      have := get_set_self hv'
      cases this
      rw [hy] at hy'; cases hy'
      rw [upW, if_pos rfl]
      exact ⟨rx, _, rfl⟩
    · rw [get_set_ne e] at hv'
      exact X₂.reads i' y' v' hy' (by rw [get_set_ne e]; exact hv')
  · by_cases e : i' = j
    · subst e
      have := get_set_self hl'
      cases this
    · rw [get_set_ne e] at hl'
      obtain ⟨a', h1, h2, h3, h4⟩ := X₂.own i' l' (by rw [get_set_ne e]; exact hl')
      refine ⟨a', h1, h2, h3, fun j'' u ne hu il => ?_⟩
      by_cases e' : j'' = j
      · subst e'
        have := get_set_self hu
        cases this; cases il
      · rw [get_set_ne e'] at hu
        exact h4 j'' u ne (by rw [get_set_ne e']; exact hu) il
  · by_cases e : i' = j
    · subst e
      have := get_set_self hm'
      cases this
      refine ⟨hp.objs.size, a, _, by rw [upW, if_pos rfl], by rw [upW, if_neg (Ne.symm hij)]; exact ea, hq₂, hqf, rfl, _, rfl, rfl⟩
    · rw [get_set_ne e] at hm'
      exact X₂.meth i' id' j' (by rw [get_set_ne e]; exact hm')
end
end Mine
end
section
set_option maxRecDepth 100000
set_option linter.unusedVariables false
namespace Mine

/-- an own class of exceptions, with nothing of its own -/
noncomputable def OwnErr (G : Glo) (a : Addr) : Prop := ∃ nm q N bs bm hdct sn sub ab col dd k0 k1 k2 k3 k5 B newId initId mN,
  ExcBaseFacts B newId initId bm ∧ G.b0.get? a = some (excClassObj nm q a N bs bm hdct sn sub ab col dd k0 k1 k2 k3 k5 newId) ∧ G.b0.Ns N mN ∧ mN "__init__" = none ∧ bm.contains (.type "ValueError") = true

section
variable {C : Ctx} {Γ : Gam} {P : Out → Prop}

theorem evalArgs_one {f : Value} {pos : Pos} {e : Expr} {v : V} {fr : Bool} {s : Shared} {Q : Args → Shared → Prop} {E : Value → Shared → Prop} (he : SE C Γ e v fr) (hst : isStar e = false) (I : Inv C Γ s.heap)
    (h : ∀ w h' tk, Ext C.fs s.heap h' → WRep h' v w → Q ⟨[w], []⟩ { s with heap := h', toks := tk }) : wpAny C.M C.A (evalArgs f true (backTo pos (starEach [e] C.ev)) []) Q E s := by
  have := args_ok (f := f) (pos := pos) (ks := []) (noStars_of (by simp [hst])) rfl (.one he hst) SKs.nil I (E := E) (Q := Q) fun ws kw h' tk x r _ => by
    cases r with
    | cons a r =>
      cases r
      exact h _ h' tk x a
  exact this

theorem BX1.raise_own {a : Addr} {x : Str} {np cp pos : Pos} {e : Expr} {v : I} {fr : Bool} (O : C.Ok) (hx : C.ev.kindOf x = some .globalImplicit) (hv : C.Glob x (.ref a)) (hd : (x == ("__debug__" : Str)) = false) (W : OwnErr C.toGlo a)
    (he : SE C Γ e (.im v) fr) (hst : isStar e = false) (h : P (.exc (.ref a) [v])) : BX1 C Γ (.Raise (some (.Call (.Name x np) [e] [] cp)) none pos) P := fun k s Q E S hP => by
  obtain ⟨nm, q, N, bs, bm, hdct, sn, sub, ab, col, dd, k0, k1, k2, k3, k5, B, newId, initId, mN, F, hC, hN, hi, _⟩ := W
  refine wpAny_Raise_call_sub (nm := nm) (q := q) (N := N) (bs := bs) (bm := bm) (hdct := hdct) (sn := sn) (sub := sub) (ab := ab) (col := col) (dd := dd) (k0 := k0) (k1 := k1) (k2 := k2) (k3 := k3) (k5 := k5) (newId := newId) F O.handled (stars_plain (noStars_of (by simp [hst])) _ _) hi (SE.glob (Γ := Γ) O.toOk0 hx hv hd s _ E S.inv fun w h₀ t₀ x₀ r₀ _ => ⟨r₀, ?_⟩)
  have S₀ := S.ext' x₀
  refine evalArgs_one (s := ⟨h₀, s.gens, s.drawn, t₀, s.os⟩) he hst S₀.inv fun w h₁ t₁ x₁ r₁ => ?_
  have S₁ := S₀.ext' x₁
  refine ⟨rfl, by rw [sizeLine_eq]; simp, S₁.inv.base _ _ hC, hN.keeps S₁.inv.base, fun h' e' hm => ?_⟩
  exact hP _ h e' h' t₁ ⟨[w], .cons r₁ .nil, S₁.ext.slots.trans (.of_keeps hm.keeps), .inl ⟨h₁, S₁.ext, S₁.frames, hm⟩⟩

theorem made_of {h h' : Heap} {e : Addr} {cls : String} {args : List Value} (x : Heap.MadeExc h h' e cls args) : Heap.MadeExcOf h h' e (.type cls) args := ⟨x.keeps, x.new, x.there⟩

theorem BX1.raise_val {x : Str} {np cp pos : Pos} {e : Expr} {v : I} {fr : Bool} (O : C.Ok) (hx : C.ev.kindOf x = some .globalImplicit) (hv : C.Glob x (.type "ValueError")) (hd : (x == ("__debug__" : Str)) = false)
    (he : SE C Γ e (.im v) fr) (hst : isStar e = false) (h : P (.exc (.type "ValueError") [v])) : BX1 C Γ (.Raise (some (.Call (.Name x np) [e] [] cp)) none pos) P := fun k s Q E S hP => by
  refine wpAny_Raise_call PySem.F.excCall_ValueError PySem.F.excRaise_ValueError O.handled (stars_plain (noStars_of (by simp [hst])) _ _) (SE.glob (Γ := Γ) O.toOk0 hx hv hd s _ E S.inv fun w h₀ t₀ x₀ r₀ _ => ⟨r₀, ?_⟩)
  have S₀ := S.ext' x₀
  refine evalArgs_one (s := ⟨h₀, s.gens, s.drawn, t₀, s.os⟩) he hst S₀.inv fun w h₁ t₁ x₁ r₁ => ?_
  have S₁ := S₀.ext' x₁
  refine ⟨rfl, by rw [sizeLine_eq]; simp, fun h' e' hm => ?_⟩
  exact hP _ h e' h' t₁ ⟨[w], .cons r₁ .nil, S₁.ext.slots.trans (.of_keeps hm.keeps), .inl ⟨h₁, S₁.ext, S₁.frames, made_of hm⟩⟩
end
end Mine
end
section
set_option maxRecDepth 100000
set_option linter.unusedVariables false
namespace Mine
section
variable {C : Ctx} {Γ : Gam} {P : Out → Prop}

/-- an expression that may raise -/
noncomputable def SX (C : Ctx) (Γ : Gam) (e : Expr) (R : RO → Prop) : Prop :=
  ∀ (s : Shared) (Q : Value → Shared → Prop) (E : Value → Shared → Prop), Inv C Γ s.heap →
    (∀ v fr, R (.ret v fr) → ∀ w h' tk, Ext C.fs s.heap h' → VRep h' v.weak w → (fr = true → Fresh s.heap h' w) → Q w { s with heap := h', toks := tk }) →
    (∀ cls args, R (.exc cls args) → ∀ e h' tk, Exc C s.heap e cls args h' → E (.ref e) { s with heap := h', toks := tk }) →
    wpAny C.M C.A (eval e C.ev) Q E s

theorem SX.of {e : Expr} {v : V} {fr : Bool} {R : RO → Prop} (he : SE C Γ e v fr) (hr : R (.ret v fr)) : SX C Γ e R := fun s Q E S h _ => he s Q E S (h v fr hr)

theorem SX.call {x : Str} {px pos : Pos} {f : Addr} {es : List Expr} {ks : List Keyword} {vs kvs : List V} {R : RO → Prop} (O : C.Ok) (hx : C.ev.kindOf x = some .globalImplicit) (hv : C.Glob x (.ref f)) (hd : (x == ("__debug__" : Str)) = false)
    (hf : FnAt C.toGlo f) (hn : es.all (fun e => !isStar e) = true) (hk : ks.all (·.arg.isSome) = true) (hkn : ks.any (·.arg.isNone) = false) (he : SEs C Γ es vs) (hks : SKs C Γ ks kvs)
    (hs : Spec C.toGlo C.lvl f vs ((ks.filterMap (·.arg)).zip kvs) R) (hlen : (ks.filterMap (·.arg)).length = kvs.length) : SX C Γ (.Call (.Name x px) es ks pos) R := fun s Q E I h hE => by
  show wpAny C.M C.A (eval (.Name x px) C.ev >>= fun f => callWith pos f [] (backTo pos (starEach es C.ev)) (backToKw pos (keywordEach ks C.ev))) Q E s
  refine wpAny_bind (SE.glob (Γ := Γ) O.toOk0 hx hv hd s _ E I fun w h₀ t₀ x₀ r₀ _ => ?_)
  obtain rfl : w = .ref f := r₀
  obtain ⟨o, fd, ho, hdat⟩ := hf
  have I₀ := I.ext x₀
  refine callWith_ok (s := ⟨h₀, s.gens, s.drawn, t₀, s.os⟩) (noStars_of hn) hk hkn he hks I₀ (fun h' hb => looks_fn ho hdat hb) fun ws kw h₁ t₁ x₁ r₁ r₂ => ?_
  have I₁ := I₀.ext x₁
  refine wpAny_call ?_
  have key := hs C.A C.fs ⟨h₁, s.gens, s.drawn, t₁, s.os⟩ (fun r s' => match r with | .ok (.ret v) => Q v s' | .ok _ => False | .error e => E e s') ws kw O.frames O.handled O.room O.units O.guards I₁.base I₁.frames r₁
    (by rw [List.map_snd_zip (by omega)]; exact r₂) (by
      intro o ho'
      cases o with
      | ret v fr =>
        intro w h' tk x r f
        have x' := (x₀.trans x₁).trans x
        exact h v fr ho' w h' tk x' r fun q => (f q).back' I₁.frames (x₀.trans x₁)
      | exc cls args =>
        intro e h' tk fl
        obtain ⟨vs', t, a, b, c, d, g⟩ := fl
        have y : Exc C h₁ e cls args h' := ⟨vs', a, b, .inr (.inl ⟨t, c, d, g⟩)⟩
        exact hE cls args ho' e h' tk (y.weaken (x₀.trans x₁)))
  rw [List.map_fst_zip (by omega)] at key
  exact key

theorem BX1.retX {e : Expr} {pos : Pos} {R : RO → Prop} (h : SX C Γ e R) (hp : ∀ v fr, R (.ret v fr) → P (.ret v fr)) (hx : ∀ cls args, R (.exc cls args) → P (.exc cls args)) : BX1 C Γ (.Return (some e) pos) P := fun k s Q E S hP => by
  refine wpAny_Return_some (h s _ E S.inv (fun v fr hr w h' tk x r f => ?_) fun cls args hr e h' tk y => hP _ (hx cls args hr) e h' tk (y.weaken S.ext))
  exact hP _ (hp v fr hr) w h' tk (S.ext.trans x) (funFrames_slots x.slots S.frames) r fun q => ⟨(f q).back' S.frames S.ext, fun a e hm => by
    obtain ⟨_, o, ho, _⟩ := S.frames.mem hm
    rw [(f q a e).1] at ho; cases ho⟩

theorem BX1.assignX {i : Nat} {x : Str} {px pos : Pos} {e : Expr} {R : RO → Prop} (O : C.Ok) (he : SX C Γ e R) (hx : C.names[i]? = some x) (hl : isLocal C x) (hm : noMeth Γ i)
    (hs : swapsWith e (some (.Name x px)) pos.line C.ev = pure false) (hi : ∀ v fr, R (.ret v fr) → ∃ i, v = .im i) (h : ∀ v fr, R (.ret (.im v) fr) → P (.next (Γ.set i (some (.im v))))) (hE : ∀ cls args, R (.exc cls args) → P (.exc cls args)) : BX1 C Γ (.Assign [.Name x px] e pos) P := fun k s Q E S hP => by
  refine wpAny_Assign_Name (he s _ E S.inv (fun v fr hr w h' tk x' r f => ?_) fun cls args hr e h' tk y => hP _ (hE cls args hr) e h' tk (y.weaken S.ext)) hs
  obtain ⟨v, rfl⟩ := hi v fr hr
  have S' := S.ext' x'
  obtain ⟨Ws, V⟩ := S'.vars
  refine store0 (s := ⟨h', s.gens, s.drawn, tk, s.os⟩) O S'.toSt0 hl fun h₂ tk₂ S₂ rx ro st => ?_
  have hi : i < Γ.length := by rw [S.len]; exact (List.getElem?_eq_some_iff.mp hx).1
  refine hP _ (h v fr hr) h₂ tk₂ ⟨S₂, ⟨_, vars_set O V hx (fun j hj => get_set_ne hj) (get_set_self' hi) hm rx ro st r (fun q => by cases q) (fun l q => by cases q) (fun _ _ q => by cases q)⟩, by rw [List.length_set]; exact S.len⟩

/-- a value that is no object handed back -/
theorem BX1.reti {e : Expr} {pos : Pos} {i : I} {fr : Bool} (h : SE C Γ e (.im i) fr) (hn : ∀ v, i ≠ .raw v) (hp : P (.ret (.im i) true)) : BX1 C Γ (.Return (some e) pos) P := .ret (h.frim hn) hp

theorem SE.im {e : Expr} {v v' : V} {f : Bool} (he : SE C Γ e v f) (h : v = v') : SE C Γ e v' f := h ▸ he

/-- an old name bound to a value, whatever it held; a list's name to another list -/
theorem BX1.mono1 {P' : Out → Prop} {b : Stmt} (h : BX1 C Γ b P) (hp : ∀ o, P o → P' o) : BX1 C Γ b P' := h.mono hp

/-- names that are wanted no more -/
theorem St.forget {k h : Heap} {Γ' : Gam} (S : St C k Γ h) (hl : Γ'.length = Γ.length) (hf : ∀ (i : Nat) (v : V), Γ'[i]? = some (some v) → Γ[i]? = some (some v)) : St C k Γ' h :=
  ⟨S.toSt0, let ⟨Ws, X⟩ := S.vars; ⟨Ws, fun i x v hx hv => X.reads i x v hx (hf i v hv), fun i l hi => by
    obtain ⟨a, h1, h2, h3, h4⟩ := X.own i l (hf i _ hi)
    exact ⟨a, h1, h2, h3, fun j v ne hv il => h4 j v ne (hf j v hv) il⟩, fun i id j hm => X.meth i id j (hf i _ hm)⟩, by rw [hl]; exact S.len⟩
theorem BX.forget {Γ' : Gam} {b : List Stmt} (h : BX C Γ' b P) (hl : Γ'.length = Γ.length) (hf : ∀ (i : Nat) (v : V), Γ'[i]? = some (some v) → Γ[i]? = some (some v)) : BX C Γ b P := fun k s Q E S hP => h k s Q E (S.forget hl hf) hP
end
end Mine
end
section
set_option maxRecDepth 100000
set_option linter.unusedVariables false
namespace Mine

noncomputable def unI : Value → I
  | .none => .none
  | .bool b => .bool b
  | .int i _ => .int i
  | .str x _ => .str x
  | .bytes b _ => .bytes b.toList
  | v => .raw v
theorem unI_of {i : I} {v : Value} (r : IRep i v) (hn : ∀ v, i ≠ .raw v) : unI v = i := by
  cases i with
  | none => obtain rfl := r; rfl
  | bool b => obtain rfl := r; rfl
  | int i => obtain ⟨t, rfl⟩ := r; rfl
  | str i => obtain ⟨t, rfl⟩ := r; rfl
  | bytes i => obtain ⟨t, rfl⟩ := r; rfl
  | raw v => exact absurd rfl (hn v)

@[reducible] noncomputable def compC (C : Ctx) (scope : Scope) (cl : List (Str × Addr)) (L : Addr) (names : List Str) : Ctx :=
  { toGlo := C.toGlo, A := C.A, ev := compEnvC scope cl L C.ev, fs := [], names := names, lvl := C.lvl }

/-- a comprehension's tests -/
inductive STs (C : Ctx) (Γ : Gam) : List Expr → Bool → Prop
  | nil : STs C Γ [] true
  | one {c b} : ST C Γ c b → STs C Γ [c] b

theorem compC_ok {C : Ctx} (O : C.Ok0) {scope : Scope} {cl : List (Str × Addr)} {L : Addr} {names : List Str} (hk : scope.kind = .function) : (compC C scope cl L names).Ok0 where
  glo := O.glo
  kind := hk
  globals := O.globals
  builtins := O.builtins

section
variable {C : Ctx} {Γ : Gam} {P : Out → Prop}

/-- what a comprehension takes from outside -/
structure Caps (C : Ctx) (Γ : Gam) (scope : Scope) (cl : List (Str × Addr)) (caps : List Str) (vs : List V) : Prop where
  cap : ∀ (j : Nat) (y : Str) (v : V), caps[j]? = some y → vs[j]? = some v → ∃ i : Nat, C.names[i]? = some y ∧ Γ[i]? = some (some v) ∧ C.ev.kindOf y = some .cell ∧ (∀ L, (compEnvC scope cl L C.ev).kindOf y = some .cell) ∧ cl.lookup y = C.ev.cells.lookup y ∧ v.weak = v

theorem Caps.none {scope : Scope} {cl : List (Str × Addr)} : Caps C Γ scope cl [] [] := ⟨fun j y v h => by simp at h⟩

theorem quiet_inv {scope : Scope} {cl : List (Str × Addr)} {caps : List Str} {vs : List V} {x : Str} {L J : Addr} {h h₁ h₃ : Heap} {v : Value} {i : I} {m : Str → Option Value} (I0 : Inv C Γ h) (K : Caps C Γ scope cl caps vs) (x₁ : Ext C.fs h h₁) (hJ : h.get? J = none)
    (hJ1 : ∃ o ws, h₁.get? J = some o ∧ o.data = .fields ws) (hxl : ∀ L, (compEnvC scope cl L C.ev).kindOf x = some .local)
    (hk : ∀ b o, b ≠ J → h₁.get? b = some o → h₃.get? b = some o) (hn : h₃.Ns L m) (hm : m x = some v) (r : IRep i v) : Inv (compC C scope cl L (x :: caps)) (some (.im i) :: vs.map some) h₃ where
  base := fun b o e => hk b o (fun z => by
    have := I0.base b o e
    rw [z, hJ] at this; cases this) ((I0.ext x₁).base b o e)
  frames := trivial
  vars := fun j y u hy hu => by
    have sl : h₁.UpToSlots h₃ := fun b o e nf => ⟨o.slots, hk b o (fun z => by
      obtain ⟨oJ, ws, e1, e2⟩ := hJ1
      rw [z, e1] at e; cases e; exact nf _ e2) e⟩
    cases j with
    | zero =>
      simp at hy hu
      subst hy; subst hu
      exact ⟨v, .inl ⟨hxl L, m, hn, hm⟩, r⟩
    | succ j =>
      simp at hy hu
      obtain ⟨i', h1, h2, h3, h4, h5, h6⟩ := K.cap j y u hy hu
      obtain ⟨w, rw', q⟩ := I0.vars i' y u h1 h2
      rcases rw' with ⟨z, _⟩ | ⟨_, c, hc, hcell⟩
      · rw [h3] at z; cases z
      · refine ⟨w, .inr ⟨h4 L, c, ?_, isCell_slots sl (isCell_slots x₁.slots hcell)⟩, (q.ext x₁).slots sl⟩
        show cl.lookup y = some c
        rw [h5, hc]
  owns := fun j y l hy hu => by
    cases j with
    | zero => simp at hu
    | succ j =>
      simp at hy hu
      obtain ⟨_, _, _, _, _, _, h6⟩ := K.cap j y _ hy hu
      cases h6

theorem paired_of {l : List I} {vs : List Value} {ys : List Value} {pt : I → Bool} {F : I → I} (h : All2 IRep l vs) (hn : ∀ i ∈ l, ∀ v, i ≠ .raw v) (hp : Paired (fun v y => IRep (F (unI v)) y) (vs.filter fun v => pt (unI v)) ys) : All2 IRep ((l.filter pt).map F) ys := by
  induction h generalizing ys with
  | nil => simp at hp; cases hp; exact .nil
  | cons a r ih =>
    rename_i i v l vs
    have e := unI_of a (hn i (by simp))
    rw [List.filter_cons] at hp ⊢
    rw [e] at hp
    by_cases q : pt i = true
    · rw [if_pos q] at hp ⊢
      cases hp with
      | cons b hp =>
        rw [e] at b
        exact .cons b (ih (fun i hi => hn i (by simp [hi])) hp)
    · rw [if_neg q] at hp ⊢
      exact ih (fun i hi => hn i (by simp [hi])) hp

theorem quiet_on {scope : Scope} {cl : List (Str × Addr)} {caps : List Str} {vs : List V} {x : Str} {ifs : List Expr} {elt : Expr} {items : List I} {pt : I → Bool} {F : I → I} {f : Bool} {J : Addr} {h h₁ : Heap} {s₂ : Shared} (I0 : Inv C Γ h) (K : Caps C Γ scope cl caps vs) (x₁ : Ext C.fs h h₁) (hJ : h.get? J = none)
    (hJ1 : ∃ o ws, h₁.get? J = some o ∧ o.data = .fields ws) (hs₂ : s₂.heap = h₁) (hxl : ∀ L, (compEnvC scope cl L C.ev).kindOf x = some .local) (hn : ∀ i ∈ items, ∀ v, i ≠ .raw v)
    (htest : ∀ L v, v ∈ items → STs (compC C scope cl L (x :: caps)) (some (.im v) :: vs.map some) ifs (pt v))
    (helt : ∀ L v, v ∈ items → pt v = true → SE (compC C scope cl L (x :: caps)) (some (.im v) :: vs.map some) elt (.im (F v)) f) :
    QuietOnC C.prog C.w C.A C.ev scope cl x ifs elt [J] (fun i v => ∃ x, items[i]? = some x ∧ IRep x v) (fun v => pt (unI v)) (fun v y => IRep (F (unI v)) y) s₂ where
  tests := fun L i v s₃ m₃ E' _ hv hns hm hk _ => by
    obtain ⟨it, hi, r⟩ := hv
    have hmem := List.mem_of_getElem? hi
    rw [unI_of r (hn it hmem)]
    have I₃ : Inv (compC C scope cl L (x :: caps)) (some (.im it) :: vs.map some) s₃.heap := quiet_inv I0 K x₁ hJ hJ1 hxl (fun b o nb e => hk b o (by simpa using nb) (hs₂ ▸ e)) hns hm r
    have ht := htest L it hmem
    revert ht
    generalize pt it = b
    intro ht
    cases ht with
    | nil => rw [List.forIn_nil]; exact wpAny_pure ⟨rfl, s₃.heap, s₃.toks, rfl, fun _ _ e => e⟩
    | one hc =>
      rw [List.forIn_cons]
      rw [if_pos rfl]
      refine wpAny_bind (wpAny_bind (hc s₃ _ E' I₃ fun h' tk xx => wpAny_pure ?_))
      dsimp only
      rw [List.forIn_nil]
      exact wpAny_pure ⟨rfl, h', tk, rfl, fun b o e => xx.keep b o (by simp [fa]) e⟩
  elt := fun L i v s₃ m₃ E' _ hv hp hns hm hk _ => by
    obtain ⟨it, hi, r⟩ := hv
    have hmem := List.mem_of_getElem? hi
    have e := unI_of r (hn it hmem)
    rw [e] at hp ⊢
    have I₃ : Inv (compC C scope cl L (x :: caps)) (some (.im it) :: vs.map some) s₃.heap := quiet_inv I0 K x₁ hJ hJ1 hxl (fun b o nb e => hk b o (by simpa using nb) (hs₂ ▸ e)) hns hm r
    exact helt L it hmem hp s₃ _ E' I₃ fun w h' tk xx rr _ => ⟨rr, h', tk, rfl, fun b o e => xx.keep b o (by simp [fa]) e⟩

theorem SE.comp {elt iter : Expr} {x : Str} {px pos : Pos} {ifs : List Expr} {scope : Scope} {cl : List (Str × Addr)} {items : List I} {D : Heap → Heap → Addr → Prop} {pt : I → Bool} {F : I → I} {f : Bool} {caps : List Str} {vs : List V}
    (hclos : closureFor scope C.ev = pure cl) (hcell : ∀ y ∈ scope.names, y.2 ≠ .cell) (hkind : scope.kind = .function) (hnames : ∀ y ∈ scope.names, y.2 = .local → scope.names.lookup y.1 = some .local) (hx : scope.names.lookup x = some .local)
    (hit : IG C Γ iter items D) (hs : ∀ x, foldedSetIterable iter C.ev x = pure x) (K : Caps C Γ scope cl caps vs) (hn : ∀ i ∈ items, ∀ v, i ≠ .raw v) (hz : items.length ≤ 16777216)
    (htest : ∀ L v, v ∈ items → STs (compC C scope cl L (x :: caps)) (some (.im v) :: vs.map some) ifs (pt v))
    (helt : ∀ L v, v ∈ items → pt v = true → SE (compC C scope cl L (x :: caps)) (some (.im v) :: vs.map some) elt (.im (F v)) f) :
    SE C Γ (.ListComp elt [⟨.Name x px, iter, ifs, 0⟩] scope pos) (.list ((items.filter pt).map F)) true := fun s Q E S h => by
  refine wpAny_ListComp_free (p := fun v => pt (unI v)) (F := fun v y => IRep (F (unI v)) y) hclos hcell hkind hnames hx ?_ hs
  refine hit s _ E S fun J fp T h₁ t₁ x₁ W T₀ hJ hT hst hfp => ?_
  obtain ⟨oJ, ws, eJ, dJ, _⟩ := hT 0 h₁ T₀
  refine ⟨J, fp, [J], _, _, T, rfl, W, by rw [sizeLine_eq]; exact hz, T₀, fun b hb => ?_, quiet_on S K x₁ hJ ⟨oJ, ws, eJ, dJ⟩ rfl (fun L => lookup_relabel_local hx) hn htest helt, fun D' h' tk ys us hD hl hpl hlen hP hF hk => ?_⟩
  · by_cases e : b = J
    · subst e; exact Heap.lt_size eJ
    · obtain ⟨⟨o, its, n, ho, _⟩, _⟩ := hfp b hb e
      exact Heap.lt_size ho
  · have xx : Ext C.fs s.heap h' := ⟨fun b o nb e => hk b o (fun z => by rw [List.mem_singleton.mp z, hJ] at e; cases e) (x₁.keep b o nb e), fun b o e nf => by
      obtain ⟨sl, q⟩ := x₁.slots b o e nf
      exact ⟨sl, hk b _ (fun z => by rw [List.mem_singleton.mp z, hJ] at e; cases e) q⟩⟩
    obtain ⟨n, hpl'⟩ := hpl
    refine h _ h' tk xx ⟨D', ys.toList, rfl, by simpa using hl, paired_of (all2_of_get hlen hP) hn hF⟩ fun _ a e => ?_
    cases e
    exact ⟨(gone x₁ (S.ext x₁).frames hD).1, ys, n, hpl'⟩

theorem St.hide {k h : Heap} {J : Addr} {o : Obj} {ws : Array Value} (S : St C k Γ h) (e : h.get? J = some o) (hd : o.data = .fields ws) (hc : o.cls ≠ .type "builtin_function_or_method") (hk : k.get? J = none) : St C k Γ (hideAll h [J]) :=
  S.touch e hd hc hk fun b o nb e => hideAll_get _ e (by simpa using nb)

/-- a name stored by another's hand -/
theorem store_fw {k h h' : Heap} {y : Str} {w : Value} {m : Str → Option Value} (O : C.Ok) (S : St0 C k h) (hn : h.Ns C.ev.locals m) (hn' : h'.Ns C.ev.locals (fun z => if z = y then some w else m z)) (hy : C.ev.kindOf y = some .local) (hk : ∀ b o, b ≠ C.ev.locals → h.get? b = some o → h'.get? b = some o) :
    St0 C k h' ∧ Reads C.ev h' y w ∧ (∀ z u, z ≠ y → Reads C.ev h z u → Reads C.ev h' z u) ∧ (∀ b o, Still o → h.get? b = some o → h'.get? b = some o) := by
  obtain ⟨m', hm', hkL, hLf⟩ := S.loc
  have dictL : ∀ o, h.get? C.ev.locals = some o → ∃ es ep, o.data = .dict es ep := fun o e => by
    obtain ⟨o', es, ep, ho', hd', _⟩ := hn
    rw [e] at ho'; cases ho'
    exact ⟨es, ep, hd'⟩
  have off : ∀ b o, h.get? b = some o → (∀ es ep, o.data ≠ .dict es ep) → h'.get? b = some o := fun b o e nd => hk b o (fun z => by
    obtain ⟨es, ep, q⟩ := dictL o (z ▸ e)
    exact nd es ep q) e
  refine ⟨⟨S.baseK, ⟨fun b o nb e => hk b o (fun z => nb (z ▸ hLf)) (S.ext.keep b o nb e), fun b o e nf => ?_⟩, ?_, ⟨_, hn', hkL, hLf⟩, fun z hz => ?_⟩, .inl ⟨hy, _, hn', if_pos rfl⟩, fun z u nz r => ?_, fun b o st e => off b o e fun es ep q => ?_⟩
  · obtain ⟨sl, q⟩ := S.ext.slots b o e nf
    exact ⟨sl, hk b _ (fun z => by rw [z, hkL] at e; cases e) q⟩
  · exact frames_fw S.frames hk (by
      obtain ⟨o, es, ep, ho, hd, _⟩ := hn'
      exact ⟨o, ho, fun vs q => by rw [hd] at q; cases q⟩)
  · obtain ⟨c, v, a, ⟨o, ho, hd⟩, d⟩ := S.cells z hz
    exact ⟨c, v, a, ⟨o, off c o ho (fun es ep q => by rw [hd] at q; cases q), hd⟩, d⟩
  · rcases r with ⟨q, m₂, hm₂, hu⟩ | ⟨q, c, hc, o, ho, hd⟩
    · refine .inl ⟨q, _, hn', ?_⟩
      rw [if_neg nz]
      obtain ⟨o, es, ep, ho, hd, _, hf⟩ := hn
      obtain ⟨o', es', ep', ho', hd', _, hf'⟩ := hm₂
      rw [ho] at ho'; cases ho'
      rw [hd] at hd'; cases hd'
      rw [← hf, hf', hu]
    · exact .inr ⟨q, c, hc, o, off c o ho (fun es ep q => by rw [hd] at q; cases q), hd⟩
  · rcases st with ⟨_, _, q'⟩ | ⟨_, q'⟩ <;> (rw [q] at q'; cases q')
where frames_fw {b0 h h' : Heap} {L : Addr} : ∀ {fs : List Env}, h.FunFrames b0 fs → (∀ b o, b ≠ L → h.get? b = some o → h'.get? b = some o) → (∃ o, h'.get? L = some o ∧ ∀ vs, o.data ≠ .fields vs) → h'.FunFrames b0 fs
  | [], _, _, _ => trivial
  | env :: fs, ⟨hk, ⟨L₁, o, hf, hn, ho, hd⟩, hr⟩, hs, hL => by
    refine ⟨hk, ?_, frames_fw hr hs hL⟩
    by_cases e : L₁ = L
    · subst e
      obtain ⟨o', ho', hd'⟩ := hL
      exact ⟨L₁, o', hf, hn, ho', hd'⟩
    · exact ⟨L₁, o, hf, hn, hs L₁ o e ho, hd⟩

theorem BX1.assign_comp {elt iter : Expr} {x y : Str} {px py pos spos : Pos} {ifs : List Expr} {scope : Scope} {cl : List (Str × Addr)} {items : List I} {D : Heap → Heap → Addr → Prop} {pt : I → Bool} {F : I → I} {f : Bool} {caps : List Str} {vs : List V} {i : Nat} (O : C.Ok)
    (hsw : swapsWith (.ListComp elt [⟨.Name x px, iter, ifs, 0⟩] scope pos) (some (.Name y py)) spos.line C.ev = pure true)
    (hclos : closureFor scope C.ev = pure cl) (hcell : ∀ y ∈ scope.names, y.2 ≠ .cell) (hkind : scope.kind = .function) (hnames : ∀ y ∈ scope.names, y.2 = .local → scope.names.lookup y.1 = some .local) (hx : scope.names.lookup x = some .local)
    (hit : IG C Γ iter items D) (hs : ∀ x, foldedSetIterable iter C.ev x = pure x) (K : Caps C Γ scope cl caps vs) (hn : ∀ i ∈ items, ∀ v, i ≠ .raw v) (hz : items.length ≤ 16777216)
    (htest : ∀ L v, v ∈ items → STs (compC C scope cl L (x :: caps)) (some (.im v) :: vs.map some) ifs (pt v))
    (helt : ∀ L v, v ∈ items → pt v = true → SE (compC C scope cl L (x :: caps)) (some (.im v) :: vs.map some) elt (.im (F v)) f)
    (hy : C.names[i]? = some y) (hl : C.ev.kindOf y = some .local) (hm : noMeth Γ i) (h : P (.next (Γ.set i (some (.own ((items.filter pt).map F)))))) :
    BX1 C Γ (.Assign [.Name y py] (.ListComp elt [⟨.Name x px, iter, ifs, 0⟩] scope pos) spos) P := fun k s Q E S hP => by
  refine wpAny_Assign_ListComp_free (p := fun v => pt (unI v)) (F := fun v y => IRep (F (unI v)) y) hsw hclos hcell hkind hnames hx hl (by rw [O.kind]; rfl) ?_ hs
  refine hit s _ E S.inv fun J fp T h₁ t₁ x₁ W T₀ hJ hT hst hfp => ?_
  obtain ⟨oJ, ws, eJ, dJ, cJ⟩ := hT 0 h₁ T₀
  have S₁ := S.ext' x₁
  have kJ : k.get? J = none := (gone S.ext S.frames hJ).1
  obtain ⟨Ws, X₀⟩ := S.vars
  have S₂ := S₁.hide eJ dJ cJ kJ
  obtain ⟨m, hns, hkL, hLf⟩ := S₁.loc
  refine ⟨J, fp, [J], _, _, T, m, rfl, W, by rw [sizeLine_eq]; exact hz, T₀, fun b hb => ?_, ?_, hns, quiet_on S.inv K x₁ hJ ⟨oJ, ws, eJ, dJ⟩ rfl (fun L => lookup_relabel_local hx) hn htest helt, fun D' h' tk ys us hD hl' hpl hlen hP' hF hns' hk => ?_⟩
  · by_cases e : b = J
    · subst e; exact Heap.lt_size eJ
    · obtain ⟨⟨o, its, n, ho, _⟩, _⟩ := hfp b hb e
      exact Heap.lt_size ho
  · intro hmem
    obtain ⟨o, es, ep, ho, hd, _⟩ := hns
    rw [List.mem_singleton.mp hmem] at ho
    rw [eJ] at ho; cases ho
    rw [dJ] at hd; cases hd
  · have nLJ : C.ev.locals ≠ J := fun z => by
      obtain ⟨o, es, ep, ho, hd, _⟩ := hns
      rw [z, eJ] at ho; cases ho
      rw [dJ] at hd; cases hd
    have hnsH : (hideAll h₁ [J]).Ns C.ev.locals m := by
      obtain ⟨o, es, ep, ho, r⟩ := hns
      exact ⟨o, es, ep, hideAll_get _ ho (by simpa using nLJ), r⟩
    obtain ⟨n, hpl'⟩ := hpl
    have hback : ∀ b o, (hideAll h₁ [J]).get? b = some o → b ≠ J ∧ h₁.get? b = some o := fun b o e => by
      refine ⟨fun z => ?_, of_hideAll _ e⟩
      have q : (hideAll h₁ [J]).get? J = none := hideAll_none _ (.head _)
      rw [z, q] at e
      cases e
    obtain ⟨S₃, rx, ro, st⟩ := store_fw (y := y) (w := .ref D') O S₂.toSt0 hnsH hns' hl fun b o nb e => hk b o nb (by simpa using (hback b o e).1) (hback b o e).2
    obtain ⟨Ws₂, X₂⟩ := S₂.vars
    have hD₂ : (hideAll h₁ [J]).get? D' = none := by
      cases q : (hideAll h₁ [J]).get? D' with
      | none => rfl
      | some o =>
        have q2 := (hback D' o q).2
        have q3 : h₁.get? D' = none := hD
        rw [q3] at q2; cases q2
    have hi : i < Γ.length := by rw [S.len]; exact (List.getElem?_eq_some_iff.mp hy).1
    have hr : All2 IRep ((items.filter pt).map F) ys.toList := paired_of (all2_of_get hlen hP') hn hF
    obtain ⟨hkD, hDf⟩ := gone S₁.ext S₁.frames hD
    -- the new list stands in h'
    have own : Vars C k (Γ.set i (some (.own ((items.filter pt).map F)))) h' (upW Ws₂ i (.ref D')) := by
      have base := vars_set (Γ' := Γ.set i (some (.im (.raw (.ref D'))))) (v := .im (.raw (.ref D'))) O X₂ hy (fun j' hj' => get_set_ne hj') (get_set_self' hi) hm rx ro st rfl (fun q => by cases q) (fun l q => by cases q) (fun _ _ q => by cases q)
      have nh : ∀ (j : Nat) (u : V), j ≠ i → Γ[j]? = some (some u) → u.isList = true → Ws₂ j ≠ .ref D' := fun j u _ hu il => not_held X₂ S₂.len hD₂ j u hu il
      refine ⟨fun j z u hz hu => ?_, fun j l hj => ?_, fun j id j' hj => ?_⟩
      · by_cases e : j = i
        · subst e
          have := get_set_self hu
          cases this
          rw [hy] at hz; cases hz
          rw [upW, if_pos rfl]
          exact ⟨rx, D', ys.toList, n, rfl, by simpa using hpl', hr⟩
        · rw [get_set_ne e] at hu
          exact base.reads j z u hz (by rw [get_set_ne e]; exact hu)
      · by_cases e : j = i
        · subst e
          refine ⟨D', by rw [upW, if_pos rfl], hkD, hDf, fun j' u ne hu il => ?_⟩
          rw [get_set_ne ne] at hu
          rw [upW, if_neg ne]
          exact nh j' u ne hu il
        · rw [get_set_ne e] at hj
          obtain ⟨a, h1, h2, h3, h4⟩ := base.own j l (by rw [get_set_ne e]; exact hj)
          refine ⟨a, h1, h2, h3, fun j' u ne hu il => ?_⟩
          by_cases e' : j' = i
          · subst e'
            rw [upW, if_pos rfl]
            rw [upW, if_neg e] at h1
            intro z
            cases z
            exact nh j _ e hj rfl h1
          · rw [get_set_ne e'] at hu
            exact h4 j' u ne (by rw [get_set_ne e']; exact hu) il
      · by_cases e : j = i
        · subst e
          have := get_set_self hj
          cases this
        · rw [get_set_ne e] at hj
          exact base.meth j id j' (by rw [get_set_ne e]; exact hj)
    exact hP _ h h' tk ⟨S₃, ⟨_, own⟩, by rw [List.length_set]; exact S.len⟩
end
end Mine
end
section
set_option maxRecDepth 100000
set_option linter.unusedVariables false
namespace Mine

theorem cellsFrom_acc {x : Str} : ∀ {names : List (Str × NameKind)} {n : Nat} {acc : List (Str × Addr)}, (acc.lookup x).isSome = true → ((cellsFrom n names acc).lookup x).isSome = true
  | [], _, _, h => h
  | (y, q) :: r, n, acc, h => by
    unfold cellsFrom
    split
    · refine cellsFrom_acc ?_
      rw [List.lookup_cons]
      split
      · rfl
      · exact h
    · exact cellsFrom_acc h
theorem cellsFrom_some {x : Str} : ∀ {names : List (Str × NameKind)} {n : Nat} {acc : List (Str × Addr)}, (x, NameKind.cell) ∈ names → ((cellsFrom n names acc).lookup x).isSome = true
  | (y, q) :: r, n, acc, h => by
    unfold cellsFrom
    rcases List.mem_cons.mp h with e | h
    · cases e
      rw [if_pos (by decide)]
      refine cellsFrom_acc ?_
      simp
    · split
      · exact cellsFrom_some h
      · exact cellsFrom_some h

theorem bindL_skip {kindOf : Str → Option NameKind} {x : Str} : ∀ {ps : List Str} {ws : List Value} {m : Str → Option Value}, x ∉ ps → bindL kindOf (ps.zip ws) m x = m x
  | [], _, _, _ => rfl
  | p :: ps, [], _, _ => rfl
  | p :: ps, w :: ws, m, h => by
    show bindL kindOf (ps.zip ws) _ x = m x
    rw [bindL_skip (fun q => h (.tail _ q))]
    split
    · exact if_neg (show ¬ x = p from fun e => h (by rw [e]; exact .head _))
    · rfl
theorem bindC_skip {kindOf : Str → Option NameKind} {x : Str} : ∀ {ps : List Str} {ws : List Value} {m : Str → Option Value}, x ∉ ps → bindC kindOf (ps.zip ws) m x = m x
  | [], _, _, _ => rfl
  | p :: ps, [], _, _ => rfl
  | p :: ps, w :: ws, m, h => by
    show bindC kindOf (ps.zip ws) _ x = m x
    rw [bindC_skip (fun q => h (.tail _ q))]
    split
    · rfl
    · exact if_neg (show ¬ x = p from fun e => h (by rw [e]; exact .head _))
theorem bindL_at {kindOf : Str → Option NameKind} {x : Str} {w : Value} (hk : kindOf x = some .local) : ∀ {ps : List Str} {ws : List Value} {m : Str → Option Value} {i : Nat}, ps.Nodup → ps[i]? = some x → ws[i]? = some w → bindL kindOf (ps.zip ws) m x = some w
  | p :: ps, v :: ws, m, 0, hn, h1, h2 => by
    simp at h1 h2
    subst h1; subst h2
    show bindL kindOf (ps.zip ws) _ p = _
    rw [bindL_skip (List.nodup_cons.mp hn).1, if_pos hk]
    simp
  | p :: ps, v :: ws, m, i + 1, hn, h1, h2 => by
    simp at h1 h2
    exact bindL_at (ps := ps) (ws := ws) (i := i) hk (List.nodup_cons.mp hn).2 h1 h2
  | [], _, _, _, _, h1, _ => by simp at h1
  | _ :: _, [], _, _, _, _, h2 => by simp at h2
theorem bindC_at {kindOf : Str → Option NameKind} {x : Str} {w : Value} (hk : kindOf x ≠ some .local) : ∀ {ps : List Str} {ws : List Value} {m : Str → Option Value} {i : Nat}, ps.Nodup → ps[i]? = some x → ws[i]? = some w → bindC kindOf (ps.zip ws) m x = some w
  | p :: ps, v :: ws, m, 0, hn, h1, h2 => by
    simp at h1 h2
    subst h1; subst h2
    show bindC kindOf (ps.zip ws) _ p = _
    rw [bindC_skip (List.nodup_cons.mp hn).1, if_neg hk]
    simp
  | p :: ps, v :: ws, m, i + 1, hn, h1, h2 => by
    simp at h1 h2
    exact bindC_at (ps := ps) (ws := ws) (i := i) hk (List.nodup_cons.mp hn).2 h1 h2
  | [], _, _, _, _, h1, _ => by simp at h1
  | _ :: _, [], _, _, _, _, h2 => by simp at h2

section
variable {G : Glo}

theorem Spec.of_cells {lvl : Nat} {f : Addr} {fd : FuncData} {body : List Stmt} {ps names : List Str} {vs : List V} {P : RO → Prop} (GO : G.Ok) (F : FnOk G f fd body ps names)
    (hlen : ps.length = vs.length) (hnm : noMeths vs) (hbind : ∀ ws : List Value, ws.length = ps.length → bindArgs fd ⟨ws, []⟩ = pure (ps.zip ws))
    (hbody : ∀ (A : Around) (fs : List Env) (L : Addr), (mkC G A fs (callEnvC fd L f) names lvl).Ok → BX (mkC G A fs (callEnvC fd L f) names lvl) (gam0 vs names.length) body (Outs P)) :
    Spec G (lvl + 1) f vs [] P := fun A fs s R ws kw hA hh hroom hunits hgu hbase hfr hvs hkw hP => by
  obtain ⟨o, ho, hd⟩ := F.obj
  have hl' : ws.length = ps.length := by rw [hlen, hvs.length]
  cases hkw
  show codeAny (model G.prog G.w) A (.call (.ref f) ⟨ws, []⟩) R s
  refine codeAny_call_cells (body := body) (binds := ps.zip ws) (by lia) (hbase _ _ ho) hd (GO.lim.keeps hbase) (F.code.keeps hbase) F.body (hbind ws hl') F.closure (fun x hx => ?_) (fun s₁ X => ?_) F.co F.gen F.kind
  · rcases F.loc x.1 (List.of_mem_zip hx).1 with q | q
    · exact .inl q
    · exact .inr ⟨q, cellsFrom_some (mem_of_lookup q)⟩
  obtain ⟨more, hmore⟩ := F.pre
  have hnd : ps.Nodup := by have := F.nodup; rw [hmore] at this; exact (List.nodup_append.mp this).1
  have evf : (callEnvC fd s.heap.objs.size f).frame = some s.heap.objs.size := rfl
  have evl : (callEnvC fd s.heap.objs.size f).locals = s.heap.objs.size := rfl
  have evs : (callEnvC fd s.heap.objs.size f).scope = fd.scope := rfl
  have kL : s.heap.get? s.heap.objs.size = none := Heap.get?_none_of_le (Nat.le_refl _)
  obtain ⟨h₁, tk, rfl⟩ := X.toInCall.same
  have hk : ∀ b o, s.heap.get? b = some o → h₁.get? b = some o := X.toInCall.keep
  have hns : h₁.Ns s.heap.objs.size (bindL (callEnvC fd s.heap.objs.size f).kindOf (ps.zip ws) fun _ => none) := X.toInCall.ns
  have OK : (mkC G A fs (callEnvC fd s.heap.objs.size f) names lvl).Ok := {
    glo := GO
    frames := Around.frames_deeper hA
    handled := hh
    kind := F.kind
    globals := F.globals
    builtins := F.builtins
    room := by show A.depth + 1 + lvl < _; lia
    units := by show A.units + 3 + 10 * lvl + 1000 < _; lia
    guards := hgu
    cellsInj := fun x y c hc hc' => name_of_addr X.apart (PySem.mem_of_lookup hc) (PySem.mem_of_lookup hc')
    nodup := F.nodup }
  refine hbody A fs s.heap.objs.size OK s.heap ⟨h₁, s.gens, s.drawn, tk, s.os⟩ _ _ ⟨⟨hbase, .of_keeps hk, ?_, ⟨_, hns, kL, ?_⟩, ?_⟩, ⟨fun i => ws.getD i .none, ?_, ?_, ?_⟩, ?_⟩ ?_
  · refine .cons (by rw [evs, F.kind]; decide) evf hns ?_ (hfr.of_keeps fun b o e _ => ⟨o, hk b o e, rfl⟩)
    cases q : G.b0.get? s.heap.objs.size with
    | none => rfl
    | some o => rw [hbase _ _ q] at kL; cases kL
  · show s.heap.objs.size ∈ fa (callEnvC fd s.heap.objs.size f :: fs)
    simp [fa, evf]
  · intro x hx
    have hx' : fd.scope.names.lookup x = some .cell := hx
    obtain ⟨c, hc⟩ := Option.isSome_iff_exists.mp (cellsFrom_some (n := s.heap.objs.size + 1) (acc := []) (mem_of_lookup hx'))
    have hab : s.heap.objs.size < c := X.above x c (PySem.mem_of_lookup hc)
    refine ⟨c, _, hc, X.cell x c hc, Heap.get?_none_of_le (Nat.le_of_lt hab), fun hm => ?_⟩
    simp only [fa, List.filterMap_cons, evf] at hm
    rcases List.mem_cons.mp hm with q | q
    · exact Nat.lt_irrefl _ (q ▸ hab)
    · obtain ⟨_, o', ho', _⟩ := hfr.mem q
      exact Nat.lt_irrefl _ (Nat.lt_trans hab (Heap.lt_size ho'))
  · intro i x v hx hv
    have hi : i < vs.length := by
      rcases Nat.lt_or_ge i vs.length with q | q
      · exact q
      · exfalso
        rw [gam0, List.getElem?_append_right (by simpa using q)] at hv
        rw [List.getElem?_replicate] at hv
        split at hv <;> cases hv
    rw [gam0, List.getElem?_append_left (by simpa using hi), List.getElem?_map] at hv
    have hv' : vs[i]? = some vs[i] := by simp [hi]
    rw [hv'] at hv
    simp only [Option.map_some, Option.some.injEq] at hv
    obtain ⟨w, hw, r⟩ := hvs.get hv'
    have hpx : ps[i]? = some x := by
      have : names[i]? = some x := hx
      rw [hmore, List.getElem?_append_left (by lia)] at this
      exact this
    rw [List.getD_eq_getElem?_getD, hw]
    refine ⟨?_, ?_⟩
    · rcases F.loc x (List.mem_of_getElem? hpx) with q | q
      · exact .inl ⟨q, _, hns, bindL_at (kindOf := (callEnvC fd s.heap.objs.size f).kindOf) q hnd hpx hw⟩
      · obtain ⟨c, hc⟩ := Option.isSome_iff_exists.mp (cellsFrom_some (n := s.heap.objs.size + 1) (acc := []) (mem_of_lookup q))
        refine .inr ⟨q, c, hc, ?_⟩
        have := X.cell x c hc
        rw [bindC_at (kindOf := (callEnvC fd s.heap.objs.size f).kindOf) (fun z => by
          have z' : fd.scope.names.lookup x = some .local := z
          rw [q] at z'; cases z') hnd hpx hw] at this
        exact this
    · rw [← hv]
      show VRep h₁ vs[i].weak w
      exact VRep.ext r (Ext.of_keeps (fs := []) hk)
  · intro i l hi
    exfalso
    rw [gam0] at hi
    rcases List.mem_append.mp (List.mem_of_getElem? hi) with q | q
    · obtain ⟨v, _, e⟩ := List.mem_map.mp q
      cases v <;> simp [V.weak] at e
    · have := List.eq_of_mem_replicate q; cases this
  · intro i id j hi
    exfalso
    rw [gam0] at hi
    rcases List.mem_append.mp (List.mem_of_getElem? hi) with q | q
    · obtain ⟨v, hv, e⟩ := List.mem_map.mp q
      cases v <;> simp [V.weak] at e
      exact hnm _ hv _ _ rfl
    · have := List.eq_of_mem_replicate q; cases this
  · show (gam0 vs names.length).length = names.length
    rw [gam0, List.length_append, List.length_map, List.length_replicate, hmore, List.length_append]
    lia
  · intro o ho
    cases o with
    | next Γ =>
      intro h' tk S
      have := hP _ ho .none h' tk
      refine this ⟨fun b o nb e => S.ext.keep b o (fun hm => ?_) e, S.ext.slots⟩ rfl fun _ a e => by cases e
      simp only [fa, List.filterMap_cons, evf] at hm
      rcases List.mem_cons.mp hm with q | q
      · rw [q, kL] at e; cases e
      · exact nb q
    | cont Γ => exact ho.elim
    | brk Γ => exact ho.elim
    | ret v fr =>
      intro w h' tk x _ r f
      refine hP _ ho w h' tk ⟨fun b o nb e => x.keep b o (fun hm => ?_) e, x.slots⟩ r fun q => (f q).1
      simp only [fa, List.filterMap_cons, evf] at hm
      rcases List.mem_cons.mp hm with q | q
      · rw [q, kL] at e; cases e
      · exact nb q
    | exc cls args =>
      intro e h' tk x
      exact leave_exc (G := G) (s := ⟨h', s.gens, s.drawn, tk, s.os⟩) (R := R) hA evf kL hbase x fun h'' fl => hP _ ho e h'' tk fl
end
end Mine
end
section
set_option maxRecDepth 100000
set_option linter.unusedVariables false
namespace Mine

/-- fewer names known -/
inductive Sub : Gam → Gam → Prop
  | nil : Sub [] []
  | k {v a b} : Sub a b → Sub (v :: a) (v :: b)
  | d {v a b} : Sub a b → Sub (none :: a) (v :: b)
theorem Sub.len {a b : Gam} (s : Sub a b) : a.length = b.length := by
  induction s with
  | nil => rfl
  | k _ ih => simp [ih]
  | d _ ih => simp [ih]
theorem Sub.mem {a b : Gam} (s : Sub a b) : ∀ (i : Nat) (v : V), a[i]? = some (some v) → b[i]? = some (some v) := by
  induction s with
  | nil => intro i v h; simp at h
  | k _ ih =>
    intro i v h
    cases i with
    | zero => exact h
    | succ i => simpa using ih i v (by simpa using h)
  | d _ ih =>
    intro i v h
    cases i with
    | zero => simp at h
    | succ i => simpa using ih i v (by simpa using h)
theorem Sub.refl : ∀ a : Gam, Sub a a
  | [] => .nil
  | _ :: a => .k (Sub.refl a)

section
variable {C : Ctx} {Γ Γ' : Gam} {P : Out → Prop}
theorem BX.drop {b : List Stmt} (s : Sub Γ' Γ) (h : BX C Γ' b P) : BX C Γ b P := BX.forget h s.len s.mem
theorem BX.done (s : Sub Γ' Γ) (h : P (.next Γ')) : BX C Γ [] P := BX.drop s (BX.nil h)
theorem BX1.contd {pos : Pos} (s : Sub Γ' Γ) (h : P (.cont Γ')) : BX1 C Γ (.Continue pos) P := fun k st Q E S hP => wpAny_Continue (hP _ h st.heap st.toks (S.forget s.len s.mem))
theorem BX1.brkd {pos : Pos} (s : Sub Γ' Γ) (h : P (.brk Γ')) : BX1 C Γ (.Break pos) P := fun k st Q E S hP => wpAny_Break (hP _ h st.heap st.toks (S.forget s.len s.mem))
theorem BX1.dropd {b : Stmt} (s : Sub Γ' Γ) (h : BX1 C Γ' b P) : BX1 C Γ b P := fun k st Q E S hP => h k st Q E (S.forget s.len s.mem) hP

/-- a for whose states are known beforehand -/
theorem BX1.forg {i : Nat} {x : Str} {px pos : Pos} {e : Expr} {body : List Stmt} {items : List I} {outer : List Env} (g : Nat → Gam) (O : C.Ok) (hfs : C.fs = C.ev :: outer) (hfr : C.ev.frame = some C.ev.locals)
    (he : IE C (g 0) e items) (hx : C.names[i]? = some x) (hl : isLocal C x) (h0 : Sub (g 0) Γ) (hm : ∀ n, noMeth (g n) i)
    (turn : ∀ n v, items[n]? = some v → BX C ((g n).set i (some (.im v))) body (LoopOut (fun Γ' => Γ' = g (n + 1)) P))
    (done : P (.next (g items.length))) (hs : ∀ x, foldedSetIterable e C.ev x = pure x) : BX1 C Γ (.For (.Name x px) e body [] pos) P := by
  refine BX1.dropd h0 (BX1.for O hfs hfr he hx hl (fun n Γ' => Γ' = g n) rfl (fun n Γ' h => ?_) (fun n v Γ' hv h => ?_) (fun Γ' h => ?_) hs)
  · subst h; exact hm n
  · subst h; exact turn n v hv
  · subst h; exact done
end
end Mine
end
section
set_option maxRecDepth 100000
set_option linter.unusedVariables false
namespace Mine
section
variable {C : Ctx} {Γ : Gam} {P : Out → Prop}
/-- a for whose states are known beforehand, with a fact that holds on the way -/
theorem BX1.forr {i : Nat} {x : Str} {px pos : Pos} {e : Expr} {body : List Stmt} {items : List I} {outer : List Env} (g : Nat → Gam) (R : Nat → Prop) (O : C.Ok) (hfs : C.fs = C.ev :: outer) (hfr : C.ev.frame = some C.ev.locals)
    (he : IE C (g 0) e items) (hx : C.names[i]? = some x) (hl : isLocal C x) (h0 : Sub (g 0) Γ) (hr : R 0) (hm : ∀ n, noMeth (g n) i)
    (turn : ∀ n v, items[n]? = some v → R n → BX C ((g n).set i (some (.im v))) body (LoopOut (fun Γ' => Γ' = g (n + 1) ∧ R (n + 1)) P))
    (done : R items.length → P (.next (g items.length))) (hs : ∀ x, foldedSetIterable e C.ev x = pure x) : BX1 C Γ (.For (.Name x px) e body [] pos) P := by
  refine BX1.dropd h0 (BX1.for O hfs hfr he hx hl (fun n Γ' => Γ' = g n ∧ R n) ⟨rfl, hr⟩ (fun n Γ' h => ?_) (fun n v Γ' hv h => ?_) (fun Γ' h => ?_) hs)
  · obtain ⟨rfl, _⟩ := h; exact hm n
  · obtain ⟨rfl, h⟩ := h; exact turn n v hv h
  · obtain ⟨rfl, h⟩ := h; exact done h

theorem Caps.one {scope : Scope} {cl : List (Str × Addr)} {y : Str} {v : V} {i : Nat} (h1 : C.names[i]? = some y) (h2 : Γ[i]? = some (some v)) (h3 : C.ev.kindOf y = some .cell) (h4 : ∀ L, (compEnvC scope cl L C.ev).kindOf y = some .cell) (h5 : cl.lookup y = C.ev.cells.lookup y) (h6 : v.weak = v) :
    Caps C Γ scope cl [y] [v] := ⟨fun j z u hz hu => by
  cases j with
  | zero => simp at hz hu; subst hz; subst hu; exact ⟨i, h1, h2, h3, h4, h5, h6⟩
  | succ j => simp at hz⟩
theorem Caps.two {scope : Scope} {cl : List (Str × Addr)} {y y2 : Str} {v v2 : V} {i i2 : Nat} (h1 : C.names[i]? = some y) (h2 : Γ[i]? = some (some v)) (h3 : C.ev.kindOf y = some .cell) (h4 : ∀ L, (compEnvC scope cl L C.ev).kindOf y = some .cell) (h5 : cl.lookup y = C.ev.cells.lookup y) (h6 : v.weak = v)
    (k1 : C.names[i2]? = some y2) (k2 : Γ[i2]? = some (some v2)) (k3 : C.ev.kindOf y2 = some .cell) (k4 : ∀ L, (compEnvC scope cl L C.ev).kindOf y2 = some .cell) (k5 : cl.lookup y2 = C.ev.cells.lookup y2) (k6 : v2.weak = v2) :
    Caps C Γ scope cl [y, y2] [v, v2] := ⟨fun j z u hz hu => by
  cases j with
  | zero => simp at hz hu; subst hz; subst hu; exact ⟨i, h1, h2, h3, h4, h5, h6⟩
  | succ j => cases j with
    | zero => simp at hz hu; subst hz; subst hu; exact ⟨i2, k1, k2, k3, k4, k5, k6⟩
    | succ j => simp at hz⟩

theorem getI {l : List Int} {n : Nat} (h : n < l.length) : (l.map I.int)[n]? = some (.int (l.getD n 0)) := by simp [h]
theorem byI_at {l : List UInt8} {n : Nat} (h : n < l.length) : (byI l)[n]? = some (.int (l.getD n 0).toNat) := by simp [byI, h]
theorem cut_to {α : Type} (l : List α) (n : Nat) : cut l none (some (n : Int)) = l.take n := by
  simp only [cut, Option.elim, clipAt_nat, List.drop_zero, Nat.sub_zero]
  rcases Nat.le_total n l.length with h | h
  · rw [Nat.min_eq_left h]
  · rw [Nat.min_eq_right h, List.take_length, List.take_of_length_le h]
theorem cut_from {α : Type} (l : List α) (n : Nat) : cut l (some (n : Int)) none = l.drop n := by
  simp only [cut, Option.elim, clipAt_nat]
  rcases Nat.le_total n l.length with h | h
  · rw [Nat.min_eq_left h, List.take_of_length_le (by rw [List.length_drop]; exact Nat.le_refl _)]
  · rw [Nat.min_eq_right h, List.drop_of_length_le h]; simp
theorem cut_mid {α : Type} (l : List α) (a b : Nat) : cut l (some (a : Int)) (some ((a + b : Nat) : Int)) = (l.drop a).take b := by
  simp only [cut, Option.elim, clipAt_nat]
  rcases Nat.le_total a l.length with h | h
  · rw [Nat.min_eq_left h]
    rcases Nat.le_total (a + b) l.length with h2 | h2
    · rw [Nat.min_eq_left h2]; congr 1; lia
    · rw [Nat.min_eq_right h2, List.take_of_length_le (by rw [List.length_drop]; exact Nat.le_refl _), List.take_of_length_le (by rw [List.length_drop]; lia)]
  · rw [Nat.min_eq_right h, Nat.min_eq_right (by lia), List.drop_of_length_le (Nat.le_refl _), List.drop_of_length_le h]; simp

theorem SE.index {i : Nat} {x : Str} {px ap cp : Pos} {e : Expr} {k : Int} {ns : List Int} {f : Bool} (O : C.Ok0) (hx : C.names[i]? = some x) (hv : Γ[i]? = some (some (.own (ns.map .int)))) (hd : (x == ("__debug__" : Str)) = false)
    (he : SE C Γ e (vi k) f) (hst : isStar e = false) (hl : (ap.endLine == cp.line) = true) (hlay : PyData.layable0 (.list (ns.map .int)) = true) (hk : k ∈ ns) : SE C Γ (.Call (.Attribute (.Name x px) "index" ap) [e] [] cp) (vi (ns.idxOf k : Nat)) true := fun s Q E S h => by
  obtain ⟨a, o, r, ho, hc, hdd, vs, n, hs, hr⟩ := S.owns i x _ hx hv
  have hL : s.heap.IsList a vs.toArray := ⟨o, ho, hc, n, hs⟩
  refine method_any rfl (noStars_of (by simp [hst])) (by simp) hl (name_any (h := s.heap) O r hd fun pl => ?_)
  refine getMethod_builtin hL.typeIs PySem.F.plainAttrs_list PySem.F.slot_list_index PySem.F.type_list_index (fun b e => by cases e; exact ⟨o, ho, hdd⟩) ?_
  refine callWith_ok (s := s) (noStars_of (by simp [hst])) rfl rfl (.one he hst) SKs.nil S (fun h' hb => looks_machine (by intro a q; cases q)) fun ws kw h₁ t₁ x₁ r₁ r₂ => ?_
  cases r₁ with
  | cons rv r₁ =>
    cases r₁
    obtain ⟨t, rfl⟩ := rv
    refine index_list_ints (s := ⟨h₁, s.gens, s.drawn, t₁, s.os⟩) (isList_slots x₁.slots hL) (ints_are hr) hlay hk ?_
    exact h _ h₁ _ x₁ ⟨_, rfl⟩ fun _ a q => by cases q

/-- a for whose states hang on what was read -/
theorem BX1.fors {σ : Type} {i : Nat} {x : Str} {px pos : Pos} {e : Expr} {body : List Stmt} {items : List I} {outer : List Env} {s₀ : σ} (g : σ → Gam) (R : Nat → σ → Prop) (O : C.Ok) (hfs : C.fs = C.ev :: outer) (hfr : C.ev.frame = some C.ev.locals)
    (he : IE C (g s₀) e items) (hx : C.names[i]? = some x) (hl : isLocal C x) (h0 : Sub (g s₀) Γ) (hr : R 0 s₀) (hm : ∀ n, noMeth (g n) i)
    (turn : ∀ n v a, items[n]? = some v → R n a → BX C ((g a).set i (some (.im v))) body (LoopOut (fun Γ' => ∃ a', Γ' = g a' ∧ R (n + 1) a') P))
    (done : ∀ a, R items.length a → P (.next (g a))) (hs : ∀ x, foldedSetIterable e C.ev x = pure x) : BX1 C Γ (.For (.Name x px) e body [] pos) P := by
  refine BX1.dropd h0 (BX1.for O hfs hfr he hx hl (fun n Γ' => ∃ a, Γ' = g a ∧ R n a) ⟨s₀, rfl, hr⟩ (fun n Γ' h => ?_) (fun n v Γ' hv h => ?_) (fun Γ' h => ?_) hs)
  · obtain ⟨a, rfl, _⟩ := h; exact hm a
  · obtain ⟨a, rfl, h⟩ := h; exact turn n v a hv h
  · obtain ⟨a, rfl, h⟩ := h; exact done a h
end
end Mine
end
section
set_option maxRecDepth 100000
set_option linter.unusedVariables false
namespace Mine

noncomputable def fA (i : Nat) : Arguments := match PySem.Challenge.pw_kq0075_01.main.body[i]? with | some (.FunctionDef _ a _ _ _ _ _ _ _ _) => a | _ => default
noncomputable def fB (i : Nat) : List Stmt := match PySem.Challenge.pw_kq0075_01.main.body[i]? with | some (.FunctionDef _ _ b _ _ _ _ _ _ _) => b | _ => []
noncomputable def fS (i : Nat) : Scope := match PySem.Challenge.pw_kq0075_01.main.body[i]? with | some (.FunctionDef _ _ _ _ _ _ s _ _ _) => s | _ => default

/-- a def of the text as it stands in the module -/
noncomputable def mkFd (i : Nat) (name : Str) (dV kV pm cd : Value) : FuncData :=
  { name, qualname := name, params := fA i, body := .stmts (fB i), scope := fS i, globals := mainGlobals, closure := [], defaults := dV, kwdefaults := kV, pyModule := pm, code := cd, builtins := builtinsNs }

theorem all2_cons {α β : Type} {R : α → β → Prop} {a : α} {l : List α} {ws : List β} (h : All2 R (a :: l) ws) : ∃ w r, ws = w :: r ∧ R a w ∧ All2 R l r := by
  cases h with
  | cons x r => exact ⟨_, _, rfl, x, r⟩
theorem all2_end {α β : Type} {R : α → β → Prop} {ws : List β} (h : All2 R [] ws) : ws = [] := by cases h; rfl
theorem len_cons {α : Type} {ws : List α} {n : Nat} (h : ws.length = n + 1) : ∃ w r, ws = w :: r ∧ r.length = n := by
  cases ws with
  | nil => cases h
  | cons w r => exact ⟨w, r, rfl, Nat.succ.inj h⟩
theorem len_nil {α : Type} {ws : List α} (h : ws.length = 0) : ws = [] := List.eq_nil_of_length_eq_zero h
theorem len_one {α : Type} {ws : List α} (h : ws.length = 1) : ∃ w, ws = [w] := by
  obtain ⟨w, r, rfl, h2⟩ := len_cons h; obtain rfl := len_nil h2; exact ⟨_, rfl⟩
theorem len_two {α : Type} {ws : List α} (h : ws.length = 2) : ∃ w u, ws = [w, u] := by
  obtain ⟨w, r, rfl, h2⟩ := len_cons h; obtain ⟨u, rfl⟩ := len_one h2; exact ⟨_, _, rfl⟩
theorem len_three {α : Type} {ws : List α} (h : ws.length = 3) : ∃ w u v, ws = [w, u, v] := by
  obtain ⟨w, r, rfl, h2⟩ := len_cons h; obtain ⟨u, v, rfl⟩ := len_two h2; exact ⟨_, _, _, rfl⟩
theorem len_four {α : Type} {ws : List α} (h : ws.length = 4) : ∃ w u v t, ws = [w, u, v, t] := by
  obtain ⟨w, r, rfl, h2⟩ := len_cons h; obtain ⟨u, v, t, rfl⟩ := len_three h2; exact ⟨_, _, _, _, rfl⟩
/-- one argument -/
theorem all2_one {α β : Type} {R : α → β → Prop} {a : α} {ws : List β} (h : All2 R [a] ws) : ∃ w, ws = [w] ∧ R a w := by
  obtain ⟨w, r, rfl, x, h2⟩ := all2_cons h; obtain rfl := all2_end h2; exact ⟨_, rfl, x⟩
theorem all2_two {α β : Type} {R : α → β → Prop} {a b : α} {ws : List β} (h : All2 R [a, b] ws) : ∃ w u, ws = [w, u] ∧ R a w ∧ R b u := by
  obtain ⟨w, r, rfl, x, h2⟩ := all2_cons h; obtain ⟨u, rfl, y⟩ := all2_one h2; exact ⟨_, _, rfl, x, y⟩
theorem all2_three {α β : Type} {R : α → β → Prop} {a b c : α} {ws : List β} (h : All2 R [a, b, c] ws) : ∃ w u v, ws = [w, u, v] ∧ R a w ∧ R b u ∧ R c v := by
  obtain ⟨w, r, rfl, x, h2⟩ := all2_cons h; obtain ⟨u, v, rfl, y, z⟩ := all2_two h2; exact ⟨_, _, _, rfl, x, y, z⟩
theorem all2_four {α β : Type} {R : α → β → Prop} {a b c d : α} {ws : List β} (h : All2 R [a, b, c, d] ws) : ∃ w u v t, ws = [w, u, v, t] ∧ R a w ∧ R b u ∧ R c v ∧ R d t := by
  obtain ⟨w, r, rfl, x, h2⟩ := all2_cons h; obtain ⟨u, v, t, rfl, y, z, q⟩ := all2_three h2; exact ⟨_, _, _, _, rfl, x, y, z, q⟩
theorem all2_nil {α β : Type} {R : α → β → Prop} {ws : List β} (h : All2 R [] ws) : ws = [] := by cases h; rfl

theorem noMeths_im {l : List I} : noMeths (l.map .im) := by
  intro v hv id j q
  obtain ⟨i, _, rfl⟩ := List.mem_map.mp hv
  cases q

/-- no defaults wanted: the plain binding -/
theorem bind1 {G : Glo} {i : Nat} {name : Str} {dV kV pm cd : Value} {x : Str} {a : V} (hb : ∀ w, bindArgs (mkFd i name dV kV pm cd) ⟨[w], []⟩ = pure [(x, w)]) :
    ∀ (s : Shared) (ws kw : List Value), G.b0.StaysIn s.heap → All2 (WRep s.heap) [a] ws → All2 (WRep s.heap) (([] : List (Str × V)).map (·.2)) kw → ∃ ws', All2 (WRep s.heap) [a] ws' ∧ BindsTo s (mkFd i name dV kV pm cd) ⟨ws, (([] : List (Str × V)).map (·.1)).zip kw⟩ ([x].zip ws') := by
  intro s ws kw _ h _
  obtain ⟨w, rfl, r⟩ := all2_one h
  exact ⟨[w], .cons r .nil, .of_eq (hb w)⟩
end Mine
end
section
set_option maxRecDepth 100000
set_option linter.unusedVariables false
namespace Mine

noncomputable abbrev Glo.At (G : Glo) (x : Str) (v : Value) : Prop := G.mg x = some v ∨ (G.mg x = none ∧ G.mb x = some v)

/-- the names of the text that it reads -/
structure Gl (G : Glo) : Prop where
  tType : G.At "type" (.type "type")
  tStr : G.At "str" (.type "str")
  tBytes : G.At "bytes" (.type "bytes")
  tBool : G.At "bool" (.type "bool")
  tInt : G.At "int" (.type "int")
  tList : G.At "list" (.type "list")
  tRange : G.At "range" (.type "range")
  bLen : G.At "len" (.builtin "len")
  bMin : G.At "min" (.builtin "min")
  bChr : G.At "chr" (.builtin "chr")
  bIs : G.At "isinstance" (.builtin "isinstance")
  vErr : G.At "ValueError" (.type "ValueError")
  bTypes : G.At "bytes_types" (.ref 65)
  tup65 : G.b0.get? 65 = some { cls := .type "tuple", data := .seq #[.type "bytes", .type "bytearray"] }
  fDec : G.At "_bytes_from_decode_data" (.ref 72)
  cErr : G.At "Error" (.ref 82)
  oErr : OwnErr G 82
  fAsc : G.At "_ascii_buffer" (.ref 92)
  fBuf : G.At "_buffer" (.ref 99)
  fTruth : G.At "_truth" (.ref 106)
  fB64v : G.At "_b64_value" (.ref 113)
  fA2b : G.At "a2b_base64" (.ref 121)
  fB2a : G.At "b2a_base64" (.ref 129)
  noSep : G.At "_NO_SEP" (.ref 130)
  fHexlify : G.At "hexlify" (.ref 138)
  fHexv : G.At "_hex_value" (.ref 145)
  fUnhex : G.At "unhexlify" (.ref 152)
  fE64 : G.At "b64encode" (.ref 160)
  fD64 : G.At "b64decode" (.ref 168)
  fE16 : G.At "b16encode" (.ref 175)
  fD16 : G.At "b16decode" (.ref 183)
  fA85 : G.At "a85decode" (.ref 191)
  lSigns : G.At "_law_signs" (.ref 198)
  lE16 : G.At "_law_sixteen" (.ref 205)
  lE64 : G.At "_law_sixty_four" (.ref 210)
  lFive : G.At "_law_five" (.ref 217)
  lE85 : G.At "_law_eighty_five" (.ref 222)
  lF16 : G.At "_law_from_sixteen" (.ref 227)
  lF64 : G.At "_law_from_sixty_four" (.ref 234)
  lF85 : G.At "_law_from_eighty_five" (.ref 239)
  lTold : G.At "_law_told" (.ref 246)
  lLooked : G.At "_law_looked" (.ref 253)
  lDone : G.At "_law_done" (.ref 258)

section
variable {C : Ctx} {Γ : Gam}
theorem SE.nm {i : Nat} {x : Str} {pos : Pos} {v : I} (O : C.Ok0) (hx : C.names[i]? = some x) (hv : Γ[i]? = some (some (.im v))) (hd : (x == ("__debug__" : Str)) = false) : SE C Γ (.Name x pos) (.im v) false := SE.name (v := .im v) O hx hv hd
theorem SE.nl {i : Nat} {x : Str} {pos : Pos} {v : List I} (O : C.Ok0) (hx : C.names[i]? = some x) (hv : Γ[i]? = some (some (.list v))) (hd : (x == ("__debug__" : Str)) = false) : SE C Γ (.Name x pos) (.list v) false := SE.name (v := .list v) O hx hv hd
theorem SE.no {i : Nat} {x : Str} {pos : Pos} {v : List I} (O : C.Ok0) (hx : C.names[i]? = some x) (hv : Γ[i]? = some (some (.own v))) (hd : (x == ("__debug__" : Str)) = false) : SE C Γ (.Name x pos) (.list v) false := SE.name (v := .own v) O hx hv hd
theorem co_type_bytes {b : List UInt8} : CallOk C (.type "type") [vy b] (.im (.raw (.type "bytes"))) true := co_type (i := .bytes b) (fun _ q => by cases q)
theorem co_type_bool {b : Bool} : CallOk C (.type "type") [vb b] (.im (.raw (.type "bool"))) true := co_type (i := .bool b) (fun _ q => by cases q)
theorem co_type_int {b : Int} : CallOk C (.type "type") [vi b] (.im (.raw (.type "int"))) true := co_type (i := .int b) (fun _ q => by cases q)
end
theorem noMeth_of {Γ : Gam} {i : Nat} (h : Γ.all (fun v => match v with | some (.meth _ j) => j != i | _ => true) = true) : noMeth Γ i := fun j id q => by
  have hm := List.mem_of_getElem? q
  have := List.all_eq_true.mp h _ hm
  simp at this
end Mine
end
section
set_option maxRecDepth 100000
set_option linter.unusedVariables false
set_option linter.unusedSimpArgs false
namespace Mine

noncomputable def b64v (c : Int) : Int :=
  if 65 ≤ c ∧ c ≤ 90 then c - 65 else if 97 ≤ c ∧ c ≤ 122 then c - 71 else if 48 ≤ c ∧ c ≤ 57 then c + 4 else if c = 43 then 62 else if c = 47 then 63 else 64
noncomputable def hexv (c : Int) : Int := if 48 ≤ c ∧ c ≤ 57 then c - 48 else if 65 ≤ c ∧ c ≤ 70 then c - 55 else if 97 ≤ c ∧ c ≤ 102 then c - 87 else 16
theorem nr_int {i : Int} : ∀ v, I.int i ≠ .raw v := fun _ q => by cases q
theorem nr_bytes {b : List UInt8} : ∀ v, I.bytes b ≠ .raw v := fun _ q => by cases q
theorem nr_bool {b : Bool} : ∀ v, I.bool b ≠ .raw v := fun _ q => by cases q
theorem nr_none : ∀ v, I.none ≠ .raw v := fun _ q => by cases q
theorem nr_str {b : Str} : ∀ v, I.str b ≠ .raw v := fun _ q => by cases q
variable {G : Glo} {pm cd : Value}

theorem sp_b64v (GO : G.Ok) (F : FnOk G 113 (mkFd 13 "_b64_value" .none .none pm cd) (fB 13) ["c"] ["c"]) (c : Int) : Spec G 1 113 [vi c] [] (fun o => o = .ret (vi (b64v c)) true) := by
  refine Spec.of_body (vs' := [vi c]) GO F (show ∀ x ∈ (fS 13).names, x.2 ≠ .cell by decide) rfl (noMeths_im (l := [.int c])) (bind1 fun _ => rfl) fun A fs L O => ?_
  show BX _ [some (vi c)] _ _
  refine BX.cons (BX1.ite (ST.cmp SE.const_int (TC.cons (SE.nm (i := 0) O.toOk0 rfl rfl (by decide)) cmp_le fun _ => TC.one SE.const_int cmp_le rfl)) (fun h => ?_) fun h => ?_)
  · simp at h
    refine BX.cons (BX1.reti (SE.binop (SE.nm (i := 0) O.toOk0 rfl rfl (by decide)) SE.const_int op_sub) nr_int ?_)
    show RO.ret _ _ = _
    unfold b64v
    repeat (first | rw [if_pos (by lia)] | rw [if_neg (by lia)])
  simp at h
  refine BX.nil ?_
  refine BX.cons (BX1.ite (ST.cmp SE.const_int (TC.cons (SE.nm (i := 0) O.toOk0 rfl rfl (by decide)) cmp_le fun _ => TC.one SE.const_int cmp_le rfl)) (fun h => ?_) fun h => ?_)
  · simp at h
    refine BX.cons (BX1.reti (SE.binop (SE.nm (i := 0) O.toOk0 rfl rfl (by decide)) SE.const_int op_sub) nr_int ?_)
    show RO.ret _ _ = _
    unfold b64v
    repeat (first | rw [if_pos (by lia)] | rw [if_neg (by lia)])
  simp at h
  refine BX.nil ?_
  refine BX.cons (BX1.ite (ST.cmp SE.const_int (TC.cons (SE.nm (i := 0) O.toOk0 rfl rfl (by decide)) cmp_le fun _ => TC.one SE.const_int cmp_le rfl)) (fun h => ?_) fun h => ?_)
  · simp at h
    refine BX.cons (BX1.reti (SE.binop (SE.nm (i := 0) O.toOk0 rfl rfl (by decide)) SE.const_int op_add) nr_int ?_)
    show RO.ret _ _ = _
    unfold b64v
    repeat (first | rw [if_pos (by lia)] | rw [if_neg (by lia)])
  simp at h
  refine BX.nil ?_
  refine BX.cons (BX1.ite (ST.cmp (SE.nm (i := 0) O.toOk0 rfl rfl (by decide)) (TC.one SE.const_int cmp_eq rfl)) (fun h => ?_) fun h => ?_)
  · simp at h
    refine BX.cons (BX1.reti SE.const_int nr_int ?_)
    show RO.ret _ _ = _
    unfold b64v
    repeat (first | rw [if_pos (by lia)] | rw [if_neg (by lia)])
  simp at h
  refine BX.nil ?_
  refine BX.cons (BX1.ite (ST.cmp (SE.nm (i := 0) O.toOk0 rfl rfl (by decide)) (TC.one SE.const_int cmp_eq rfl)) (fun h => ?_) fun h => ?_)
  · simp at h
    refine BX.cons (BX1.reti SE.const_int nr_int ?_)
    show RO.ret _ _ = _
    unfold b64v
    repeat (first | rw [if_pos (by lia)] | rw [if_neg (by lia)])
  simp at h
  refine BX.nil ?_
  refine BX.cons (BX1.reti SE.const_int nr_int ?_)
  show RO.ret _ _ = _
  unfold b64v
  repeat (first | rw [if_pos (by lia)] | rw [if_neg (by lia)])
end Mine
end
section
set_option maxRecDepth 100000
set_option linter.unusedVariables false
set_option linter.unusedSimpArgs false
namespace Mine
variable {G : Glo} {pm cd : Value}
theorem sp_hexv (GO : G.Ok) (F : FnOk G 145 (mkFd 19 "_hex_value" .none .none pm cd) (fB 19) ["c"] ["c"]) (c : Int) : Spec G 1 145 [vi c] [] (fun o => o = .ret (vi (hexv c)) true) := by
  refine Spec.of_body (vs' := [vi c]) GO F (show ∀ x ∈ (fS 19).names, x.2 ≠ .cell by decide) rfl (noMeths_im (l := [.int c])) (bind1 fun _ => rfl) fun A fs L O => ?_
  show BX _ [some (vi c)] _ _
  refine BX.cons (BX1.ite (ST.cmp SE.const_int (TC.cons (SE.nm (i := 0) O.toOk0 rfl rfl (by decide)) cmp_le fun _ => TC.one SE.const_int cmp_le rfl)) (fun h => ?_) fun h => ?_)
  · simp at h
    refine BX.cons (BX1.reti (SE.binop (SE.nm (i := 0) O.toOk0 rfl rfl (by decide)) SE.const_int op_sub) nr_int ?_)
    show RO.ret _ _ = _
    unfold hexv
    repeat (first | rw [if_pos (by lia)] | rw [if_neg (by lia)])
  simp at h
  refine BX.nil ?_
  refine BX.cons (BX1.ite (ST.cmp SE.const_int (TC.cons (SE.nm (i := 0) O.toOk0 rfl rfl (by decide)) cmp_le fun _ => TC.one SE.const_int cmp_le rfl)) (fun h => ?_) fun h => ?_)
  · simp at h
    refine BX.cons (BX1.reti (SE.binop (SE.nm (i := 0) O.toOk0 rfl rfl (by decide)) SE.const_int op_sub) nr_int ?_)
    show RO.ret _ _ = _
    unfold hexv
    repeat (first | rw [if_pos (by lia)] | rw [if_neg (by lia)])
  simp at h
  refine BX.nil ?_
  refine BX.cons (BX1.ite (ST.cmp SE.const_int (TC.cons (SE.nm (i := 0) O.toOk0 rfl rfl (by decide)) cmp_le fun _ => TC.one SE.const_int cmp_le rfl)) (fun h => ?_) fun h => ?_)
  · simp at h
    refine BX.cons (BX1.reti (SE.binop (SE.nm (i := 0) O.toOk0 rfl rfl (by decide)) SE.const_int op_sub) nr_int ?_)
    show RO.ret _ _ = _
    unfold hexv
    repeat (first | rw [if_pos (by lia)] | rw [if_neg (by lia)])
  simp at h
  refine BX.nil ?_
  · refine BX.cons (BX1.reti SE.const_int nr_int ?_)
    show RO.ret _ _ = _
    unfold hexv
    repeat (first | rw [if_pos (by lia)] | rw [if_neg (by lia)])


theorem sp_asc (GO : G.Ok) (W : Gl G) (F : FnOk G 92 (mkFd 9 "_ascii_buffer" .none .none pm cd) (fB 9) ["data"] ["data", "t"]) (b : List UInt8) : Spec G 1 92 [vy b] [] (fun o => o = .ret (vy b) true) := by
  refine Spec.of_body (vs' := [vy b]) GO F (show ∀ x ∈ (fS 9).names, x.2 ≠ .cell by decide) rfl (noMeths_im (l := [.bytes b])) (bind1 fun _ => rfl) fun A fs L O => ?_
  show BX _ [some (vy b), none] _ _
  refine BX.cons (BX1.assign_im O (SE.callB O.toOk0 rfl W.tType (by decide) (by intro a q; cases q) rfl (.one (SE.nm (i := 0) O.toOk0 rfl rfl (by decide)) rfl) co_type_bytes) (i := 1) rfl (.inl rfl) (noMeth_of rfl) rfl ?_)
  refine BX.cons (BX1.ite (ST.cmp (SE.nm (i := 1) O.toOk0 rfl rfl (by decide)) (TC.one (SE.glob O.toOk0 rfl W.tStr (by decide)) (cmp_is_type rfl) rfl)) (fun h => absurd h (by decide)) fun h => ?_)
  refine BX.nil (BX.cons (BX1.ite (ST.cmp (SE.nm (i := 1) O.toOk0 rfl rfl (by decide)) (TC.one (SE.glob O.toOk0 rfl W.tBytes (by decide)) (cmp_is_type rfl) rfl)) (fun h => ?_) fun h => absurd h (by decide)))
  exact BX.cons (BX1.reti (SE.nm (i := 0) O.toOk0 rfl rfl (by decide)) nr_bytes rfl)

theorem sp_buf (GO : G.Ok) (W : Gl G) (F : FnOk G 99 (mkFd 10 "_buffer" .none .none pm cd) (fB 10) ["data"] ["data", "t"]) (b : List UInt8) : Spec G 1 99 [vy b] [] (fun o => o = .ret (vy b) true) := by
  refine Spec.of_body (vs' := [vy b]) GO F (show ∀ x ∈ (fS 10).names, x.2 ≠ .cell by decide) rfl (noMeths_im (l := [.bytes b])) (bind1 fun _ => rfl) fun A fs L O => ?_
  show BX _ [some (vy b), none] _ _
  refine BX.cons (BX1.assign_im O (SE.callB O.toOk0 rfl W.tType (by decide) (by intro a q; cases q) rfl (.one (SE.nm (i := 0) O.toOk0 rfl rfl (by decide)) rfl) co_type_bytes) (i := 1) rfl (.inl rfl) (noMeth_of rfl) rfl ?_)
  refine BX.cons (BX1.ite (ST.cmp (SE.nm (i := 1) O.toOk0 rfl rfl (by decide)) (TC.one (SE.glob O.toOk0 rfl W.tBytes (by decide)) (cmp_is_type rfl) rfl)) (fun h => ?_) fun h => absurd h (by decide))
  exact BX.cons (BX1.reti (SE.nm (i := 0) O.toOk0 rfl rfl (by decide)) nr_bytes rfl)

theorem sp_dec (GO : G.Ok) (W : Gl G) (F : FnOk G 72 (mkFd 6 "_bytes_from_decode_data" .none .none pm cd) (fB 6) ["s"] ["s"]) (b : List UInt8) : Spec G 1 72 [vy b] [] (fun o => o = .ret (vy b) true) := by
  refine Spec.of_body (vs' := [vy b]) GO F (show ∀ x ∈ (fS 6).names, x.2 ≠ .cell by decide) rfl (noMeths_im (l := [.bytes b])) (bind1 fun _ => rfl) fun A fs L O => ?_
  show BX _ [some (vy b)] _ _
  refine BX.cons (BX1.ite (ST.val (SE.callB O.toOk0 rfl W.bIs (by decide) (by intro a q; cases q) rfl (.two (SE.nm (i := 0) O.toOk0 rfl rfl (by decide)) rfl (SE.glob O.toOk0 rfl W.tStr (by decide)) rfl) co_isinst_str) tr_bool (fun _ _ => rfl)) (fun h => absurd h (by decide)) fun h => ?_)
  refine BX.nil (BX.cons (BX1.ite (ST.val (SE.callB O.toOk0 rfl W.bIs (by decide) (by intro a q; cases q) rfl (.two (SE.nm (i := 0) O.toOk0 rfl rfl (by decide)) rfl (SE.glob O.toOk0 rfl W.bTypes (by decide)) rfl) (co_isinst_tup W.tup65)) tr_bool (fun _ _ => rfl)) (fun h => ?_) fun h => absurd h (by decide)))
  exact BX.cons (BX1.reti (SE.nm (i := 0) O.toOk0 rfl rfl (by decide)) nr_bytes rfl)

theorem sp_truth (GO : G.Ok) (W : Gl G) (F : FnOk G 106 (mkFd 11 "_truth" .none .none pm cd) (fB 11) ["x"] ["x", "t"]) (b : Bool) : Spec G 1 106 [vb b] [] (fun o => o = .ret (vb b) true) := by
  refine Spec.of_body (vs' := [vb b]) GO F (show ∀ x ∈ (fS 11).names, x.2 ≠ .cell by decide) rfl (noMeths_im (l := [.bool b])) (bind1 fun _ => rfl) fun A fs L O => ?_
  show BX _ [some (vb b), none] _ _
  refine BX.cons (BX1.assign_im O (SE.callB O.toOk0 rfl W.tType (by decide) (by intro a q; cases q) rfl (.one (SE.nm (i := 0) O.toOk0 rfl rfl (by decide)) rfl) co_type_bool) (i := 1) rfl (.inl rfl) (noMeth_of rfl) rfl ?_)
  refine BX.cons (BX1.ite (ST.or (TOr.cons (ST.cmp (SE.nm (i := 0) O.toOk0 rfl rfl (by decide)) (TC.one SE.const_none (cmp_is_none nr_bool) rfl)) fun _ => TOr.cons (c := false) (ST.cmp (SE.nm (i := 1) O.toOk0 rfl rfl (by decide)) (TC.one (SE.glob O.toOk0 rfl W.tBool (by decide)) (cmp_is_type rfl) rfl)) fun h => absurd h (by decide))) (fun h => ?_) fun h => absurd h (by show ¬ ((false || ("bool" == "bool" || false)) = false); decide))
  refine BX.cons (BX1.reti (i := .bool b) (fr := true) (SE.ifexp (b := b) (ST.val (SE.nm (i := 0) O.toOk0 rfl rfl (by decide)) tr_bool (fun _ _ => rfl)) (fun h => ?_) (fun h => ?_)) nr_bool rfl)
  · subst h; exact SE.const_bool
  · subst h; exact SE.const_bool
end Mine
end
section
set_option maxRecDepth 100000
set_option linter.unusedVariables false
set_option linter.unusedSimpArgs false
namespace Mine
variable {G : Glo} {pm cd : Value}
noncomputable def five (n : Int) : List Int := [n / 52200625 % 85, n / 614125 % 85, n / 7225 % 85, n / 85 % 85, n % 85]
noncomputable def signs : List UInt8 := [65, 66, 67, 68, 69, 70, 71, 72, 73, 74, 75, 76, 77, 78, 79, 80, 81, 82, 83, 84, 85, 86, 87, 88, 89, 90, 97, 98, 99, 100, 101, 102, 103, 104, 105, 106, 107, 108, 109, 110, 111, 112, 113, 114, 115, 116, 117, 118, 119, 120, 121, 122, 48, 49, 50, 51, 52, 53, 54, 55, 56, 57, 43, 47]
noncomputable def hexd : List UInt8 := [48, 49, 50, 51, 52, 53, 54, 55, 56, 57, 65, 66, 67, 68, 69, 70]
noncomputable def dig (i : Int) : Int := ((hexd.getD i.toNat 0).toNat : Int)
noncomputable def e16 (l : List UInt8) : List Int := l.flatMap fun c => [dig ((c.toNat : Int) / 16), dig ((c.toNat : Int) % 16)]

theorem byI_get {b : List UInt8} {n : Nat} {v : I} (h : (byI b)[n]? = some v) : ∃ c : UInt8, b[n]? = some c ∧ v = .int c.toNat := by
  simp only [byI, List.getElem?_map, Option.map_eq_some_iff] at h
  obtain ⟨c, hc, rfl⟩ := h
  exact ⟨c, hc, rfl⟩
theorem take_next {α : Type} {l : List α} {n : Nat} {c : α} (h : l[n]? = some c) : l.take (n + 1) = l.take n ++ [c] := by
  rw [List.take_add_one, h]; rfl
theorem u8_lt (c : UInt8) : (0 : Int) ≤ c.toNat ∧ (c.toNat : Int) < 256 := ⟨by lia, by have := c.toNat_lt; lia⟩
theorem byI_len (b : List UInt8) : (byI b).length = b.length := by simp [byI]
theorem dig_lt (i : Int) : 0 ≤ dig i ∧ dig i < 256 := u8_lt _
theorem e16_lt (l : List UInt8) : ∀ n ∈ e16 l, 0 ≤ n ∧ n < 256 := fun n h => by
  obtain ⟨c, _, h⟩ := List.mem_flatMap.mp h
  simp at h
  rcases h with rfl | rfl <;> exact dig_lt _
theorem e16_len (l : List UInt8) : (e16 l).length = 2 * l.length := by
  induction l with
  | nil => rfl
  | cons c l ih => simp only [e16, List.flatMap_cons, List.length_append, List.length_cons] at ih ⊢; simp only [List.length_nil]; lia

theorem sp_signs (GO : G.Ok) (W : Gl G) (F : FnOk G 198 (mkFd 31 "_law_signs" .none .none pm cd) (fB 31) [] []) : Spec G 1 198 [] [] (fun o => o = .ret (.list (byI signs)) true) := by
  refine Spec.of_body (vs' := []) GO F (show ∀ x ∈ (fS 31).names, x.2 ≠ .cell by decide) rfl (noMeths_im (l := [])) (fun s ws kw _ h _ => ⟨[], .nil, .of_eq (by rw [all2_nil h]; rfl)⟩) fun A fs L O => ?_
  show BX _ [] _ _
  exact BX.cons (BX1.ret (SE.callB O.toOk0 rfl W.tList (by decide) (by intro a q; cases q) rfl (.one SE.const_bytes rfl) (co_list_bytes O.handled (by decide))) rfl)

theorem sp_five (GO : G.Ok) (F : FnOk G 217 (mkFd 34 "_law_five" .none .none pm cd) (fB 34) ["number"] ["number"]) (n : Int) : Spec G 1 217 [vi n] [] (fun o => o = .ret (.list ((five n).map .int)) true) := by
  refine Spec.of_body (vs' := [vi n]) GO F (show ∀ x ∈ (fS 34).names, x.2 ≠ .cell by decide) rfl (noMeths_im (l := [.int n])) (bind1 fun _ => rfl) fun A fs L O => ?_
  show BX _ [some (vi n)] _ _
  refine BX.cons (BX1.ret (SE.listd (l := (five n).map .int) ?_ (by simp [five])) rfl)
  exact .cons (SE.binop (SE.binop (SE.nm (i := 0) O.toOk0 rfl rfl (by decide)) SE.const_int (op_div (by decide) (by decide))) SE.const_int (op_mod (by decide))) (.cons (SE.binop (SE.binop (SE.nm (i := 0) O.toOk0 rfl rfl (by decide)) SE.const_int (op_div (by decide) (by decide))) SE.const_int (op_mod (by decide))) (.cons (SE.binop (SE.binop (SE.nm (i := 0) O.toOk0 rfl rfl (by decide)) SE.const_int (op_div (by decide) (by decide))) SE.const_int (op_mod (by decide))) (.cons (SE.binop (SE.binop (SE.nm (i := 0) O.toOk0 rfl rfl (by decide)) SE.const_int (op_div (by decide) (by decide))) SE.const_int (op_mod (by decide))) (.one (SE.binop (SE.nm (i := 0) O.toOk0 rfl rfl (by decide)) SE.const_int (op_mod (by decide))) rfl) (fun _ => rfl)) (fun _ => rfl)) (fun _ => rfl)) (fun _ => rfl)

theorem sp_e16 (GO : G.Ok) (W : Gl G) (F : FnOk G 205 (mkFd 32 "_law_sixteen" .none .none pm cd) (fB 32) ["row"] ["row", "text", "x"]) (row : List UInt8) (hl : row.length ≤ 1000) : Spec G 1 205 [vy row] [] (fun o => o = .ret (vy (toB (e16 row))) true) := by
  refine Spec.of_body (vs' := [vy row]) GO F (show ∀ x ∈ (fS 32).names, x.2 ≠ .cell by decide) rfl (noMeths_im (l := [.bytes row])) (bind1 fun _ => rfl) fun A fs L O => ?_
  show BX _ [some (vy row), none, none] _ _
  refine BX.cons (BX1.assign_new O (l := []) (SE.listd (l := []) .nil (by decide)) (i := 1) rfl (.inl rfl) (noMeth_of rfl) rfl ?_)
  refine BX.cons (BX1.forg (i := 2) (fun n => [some (vy row), some (.own ((e16 (row.take n)).map .int)), none]) O rfl rfl (.bytes O (SE.nm (i := 0) O.toOk0 rfl rfl (by decide))) rfl (.inl rfl) (.k (.k (.k .nil))) (fun n => noMeth_of rfl) (fun n v hv => ?_) ?_ (fun _ => rfl))
  · obtain ⟨c, hc, rfl⟩ := byI_get hv
    have hb := u8_lt c
    have hn := (List.getElem?_eq_some_iff.mp hc).1
    have hle : (e16 (row.take n)).length ≤ 2000 := by rw [e16_len, List.length_take]; lia
    show BX _ [some (vy row), some (.own ((e16 (row.take n)).map .int)), some (vi c.toNat)] _ _
    refine BX.cons (BX1.append O (i := 1) rfl rfl (by decide) (SE.sub_bytes SE.const_bytes (SE.binop (SE.nm (i := 2) O.toOk0 rfl rfl (by decide)) SE.const_int (op_div (by decide) (by decide))) (by lia) (by show _ < ((16 : Nat) : Int); lia) (by decide) (fun _ _ => rfl)) rfl (by simp; lia) rfl rfl ?_)
    refine BX.cons (BX1.append O (i := 1) rfl rfl (by decide) (SE.sub_bytes SE.const_bytes (SE.binop (SE.nm (i := 2) O.toOk0 rfl rfl (by decide)) SE.const_int (op_mod (by decide))) (by lia) (by show _ < ((16 : Nat) : Int); lia) (by decide) (fun _ _ => rfl)) rfl (by simp; lia) rfl rfl ?_)
    refine BX.done (Γ' := [some (vy row), some (.own ((e16 (row.take (n + 1))).map .int)), none]) ?_ rfl
    have e : (e16 (row.take (n + 1))).map I.int = (e16 (row.take n)).map I.int ++ [.int (dig (c.toNat / 16))] ++ [.int (dig (c.toNat % 16))] := by rw [take_next hc]; simp [e16]
    rw [e]
    exact .k (.k (.d .nil))
  · rw [byI_len, List.take_length]
    exact BX.cons (BX1.reti (SE.callB O.toOk0 rfl W.tBytes (by decide) (by intro a q; cases q) rfl (.one (SE.no (i := 1) O.toOk0 rfl rfl (by decide)) rfl) (co_bytes_list O.handled (e16_lt row) (by rw [e16_len]; lia))) nr_bytes rfl)
end Mine
end
section
set_option maxRecDepth 100000
set_option linter.unusedVariables false
set_option linter.unusedSimpArgs false
namespace Mine
variable {G : Glo} {pm cd : Value}
noncomputable def hexup (c : UInt8) : Bool := (decide ((48 : Int) ≤ c.toNat) && decide ((c.toNat : Int) ≤ 57)) || (decide ((65 : Int) ≤ c.toNat) && decide ((c.toNat : Int) ≤ 70))
noncomputable def fig (c : Int) : Int := if c < 58 then c - 48 else c - 55
noncomputable def figs (t : List UInt8) : List Int := t.map fun c => fig c.toNat
noncomputable def d16 (t : List UInt8) : List Int := (List.range (t.length / 2)).map fun k => (figs t).getD (2 * k) 0 * 16 + (figs t).getD (2 * k + 1) 0
noncomputable def f16 (t : List UInt8) : I := if t.all hexup && t.length % 2 == 0 then .bytes (toB (d16 t)) else .bool false

theorem byI_nr {b : List UInt8} : ∀ i ∈ byI b, ∀ v, i ≠ .raw v := fun i h v q => by
  obtain ⟨c, _, rfl⟩ := List.mem_map.mp h
  cases q
theorem ups_nr {n d : Nat} {c : Int} : ∀ i ∈ ups n c d, ∀ v, i ≠ .raw v := fun i h v q => by
  obtain ⟨j, _, rfl⟩ := List.mem_map.mp h
  cases q
theorem fig_in {c : UInt8} (h : hexup c = true) : 0 ≤ fig c.toNat ∧ fig c.toNat < 16 := by
  simp [hexup] at h
  unfold fig
  split <;> lia
theorem figs_in {t : List UInt8} (h : t.all hexup = true) {n : Nat} (hn : n < t.length) : 0 ≤ (figs t).getD n 0 ∧ (figs t).getD n 0 < 16 := by
  have := List.all_eq_true.mp h t[n] (List.getElem_mem hn)
  have e : (figs t).getD n 0 = fig t[n].toNat := by simp [figs, hn]
  rw [e]
  exact fig_in this
theorem d16_in {t : List UInt8} (h : t.all hexup = true) : ∀ n ∈ d16 t, 0 ≤ n ∧ n < 256 := fun n hn => by
  obtain ⟨k, hk, rfl⟩ := List.mem_map.mp hn
  have hk := List.mem_range.mp hk
  have a := figs_in h (n := 2 * k) (by lia)
  have b := figs_in h (n := 2 * k + 1) (by lia)
  lia

noncomputable def mI (f : Int → Int) : I → I
  | .int i => .int (f i)
  | i => i
theorem filter_true {α : Type} (l : List α) : l.filter (fun _ => true) = l := by simp

theorem sp_f16 (GO : G.Ok) (W : Gl G) (F : FnOk G 227 (mkFd 36 "_law_from_sixteen" .none .none pm cd) (fB 36) ["text"] ["text", "x", "figures"]) (t : List UInt8) (hl : t.length ≤ 1000) : Spec G 1 227 [vy t] [] (fun o => o = .ret (.im (f16 t)) true) := by
  refine Spec.of_cells GO F rfl (noMeths_im (l := [.bytes t])) (fun ws h => by
    obtain ⟨w, rfl⟩ := len_one h; rfl) fun A fs L O => ?_
  show BX _ [some (vy t), none, none] _ _
  refine BX.cons (BX1.forr (i := 1) (fun _ => [some (vy t), none, none]) (fun n => (t.take n).all hexup = true) O rfl rfl (.bytes O (SE.nm (i := 0) O.toOk0 rfl rfl (by decide))) rfl (.inl rfl) (Sub.refl _) rfl (fun n => noMeth_of rfl) (fun n v hv hR => ?_) (fun hR => ?_) (fun _ => rfl))
  · obtain ⟨c, hc, rfl⟩ := byI_get hv
    show BX _ [some (vy t), some (vi c.toNat), none] _ _
    refine BX.cons (BX1.ite (ST.not (ST.or (TOr.cons (ST.cmp SE.const_int (TC.cons (SE.nm (i := 1) O.toOk0 rfl rfl (by decide)) cmp_le fun _ => TC.one SE.const_int cmp_le rfl)) fun _ => TOr.cons (ST.cmp SE.const_int (TC.cons (SE.nm (i := 1) O.toOk0 rfl rfl (by decide)) cmp_le fun _ => TC.one SE.const_int cmp_le rfl)) fun _ => TOr.nil))) (fun h => ?_) fun h => ?_)
    · refine BX.cons (BX1.reti SE.const_bool nr_bool ?_)
      show RO.ret _ _ = _
      have hc' : hexup c = false := by
        simp only [Bool.not_eq_true', Bool.or_false] at h
        exact h
      have : t.all hexup = false := by
        rw [← Bool.not_eq_true]
        intro q
        rw [List.all_eq_true.mp q c (List.mem_of_getElem? hc)] at hc'
        cases hc'
      unfold f16
      rw [this]
      rfl
    · refine BX.nil (BX.done (.k (.d (.k .nil))) ⟨rfl, ?_⟩)
      rw [take_next hc, List.all_append, hR]
      simp only [Bool.not_eq_false', Bool.or_false] at h
      show (true && ([c].all hexup)) = true
      simp only [List.all_cons, List.all_nil, Bool.and_true, Bool.true_and]
      exact h
  · rw [byI_len, List.take_length] at hR
    refine BX.cons (BX1.ite (ST.cmp (SE.binop (SE.callB O.toOk0 rfl W.bLen (by decide) (by intro a q; cases q) rfl (.one (SE.nm (i := 0) O.toOk0 rfl rfl (by decide)) rfl) (co_len_bytes (by lia))) SE.const_int (op_mod (by decide))) (TC.one SE.const_int cmp_ne rfl)) (fun h => ?_) fun h => ?_)
    · refine BX.cons (BX1.reti SE.const_bool nr_bool ?_)
      show RO.ret _ _ = _
      simp at h
      unfold f16
      rw [if_neg (by simp; lia)]
    simp at h
    refine BX.nil (BX.cons (BX1.assign_list O (i := 2) (l := (figs t).map .int) (SE.im (SE.comp (cl := []) (caps := []) (vs := []) (pt := fun _ => true) (F := mI fig) (items := byI t) (f := false) rfl (by decide) rfl (by decide) rfl (.bytes O.handled (SE.nm (i := 0) O.toOk0 rfl rfl (by decide))) (fun _ => rfl) .none byI_nr (by rw [byI_len]; lia) (fun _ _ _ => .nil) (fun L' v hv _ => ?_)) ?_) rfl (.inr rfl) (noMeth_of rfl) rfl ?_))
    · obtain ⟨c, _, rfl⟩ := List.mem_map.mp hv
      refine SE.ifexp (b := decide ((c.toNat : Int) < 58)) (ST.cmp (SE.nm (i := 0) (compC_ok O.toOk0 rfl) rfl rfl (by decide)) (TC.one SE.const_int cmp_lt rfl)) (fun h => SE.old (SE.im (SE.binop (SE.nm (i := 0) (compC_ok O.toOk0 rfl) rfl rfl (by decide)) SE.const_int op_sub) ?_)) (fun h => SE.old (SE.im (SE.binop (SE.nm (i := 0) (compC_ok O.toOk0 rfl) rfl rfl (by decide)) SE.const_int op_sub) ?_))
      · simp at h; simp only [mI, fig]; rw [if_pos (by lia)]
      · simp at h; simp only [mI, fig]; rw [if_neg (by lia)]
    · rw [filter_true]; simp [byI, figs, mI]
    · show BX _ [some (vy t), none, some (.list ((figs t).map .int))] _ _
      have hfl : (figs t).length = t.length := by simp [figs]
      refine BX.cons (BX1.reti (SE.callB O.toOk0 rfl W.tBytes (by decide) (by intro a q; cases q) rfl (.one (SE.im (SE.comp (cl := [("figures", L + 1)]) (caps := ["figures"]) (vs := [.list ((figs t).map .int)]) (pt := fun _ => true) (F := mI fun k => (figs t).getD (2 * k).toNat 0 * 16 + (figs t).getD (2 * k + 1).toNat 0) (items := ups (t.length / 2) 0 1) (f := true) rfl (by decide) rfl (by decide) rfl
        (.range1 O rfl W.tRange rfl (SE.im (SE.binop (SE.callB O.toOk0 rfl W.bLen (by decide) (by intro a q; cases q) rfl (.one (SE.nm (i := 0) O.toOk0 rfl rfl (by decide)) rfl) (co_len_bytes (by lia))) SE.const_int (op_div (by decide) (by decide))) ?_) (by lia)) (fun _ => rfl) (.one (i := 2) rfl rfl rfl (fun _ => rfl) rfl rfl) ups_nr (by simp [ups]; lia) (fun _ _ _ => .nil) (fun L' v hv _ => ?_)) ?_) rfl) (co_bytes_list (ns := d16 t) O.handled (d16_in hR) (by simp [d16]; lia))) nr_bytes ?_)
      · show vi _ = vi _; congr 2
      · obtain ⟨k, hk, rfl⟩ := List.mem_map.mp hv
        have hk := List.mem_range.mp hk
        have e0 : ((2 : Int) * (0 + (k : Int) * ((1 : Nat) : Int))).toNat = 2 * k := by lia
        have e1 : ((2 : Int) * (0 + (k : Int) * ((1 : Nat) : Int)) + 1).toNat = 2 * k + 1 := by lia
        refine (SE.binop (SE.binop (SE.sub_list (i := (2 : Int) * (0 + (k : Int) * ((1 : Nat) : Int))) (SE.nl (i := 1) (compC_ok O.toOk0 rfl) rfl rfl (by decide)) (SE.binop SE.const_int (SE.nm (i := 0) (compC_ok O.toOk0 rfl) rfl rfl (by decide)) (op_mul (by lia))) (by lia) (by lia) (getI (by lia)) (fun _ _ => rfl)) SE.const_int (op_mul (by lia))) (SE.sub_list (i := (2 : Int) * (0 + (k : Int) * ((1 : Nat) : Int)) + 1) (SE.nl (i := 1) (compC_ok O.toOk0 rfl) rfl rfl (by decide)) (SE.binop (SE.binop SE.const_int (SE.nm (i := 0) (compC_ok O.toOk0 rfl) rfl rfl (by decide)) (op_mul (by lia))) SE.const_int op_add) (by lia) (by lia) (getI (by lia)) (fun _ _ => rfl)) op_add)
      · rw [filter_true]
        congr 1
        simp only [ups, d16, List.map_map]
        apply List.map_congr_left
        intro k hk
        have e0 : ((2 : Int) * (0 + (k : Int) * ((1 : Nat) : Int))).toNat = 2 * k := by lia
        have e1 : ((2 : Int) * (0 + (k : Int) * ((1 : Nat) : Int)) + 1).toNat = 2 * k + 1 := by lia
        simp only [Function.comp, mI, e0, e1]
      · show RO.ret _ _ = _
        unfold f16
        rw [if_pos (by simp [hR]; lia)]
end Mine
end
section
set_option maxRecDepth 100000
set_option linter.unusedVariables false
set_option linter.unusedSimpArgs false
namespace Mine
variable {G : Glo} {pm cd : Value}
/-- an octet, or nought -/
noncomputable def oc (l : List UInt8) (i : Nat) : Int := ((l.getD i 0).toNat : Int)
theorem oc_in (l : List UInt8) (i : Nat) : 0 ≤ oc l i ∧ oc l i < 256 := u8_lt _
noncomputable def nums (l : List UInt8) (k : Nat) : Nat → Int
  | 0 => 0
  | m + 1 => nums l k m * 256 + oc l (k + m)
theorem nums_in (l : List UInt8) (k : Nat) : ∀ m, 0 ≤ nums l k m ∧ nums l k m < 256 ^ m
  | 0 => ⟨by simp [nums], by simp [nums]⟩
  | m + 1 => by
    have h := nums_in l k m
    have g := oc_in l (k + m)
    constructor
    · simp only [nums]; lia
    · simp only [nums]
      have : (256 : Int) ^ (m + 1) = 256 ^ m * 256 := by rw [Int.pow_succ]
      lia
noncomputable def sgn (p : Int) : Int := ((signs.getD p.toNat 0).toNat : Int)
noncomputable def four64 (n : Int) : List Int := [n / 262144, n / 4096 % 64, n / 64 % 64, n % 64]
noncomputable def left64 (l : List UInt8) (k : Nat) : Nat := min 3 (l.length - k)
noncomputable def grp64 (l : List UInt8) (k : Nat) : List Int := ((four64 (nums l k 3)).take (left64 l k + 1)).map sgn ++ List.replicate (3 - left64 l k) 61
noncomputable def e64 (l : List UInt8) (n : Nat) : List Int := (List.range n).flatMap fun m => grp64 l (3 * m)
theorem four64_in {n : Int} (h : 0 ≤ n ∧ n < 16777216) : ∀ p ∈ four64 n, 0 ≤ p ∧ p < 64 := fun p hp => by
  simp [four64] at hp
  rcases hp with rfl | rfl | rfl | rfl <;> lia
theorem sgn_in (p : Int) : 0 ≤ sgn p ∧ sgn p < 256 := u8_lt _
theorem grp64_in (l : List UInt8) (k : Nat) : ∀ x ∈ grp64 l k, 0 ≤ x ∧ x < 256 := fun x hx => by
  rcases List.mem_append.mp hx with h | h
  · obtain ⟨p, _, rfl⟩ := List.mem_map.mp h
    exact sgn_in p
  · have := List.eq_of_mem_replicate h; lia
theorem e64_in (l : List UInt8) (n : Nat) : ∀ x ∈ e64 l n, 0 ≤ x ∧ x < 256 := fun x hx => by
  obtain ⟨m, _, h⟩ := List.mem_flatMap.mp hx
  exact grp64_in l _ x h
theorem grp64_len (l : List UInt8) (k : Nat) : (grp64 l k).length = 4 := by
  simp [grp64, four64, left64]; lia
theorem flat_len {f : Nat → List Int} {c : Nat} (h : ∀ m, (f m).length ≤ c) : ∀ n, ((List.range n).flatMap f).length ≤ c * n
  | 0 => by simp
  | n + 1 => by
    rw [List.range_succ, List.flatMap_append, List.length_append]
    have := flat_len h n
    have g := h n
    simp only [List.flatMap_cons, List.flatMap_nil, List.append_nil]
    rw [Nat.mul_succ]; lia
theorem e64_len (l : List UInt8) (n : Nat) : (e64 l n).length ≤ 4 * n := flat_len (fun m => by rw [grp64_len]; exact Nat.le_refl _) n
theorem ups_get' {n d : Nat} {c : Int} {i : Nat} {v : I} (h : (ups n c d)[i]? = some v) : i < n ∧ v = .int (c + (i : Int) * (d : Int)) := by
  have hi : i < n := by
    have := (List.getElem?_eq_some_iff.mp h).1
    simpa [ups] using this
  rw [ups_get hi] at h
  exact ⟨hi, (Option.some.inj h).symm⟩
theorem rangeSize_up {b : Int} {n d : Nat} (hb : b = n) (hd : 0 < d) : Builtin.Range.rangeSize 0 b d = (((n + d - 1) / d : Nat) : Int) := by
  subst hb
  unfold Builtin.Range.rangeSize
  rw [if_pos (by lia)]
  by_cases h : (0 : Int) < n
  · rw [if_pos h]
    have e : ((n : Int) - 0 - 1) = ((n - 1 : Nat) : Int) := by lia
    rw [e]
    have e2 : (n + d - 1) / d = (n - 1) / d + 1 := by
      have : n + d - 1 = (n - 1) + d := by lia
      rw [this, Nat.add_div_right _ hd]
    rw [e2]; push_cast; rfl
  · rw [if_neg h]
    have : n = 0 := by lia
    subst this
    have : (0 + d - 1) / d = 0 := Nat.div_eq_of_lt (by lia)
    rw [this]; rfl

theorem sp_e64 (GO : G.Ok) (W : Gl G) (FS : FnAt G 198) (SS : Spec G 1 198 [] [] (fun o => o = .ret (.list (byI signs)) true)) (F : FnOk G 210 (mkFd 33 "_law_sixty_four" .none .none pm cd) (fB 33) ["row"] ["row", "signs", "text", "k", "number", "j", "four", "left"]) (row : List UInt8) (hl : row.length ≤ 1000) : Spec G 2 210 [vy row] [] (fun o => o = .ret (vy (toB (e64 row ((row.length + 2) / 3)))) true) := by
  refine Spec.of_cells GO F rfl (noMeths_im (l := [.bytes row])) (fun ws h => by
    obtain ⟨w, rfl⟩ := len_one h; rfl) fun A fs L O => ?_
  show BX _ [some (vy row), none, none, none, none, none, none, none] _ _
  refine BX.cons (BX1.assign_list O (i := 1) (SE.call O rfl W.lSigns (by decide) FS (noStars_of rfl) rfl rfl .nil .nil SS rfl) rfl (.inr rfl) (noMeth_of rfl) rfl ?_)
  refine BX.cons (BX1.assign_new O (l := []) (SE.listd (l := []) .nil (by decide)) (i := 2) rfl (.inl rfl) (noMeth_of rfl) rfl ?_)
  refine BX.cons (BX1.forg (i := 3) (fun n => [some (vy row), some (.list (byI signs)), some (.own ((e64 row n).map .int)), none, none, none, none, none]) O rfl rfl (.of_none (.range3 O rfl W.tRange rfl rfl rfl SE.const_int (SE.callB O.toOk0 rfl W.bLen (by decide) (by intro a q; cases q) rfl (.one (SE.nm (i := 0) O.toOk0 rfl rfl (by decide)) rfl) (co_len_bytes (by lia))) (SE.im (v' := vi ((3 : Nat) : Int)) SE.const_int rfl) (by lia) (by lia) (by lia) (by lia) (by lia) (by lia) (rangeSize_up (d := 3) rfl (by lia)))) rfl (.inl rfl) (Sub.refl _) (fun n => noMeth_of rfl) (fun n v hv => ?_) ?_ (fun _ => rfl))
  · obtain ⟨hn, rfl⟩ := ups_get' hv
    have hk : (0 + (n : Int) * ((3 : Nat) : Int)) = ((3 * n : Nat) : Int) := by push_cast; lia
    rw [hk]
    have hk' : 3 * n < row.length := by lia
    generalize hkk : 3 * n = k at *
    have hel : (e64 row n).length ≤ 2000 := by have := e64_len row n; lia
    show BX _ [some (vy row), some (.list (byI signs)), some (.own ((e64 row n).map .int)), some (vi k), none, none, none, none] _ _
    refine BX.cons (BX1.assign_im O SE.const_int (i := 4) rfl (.inl rfl) (noMeth_of rfl) rfl ?_)
    refine BX.cons (BX1.forg (i := 5) (fun m => [some (vy row), some (.list (byI signs)), some (.own ((e64 row n).map .int)), some (vi k), some (vi (nums row k m)), none, none, none]) O rfl rfl (.of_none (.range1 O rfl W.tRange rfl (SE.im (v' := vi ((3 : Nat) : Int)) SE.const_int rfl) (by lia))) rfl (.inl rfl) (Sub.refl _) (fun n => noMeth_of rfl) (fun m v hv => ?_) ?_ (fun _ => rfl))
    · obtain ⟨hm, rfl⟩ := ups_get' hv
      have hj : (0 + (m : Int) * ((1 : Nat) : Int)) = (m : Int) := by push_cast; lia
      rw [hj]
      show BX _ [some (vy row), some (.list (byI signs)), some (.own ((e64 row n).map .int)), some (vi k), some (vi (nums row k m)), some (vi m), none, none] _ _
      refine BX.cons (BX1.assign_im O (SE.binop (SE.binop (SE.nm (i := 4) O.toOk0 rfl rfl (by decide)) SE.const_int (op_mul (by lia))) (SE.ifexp (b := decide ((k : Int) + (m : Int) < (row.length : Int))) (v := vi (oc row (k + m))) (f := false) (ST.cmp (SE.binop (SE.nm (i := 3) O.toOk0 rfl rfl (by decide)) (SE.nm (i := 5) O.toOk0 rfl rfl (by decide)) op_add) (TC.one (SE.callB O.toOk0 rfl W.bLen (by decide) (by intro a q; cases q) rfl (.one (SE.nm (i := 0) O.toOk0 rfl rfl (by decide)) rfl) (co_len_bytes (by lia))) cmp_lt rfl)) (fun h => SE.old (SE.im (SE.sub_bytes (SE.nm (i := 0) O.toOk0 rfl rfl (by decide)) (SE.binop (SE.nm (i := 3) O.toOk0 rfl rfl (by decide)) (SE.nm (i := 5) O.toOk0 rfl rfl (by decide)) op_add) (by lia) (by simp at h; lia) (by lia) (fun _ _ => rfl)) ?_)) (fun h => SE.old (SE.im SE.const_int ?_))) op_add) (i := 4) rfl (.inl rfl) (noMeth_of rfl) rfl ?_)
      · show vi _ = vi _
        rw [show ((k : Int) + (m : Int)).toNat = k + m by lia]; rfl
      · show vi _ = vi _
        simp at h
        have : row.getD (k + m) 0 = 0 := by
          rw [List.getD_eq_getElem?_getD, List.getElem?_eq_none (by lia)]; rfl
        rw [oc, this]; rfl
      · exact BX.done (Γ' := [some (vy row), some (.list (byI signs)), some (.own ((e64 row n).map .int)), some (vi k), some (vi (nums row k (m + 1))), none, none, none]) (.k (.k (.k (.k (.k (.d (.k (.k .nil)))))))) rfl
    · rw [show (ups 3 0 1).length = 3 from rfl]
      have hin := nums_in row k 3
      have h64 := four64_in (n := nums row k 3) ⟨hin.1, by have := hin.2; lia⟩
      have hleft : left64 row k ≤ 3 := by simp [left64]; lia
      refine BX.cons (BX1.assign_list O (i := 6) (l := (four64 (nums row k 3)).map .int) (SE.listd (l := (four64 (nums row k 3)).map .int) ?_ (by simp [four64])) rfl (.inl rfl) (noMeth_of rfl) rfl ?_)
      · exact .cons (SE.binop (SE.nm (i := 4) O.toOk0 rfl rfl (by decide)) SE.const_int (op_div (by decide) (by decide))) (.cons (SE.binop (SE.binop (SE.nm (i := 4) O.toOk0 rfl rfl (by decide)) SE.const_int (op_div (by decide) (by decide))) SE.const_int (op_mod (by decide))) (.cons (SE.binop (SE.binop (SE.nm (i := 4) O.toOk0 rfl rfl (by decide)) SE.const_int (op_div (by decide) (by decide))) SE.const_int (op_mod (by decide))) (.one (SE.binop (SE.nm (i := 4) O.toOk0 rfl rfl (by decide)) SE.const_int (op_mod (by decide))) rfl) (fun _ => rfl)) (fun _ => rfl)) (fun _ => rfl)
      refine BX.cons (BX1.assign_im O (SE.im (v' := vi (left64 row k)) (SE.callB O.toOk0 rfl W.bMin (by decide) (by intro a q; cases q) rfl (.two SE.const_int rfl (SE.binop (SE.callB O.toOk0 rfl W.bLen (by decide) (by intro a q; cases q) rfl (.one (SE.nm (i := 0) O.toOk0 rfl rfl (by decide)) rfl) (co_len_bytes (by lia))) (SE.nm (i := 3) O.toOk0 rfl rfl (by decide)) op_sub) rfl) (co_min O.handled)) ?_) (i := 7) rfl (.inl rfl) (noMeth_of rfl) rfl ?_)
      · show vi _ = vi _
        congr 2
        unfold left64
        split <;> lia
      · show BX _ [some (vy row), some (.list (byI signs)), some (.own ((e64 row n).map .int)), some (vi k), some (vi (nums row k 3)), none, some (.list ((four64 (nums row k 3)).map .int)), some (vi (left64 row k))] _ _
        refine BX.cons (BX1.assign_new O (i := 2) (l := (e64 row (n + 1)).map .int) (SE.im (SE.binop (SE.binop (SE.no (i := 2) O.toOk0 rfl rfl (by decide)) (SE.comp (cl := [("signs", L + 1)]) (caps := ["signs"]) (vs := [.list (byI signs)]) (pt := fun _ => true) (F := mI sgn) (items := cut ((four64 (nums row k 3)).map .int) none (some ((left64 row k + 1 : Nat) : Int))) (f := false) rfl (by decide) rfl (by decide) rfl
          (.list O.handled (SE.cut_list (SE.nl (i := 6) O.toOk0 rfl rfl (by decide)) .none (.some (SE.im (v' := vi ((left64 row k + 1 : Nat) : Int)) (SE.binop (SE.nm (i := 7) O.toOk0 rfl rfl (by decide)) SE.const_int op_add) (by congr 2))) (by simp [four64]))) (fun _ => rfl) (.one (i := 1) rfl rfl rfl (fun _ => rfl) rfl rfl) ?_ ?_ (fun _ _ _ => .nil) (fun L' v hv _ => ?_)) (op_add_lists ?_))
          (SE.binop (SE.listd (l := [.int 61]) (.one SE.const_int rfl) (by decide)) (SE.im (v' := vi ((3 - left64 row k : Nat) : Int)) (SE.binop SE.const_int (SE.nm (i := 7) O.toOk0 rfl rfl (by decide)) op_sub) (by show vi _ = vi _; congr 2; lia)) (op_mul_list (by lia) (by lia) (by simp))) (op_add_lists ?_)) ?_) rfl (.inl rfl) (noMeth_of rfl) rfl ?_)
        · intro i hi v q
          rw [cut_to] at hi
          obtain ⟨p, _, rfl⟩ := List.mem_map.mp (List.mem_of_mem_take hi)
          cases q
        · exact Nat.le_trans (cut_len _ _ _) (by simp [four64])
        · rw [cut_to] at hv
          obtain ⟨p, hp, rfl⟩ := List.mem_map.mp (List.mem_of_mem_take hv)
          have := h64 p hp
          exact SE.sub_list (i := p) (SE.nl (i := 1) (compC_ok O.toOk0 rfl) rfl rfl (by decide)) (SE.nm (i := 0) (compC_ok O.toOk0 rfl) rfl rfl (by decide)) (by lia) (by lia) (byI_at (by simp [signs]; lia)) (fun _ _ => rfl)
        · rw [List.length_map, filter_true, List.length_map]
          have := cut_len ((four64 (nums row k 3)).map I.int) none (some ((left64 row k + 1 : Nat) : Int))
          simp [four64] at this ⊢
          lia
        · rw [List.length_append, List.length_map, filter_true, List.length_map]
          have := cut_len ((four64 (nums row k 3)).map I.int) none (some ((left64 row k + 1 : Nat) : Int))
          simp [four64] at this ⊢
          lia
        · congr 1
          have es : e64 row (n + 1) = e64 row n ++ grp64 row k := by
            simp only [e64, List.range_succ, List.flatMap_append, List.flatMap_cons, List.flatMap_nil, List.append_nil, hkk]
          rw [es, filter_true, cut_to, grp64]
          simp [mI, ← List.map_take, List.map_replicate, List.flatten_replicate_singleton]
        · exact BX.done (.k (.k (.k (.d (.d (.d (.d (.d .nil)))))))) rfl
  · rw [show (ups ((row.length + 3 - 1) / 3) 0 3).length = (row.length + 2) / 3 by simp [ups]]
    have := e64_len row ((row.length + 2) / 3)
    exact BX.cons (BX1.reti (SE.callB O.toOk0 rfl W.tBytes (by decide) (by intro a q; cases q) rfl (.one (SE.no (i := 2) O.toOk0 rfl rfl (by decide)) rfl) (co_bytes_list O.handled (e64_in row _) (by lia))) nr_bytes rfl)
end Mine
end
section
set_option maxRecDepth 100000
set_option linter.unusedVariables false
set_option linter.unusedSimpArgs false
namespace Mine
variable {G : Glo} {pm cd : Value}
noncomputable def bI (l : List UInt8) : List Int := l.map fun c => (c.toNat : Int)
theorem byI_bI (l : List UInt8) : byI l = (bI l).map .int := by simp [byI, bI]
theorem bI_len (l : List UInt8) : (bI l).length = l.length := by simp [bI]
noncomputable def num256 (l : List Int) : Int := l.foldl (fun a x => a * 256 + x) 0
noncomputable def q85 (l : List UInt8) (k : Nat) : List UInt8 := (l.drop k).take 4
noncomputable def pad4 (l : List UInt8) : List Int := bI l ++ List.replicate (4 - l.length) 0
noncomputable def grp85 (l : List UInt8) (sp : Bool) (k : Nat) : List Int :=
  if bI (q85 l k) = [0, 0, 0, 0] then [122] else if sp && decide (bI (q85 l k) = [32, 32, 32, 32]) then [121]
  else ((five (num256 (pad4 (q85 l k)))).take ((q85 l k).length + 1)).map (33 + ·)
noncomputable def e85 (l : List UInt8) (sp : Bool) (n : Nat) : List Int := (List.range n).flatMap fun m => grp85 l sp (4 * m)
noncomputable def rowW (t : List Int) (w : Int) (k : Nat) : List Int := t.getD k 0 :: if (k : Int) % w = w - 1 then [10] else []
noncomputable def rowsW (t : List Int) (w : Int) (n : Nat) : List Int := (List.range n).flatMap (rowW t w)
noncomputable def wide85 (t : List Int) (w : Int) : List Int := if w = 0 then t else rowsW t w t.length
noncomputable def frame85 (t : List Int) (fr : Bool) : List Int := if fr then [60, 126] ++ t ++ [126, 62] else t
noncomputable def l85 (l : List UInt8) (sp fr : Bool) (w : Int) : List Int := frame85 (wide85 (e85 l sp ((l.length + 3) / 4)) w) fr

theorem five_in (n : Int) : ∀ p ∈ five n, 0 ≤ p ∧ p < 85 := fun p hp => by
  simp [five] at hp
  rcases hp with rfl | rfl | rfl | rfl | rfl <;> lia
theorem grp85_in (l : List UInt8) (sp : Bool) (k : Nat) : ∀ x ∈ grp85 l sp k, 0 ≤ x ∧ x < 256 := fun x hx => by
  unfold grp85 at hx
  split at hx
  · simp at hx; lia
  · split at hx
    · simp at hx; lia
    · obtain ⟨p, hp, rfl⟩ := List.mem_map.mp hx
      have := five_in _ p (List.mem_of_mem_take hp)
      lia
theorem e85_in (l : List UInt8) (sp : Bool) (n : Nat) : ∀ x ∈ e85 l sp n, 0 ≤ x ∧ x < 256 := fun x hx => by
  obtain ⟨m, _, h⟩ := List.mem_flatMap.mp hx
  exact grp85_in l sp _ x h
theorem grp85_len (l : List UInt8) (sp : Bool) (k : Nat) : (grp85 l sp k).length ≤ 5 := by
  unfold grp85
  split
  · simp
  · split
    · simp
    · rw [List.length_map, List.length_take]; simp only [five, List.length_cons, List.length_nil]; lia
theorem e85_len (l : List UInt8) (sp : Bool) (n : Nat) : (e85 l sp n).length ≤ 5 * n := flat_len (fun m => grp85_len ..) n
theorem rowsW_len (t : List Int) (w : Int) (n : Nat) : (rowsW t w n).length ≤ 2 * n := flat_len (fun k => by unfold rowW; split <;> simp) n
theorem rowsW_in {t : List Int} {w : Int} (h : ∀ x ∈ t, 0 ≤ x ∧ x < 256) (n : Nat) : ∀ x ∈ rowsW t w n, 0 ≤ x ∧ x < 256 := fun x hx => by
  obtain ⟨k, _, h2⟩ := List.mem_flatMap.mp hx
  rcases List.mem_cons.mp h2 with rfl | h2
  · by_cases q : k < t.length
    · have : t.getD k 0 = t[k] := by simp [q]
      rw [this]; exact h _ (List.getElem_mem q)
    · have : t.getD k 0 = 0 := by rw [List.getD_eq_getElem?_getD, List.getElem?_eq_none (by lia)]; rfl
      rw [this]; lia
  · split at h2
    · simp at h2; lia
    · simp at h2
theorem wide85_in {t : List Int} {w : Int} (h : ∀ x ∈ t, 0 ≤ x ∧ x < 256) : ∀ x ∈ wide85 t w, 0 ≤ x ∧ x < 256 := by
  unfold wide85; split
  · exact h
  · exact rowsW_in h _
theorem wide85_len (t : List Int) (w : Int) : (wide85 t w).length ≤ 2 * t.length := by
  unfold wide85; split
  · lia
  · exact rowsW_len _ _ _
theorem frame85_in {t : List Int} {fr : Bool} (h : ∀ x ∈ t, 0 ≤ x ∧ x < 256) : ∀ x ∈ frame85 t fr, 0 ≤ x ∧ x < 256 := by
  unfold frame85; split
  · intro x hx
    simp only [List.cons_append, List.nil_append, List.mem_append, List.mem_cons, List.not_mem_nil, or_false] at hx
    rcases hx with rfl | rfl | hx | rfl | rfl
    · lia
    · lia
    · exact h x hx
    · lia
    · lia
  · exact h

theorem sp_e85 (GO : G.Ok) (W : Gl G) (FF : FnAt G 217) (SF : ∀ n, Spec G 1 217 [vi n] [] (fun o => o = .ret (.list ((five n).map .int)) true)) (F : FnOk G 222 (mkFd 35 "_law_eighty_five" .none .none pm cd) (fB 35) ["row", "spaces", "frame", "wide"] ["row", "spaces", "frame", "wide", "text", "k", "four", "short", "number", "x", "rows"])
    (row : List UInt8) (sp fr : Bool) (wide : Int) (hl : row.length ≤ 1000) (hw : 0 ≤ wide) : Spec G 2 222 [vy row, vb sp, vb fr, vi wide] [] (fun o => o = .ret (vy (toB (l85 row sp fr wide))) true) := by
  refine Spec.of_body (vs' := [vy row, vb sp, vb fr, vi wide]) GO F (show ∀ x ∈ (fS 35).names, x.2 ≠ .cell by decide) rfl (noMeths_im (l := [.bytes row, .bool sp, .bool fr, .int wide])) (fun s ws kw _ h _ => ?_) fun A fs L O => ?_
  · obtain ⟨w, u, v, t, rfl, h1, h2, h3, h4⟩ := all2_four h
    exact ⟨[w, u, v, t], .cons h1 (.cons h2 (.cons h3 (.cons h4 .nil))), .of_eq rfl⟩
  show BX _ [some (vy row), some (vb sp), some (vb fr), some (vi wide), none, none, none, none, none, none, none] _ _
  refine BX.cons (BX1.assign_new O (l := []) (SE.listd (l := []) .nil (by decide)) (i := 4) rfl (.inl rfl) (noMeth_of rfl) rfl ?_)
  have hlE := e85_len row sp ((row.length + 3) / 4)
  refine BX.cons (BX1.forg (i := 5) (fun n => [some (vy row), some (vb sp), some (vb fr), some (vi wide), some (.own ((e85 row sp n).map .int)), none, none, none, none, none, none]) O rfl rfl (.of_none (.range3 O rfl W.tRange rfl rfl rfl SE.const_int (SE.callB O.toOk0 rfl W.bLen (by decide) (by intro a q; cases q) rfl (.one (SE.nm (i := 0) O.toOk0 rfl rfl (by decide)) rfl) (co_len_bytes (by lia))) (SE.im (v' := vi ((4 : Nat) : Int)) SE.const_int rfl) (by lia) (by lia) (by lia) (by lia) (by lia) (by lia) (rangeSize_up (d := 4) rfl (by lia)))) rfl (.inl rfl) (Sub.refl _) (fun n => noMeth_of rfl) (fun n v hv => ?_) ?_ (fun _ => rfl))
  · obtain ⟨hn, rfl⟩ := ups_get' hv
    have hk : (0 + (n : Int) * ((4 : Nat) : Int)) = ((4 * n : Nat) : Int) := by push_cast; lia
    rw [hk]
    have hk' : 4 * n < row.length := by lia
    generalize hkk : 4 * n = k at *
    have hel : (e85 row sp n).length ≤ 2000 := by have := e85_len row sp n; lia
    have hq : (q85 row k).length ≤ 4 := by simp [q85]; lia
    have es : e85 row sp (n + 1) = e85 row sp n ++ grp85 row sp k := by
      simp only [e85, List.range_succ, List.flatMap_append, List.flatMap_cons, List.flatMap_nil, List.append_nil, hkk]
    show BX _ [some (vy row), some (vb sp), some (vb fr), some (vi wide), some (.own ((e85 row sp n).map .int)), some (vi k), none, none, none, none, none] _ _
    refine BX.cons (BX1.assign_list O (i := 6) (l := byI (q85 row k)) (SE.im (SE.callB O.toOk0 rfl W.tList (by decide) (by intro a q; cases q) rfl (.one (SE.cut_bytes (SE.nm (i := 0) O.toOk0 rfl rfl (by decide)) (.some (SE.nm (i := 5) O.toOk0 rfl rfl (by decide))) (.some (SE.im (v' := vi ((k + 4 : Nat) : Int)) (SE.binop (SE.nm (i := 5) O.toOk0 rfl rfl (by decide)) SE.const_int op_add) (by congr 2))) (by lia)) rfl) (co_list_bytes O.handled (Nat.le_trans (cut_len _ _ _) (by lia)))) (by rw [cut_mid]; rfl)) rfl (.inl rfl) (noMeth_of rfl) rfl ?_)
    refine BX.cons (BX1.assign_im O (SE.im (v' := vi ((4 - (q85 row k).length : Nat) : Int)) (SE.binop SE.const_int (SE.callB O.toOk0 rfl W.bLen (by decide) (by intro a q; cases q) rfl (.one (SE.nl (i := 6) O.toOk0 rfl rfl (by decide)) rfl) (co_len_list (by rw [byI_len]; lia))) op_sub) (by show vi _ = vi _; rw [byI_len]; congr 2; lia)) (i := 7) rfl (.inl rfl) (noMeth_of rfl) rfl ?_)
    show BX _ [some (vy row), some (vb sp), some (vb fr), some (vi wide), some (.own ((e85 row sp n).map .int)), some (vi k), some (.list (byI (q85 row k))), some (vi ((4 - (q85 row k).length : Nat) : Int)), none, none, none] _ _
    refine BX.cons (BX1.ite (ST.cmp (SE.im (v' := .list ((bI (q85 row k)).map .int)) (SE.nl (i := 6) O.toOk0 rfl rfl (by decide)) (by rw [byI_bI])) (TC.one (SE.listd (l := ([0, 0, 0, 0] : List Int).map .int) (.cons SE.const_int (.three SE.const_int rfl SE.const_int rfl SE.const_int rfl) (fun _ => rfl)) (by decide)) (cmp_eq_ints (by have := O.units; lia)) rfl)) (fun h => ?_) fun h => ?_)
    · refine BX.cons (BX1.append O (i := 4) rfl rfl (by decide) SE.const_int rfl (by simp; lia) rfl rfl ?_)
      simp at h
      refine BX.nil (BX.done (Γ' := [some (vy row), some (vb sp), some (vb fr), some (vi wide), some (.own ((e85 row sp (n + 1)).map .int)), none, none, none, none, none, none]) ?_ rfl)
      have : grp85 row sp k = [122] := by unfold grp85; rw [if_pos h]
      rw [es, this, List.map_append]
      exact .k (.k (.k (.k (.k (.d (.d (.d (.k (.k (.k .nil))))))))))
    simp only [decide_eq_false_iff_not] at h
    refine BX.cons (BX1.ite (ST.and (TAnd.cons (ST.val (SE.nm (i := 1) O.toOk0 rfl rfl (by decide)) tr_bool (fun _ _ => rfl)) fun _ => TAnd.cons (ST.cmp (SE.im (v' := .list ((bI (q85 row k)).map .int)) (SE.nl (i := 6) O.toOk0 rfl rfl (by decide)) (by rw [byI_bI])) (TC.one (SE.listd (l := ([32, 32, 32, 32] : List Int).map .int) (.cons SE.const_int (.three SE.const_int rfl SE.const_int rfl SE.const_int rfl) (fun _ => rfl)) (by decide)) (cmp_eq_ints (by have := O.units; lia)) rfl)) fun _ => TAnd.nil)) (fun h2 => ?_) fun h2 => ?_)
    · refine BX.cons (BX1.append O (i := 4) rfl rfl (by decide) SE.const_int rfl (by simp; lia) rfl rfl ?_)
      simp only [Bool.and_true] at h2
      refine BX.nil (BX.nil (BX.done (Γ' := [some (vy row), some (vb sp), some (vb fr), some (vi wide), some (.own ((e85 row sp (n + 1)).map .int)), none, none, none, none, none, none]) ?_ rfl))
      have : grp85 row sp k = [121] := by unfold grp85; rw [if_neg h, if_pos h2]
      rw [es, this, List.map_append]
      exact .k (.k (.k (.k (.k (.d (.d (.d (.k (.k (.k .nil))))))))))
    simp only [Bool.and_true] at h2
    have hg : grp85 row sp k = ((five (num256 (pad4 (q85 row k)))).take ((q85 row k).length + 1)).map (33 + ·) := by unfold grp85; rw [if_neg h, if_neg (by rw [h2]; exact Bool.false_ne_true)]
    refine BX.cons (BX1.assign_im O SE.const_int (i := 8) rfl (.inl rfl) (noMeth_of rfl) rfl ?_)
    refine BX.cons (BX1.forg (i := 9) (fun m => [some (vy row), some (vb sp), some (vb fr), some (vi wide), some (.own ((e85 row sp n).map .int)), some (vi k), some (.list (byI (q85 row k))), some (vi ((4 - (q85 row k).length : Nat) : Int)), some (vi (num256 ((pad4 (q85 row k)).take m))), none, none]) O rfl rfl (.new O (l := (pad4 (q85 row k)).map .int) (SE.im (SE.binop (SE.nl (i := 6) O.toOk0 rfl rfl (by decide)) (SE.binop (SE.listd (l := [.int 0]) (.one SE.const_int rfl) (by decide)) (SE.nm (i := 7) O.toOk0 rfl rfl (by decide)) (op_mul_list (by lia) (by lia) (by simp))) (op_add_lists ?_)) ?_)) rfl (.inl rfl) (Sub.refl _) (fun n => noMeth_of rfl) (fun m v hv => ?_) ?_ (fun _ => rfl))
    · rw [byI_len]; simp; lia
    · rw [byI_bI]; simp [pad4, List.flatten_replicate_singleton]
    · rw [List.getElem?_map, Option.map_eq_some_iff] at hv
      obtain ⟨x, hx, rfl⟩ := hv
      show BX _ [some (vy row), some (vb sp), some (vb fr), some (vi wide), some (.own ((e85 row sp n).map .int)), some (vi k), some (.list (byI (q85 row k))), some (vi ((4 - (q85 row k).length : Nat) : Int)), some (vi (num256 ((pad4 (q85 row k)).take m))), some (vi x), none] _ _
      refine BX.cons (BX1.assign_im O (SE.binop (SE.binop (SE.nm (i := 8) O.toOk0 rfl rfl (by decide)) SE.const_int (op_mul (by lia))) (SE.nm (i := 9) O.toOk0 rfl rfl (by decide)) op_add) (i := 8) rfl (.inl rfl) (noMeth_of rfl) rfl ?_)
      refine BX.done (Γ' := [some (vy row), some (vb sp), some (vb fr), some (vi wide), some (.own ((e85 row sp n).map .int)), some (vi k), some (.list (byI (q85 row k))), some (vi ((4 - (q85 row k).length : Nat) : Int)), some (vi (num256 ((pad4 (q85 row k)).take (m + 1)))), none, none]) ?_ rfl
      have e : num256 ((pad4 (q85 row k)).take (m + 1)) = num256 ((pad4 (q85 row k)).take m) * 256 + x := by rw [take_next hx]; simp [num256]
      rw [e]
      exact .k (.k (.k (.k (.k (.k (.k (.k (.k (.d (.k .nil))))))))))
    · rw [List.length_map, List.take_length]
      refine BX.cons (BX1.assign_new O (i := 4) (l := (e85 row sp (n + 1)).map .int) (SE.im (SE.binop (SE.no (i := 4) O.toOk0 rfl rfl (by decide)) (SE.comp (cl := []) (caps := []) (vs := []) (pt := fun _ => true) (F := mI (33 + ·)) (items := cut ((five (num256 (pad4 (q85 row k)))).map .int) none (some (((q85 row k).length + 1 : Nat) : Int))) (f := true) rfl (by decide) rfl (by decide) rfl
          (.list O.handled (SE.cut_list (SE.call O rfl W.lFive (by decide) FF (noStars_of rfl) rfl rfl (.one (SE.nm (i := 8) O.toOk0 rfl rfl (by decide)) rfl) .nil (SF _) rfl) .none (.some (SE.im (v' := vi (((q85 row k).length + 1 : Nat) : Int)) (SE.binop SE.const_int (SE.nm (i := 7) O.toOk0 rfl rfl (by decide)) op_sub) (by show vi _ = vi _; congr 2; lia))) (by simp [five]))) (fun _ => rfl) .none ?_ ?_ (fun _ _ _ => .nil) (fun L' v hv _ => ?_)) (op_add_lists ?_)) ?_) rfl (.inl rfl) (noMeth_of rfl) rfl ?_)
      · intro i hi v q
        rw [cut_to] at hi
        obtain ⟨p, _, rfl⟩ := List.mem_map.mp (List.mem_of_mem_take hi)
        cases q
      · exact Nat.le_trans (cut_len _ _ _) (by simp [five])
      · rw [cut_to] at hv
        obtain ⟨p, hp, rfl⟩ := List.mem_map.mp (List.mem_of_mem_take hv)
        exact (SE.binop SE.const_int (SE.nm (i := 0) (compC_ok O.toOk0 rfl) rfl rfl (by decide)) op_add)
      · rw [List.length_map, filter_true, List.length_map]
        have := cut_len ((five (num256 (pad4 (q85 row k)))).map I.int) none (some (((q85 row k).length + 1 : Nat) : Int))
        simp [five] at this ⊢
        lia
      · congr 1
        rw [es, filter_true, cut_to, hg]
        simp [mI, ← List.map_take]
      · refine BX.nil (BX.nil (BX.done (Γ' := [some (vy row), some (vb sp), some (vb fr), some (vi wide), some (.own ((e85 row sp (n + 1)).map .int)), none, none, none, none, none, none]) ?_ rfl))
        exact .k (.k (.k (.k (.k (.d (.d (.d (.d (.d (.d .nil))))))))))
  rw [show (ups ((row.length + 4 - 1) / 4) 0 4).length = (row.length + 3) / 4 by simp [ups]]
  have hin := e85_in row sp ((row.length + 3) / 4)
  unfold l85
  generalize e85 row sp ((row.length + 3) / 4) = t at *
  have htl : t.length ≤ 2000 := by lia
  have step : ∀ (u : List Int), (∀ x ∈ u, 0 ≤ x ∧ x < 256) → u.length ≤ 4000 → ∀ (V : V), (V = .own (u.map .int) ∨ V = .list (u.map .int)) → BX (mkC G A fs (callEnv (mkFd 35 "_law_eighty_five" .none .none pm cd) L 222) ["row", "spaces", "frame", "wide", "text", "k", "four", "short", "number", "x", "rows"] 1) [some (vy row), some (vb sp), some (vb fr), some (vi wide), some V, none, none, none, none, none, none] ((fB 35).drop 3) (Outs fun o => o = .ret (vy (toB (frame85 u fr))) true) := by
    intro u hu hul V hV
    have ht : SE (mkC G A fs (callEnv (mkFd 35 "_law_eighty_five" .none .none pm cd) L 222) ["row", "spaces", "frame", "wide", "text", "k", "four", "short", "number", "x", "rows"] 1) [some (vy row), some (vb sp), some (vb fr), some (vi wide), some V, none, none, none, none, none, none] (.Name "text" ⟨0, 0, 0, 0⟩) (.list (u.map .int)) false := by
      rcases hV with rfl | rfl
      · exact (SE.no (i := 4) O.toOk0 rfl rfl (by decide))
      · exact (SE.nl (i := 4) O.toOk0 rfl rfl (by decide))
    have ht' : ∀ p, SE (mkC G A fs (callEnv (mkFd 35 "_law_eighty_five" .none .none pm cd) L 222) ["row", "spaces", "frame", "wide", "text", "k", "four", "short", "number", "x", "rows"] 1) [some (vy row), some (vb sp), some (vb fr), some (vi wide), some V, none, none, none, none, none, none] (.Name "text" p) (.list (u.map .int)) false := by
      intro p
      rcases hV with rfl | rfl
      · exact (SE.no (i := 4) O.toOk0 rfl rfl (by decide))
      · exact (SE.nl (i := 4) O.toOk0 rfl rfl (by decide))
    have fin : ∀ (u2 : List Int) (V2 : Mine.V), (∀ x ∈ u2, 0 ≤ x ∧ x < 256) → u2.length ≤ 5000 → (V2 = .own (u2.map .int) ∨ V2 = .list (u2.map .int)) → BX (mkC G A fs (callEnv (mkFd 35 "_law_eighty_five" .none .none pm cd) L 222) ["row", "spaces", "frame", "wide", "text", "k", "four", "short", "number", "x", "rows"] 1) [some (vy row), some (vb sp), some (vb fr), some (vi wide), some V2, none, none, none, none, none, none] ((fB 35).drop 4) (Outs fun o => o = .ret (vy (toB u2)) true) := by
      intro u2 V2 h1 h2 h3
      rcases h3 with rfl | rfl
      · exact BX.cons (BX1.reti (SE.callB O.toOk0 rfl W.tBytes (by decide) (by intro a q; cases q) rfl (.one (SE.no (i := 4) O.toOk0 rfl rfl (by decide)) rfl) (co_bytes_list O.handled h1 (by lia))) nr_bytes rfl)
      · exact BX.cons (BX1.reti (SE.callB O.toOk0 rfl W.tBytes (by decide) (by intro a q; cases q) rfl (.one (SE.nl (i := 4) O.toOk0 rfl rfl (by decide)) rfl) (co_bytes_list O.handled h1 (by lia))) nr_bytes rfl)
    refine BX.cons (BX1.ite (ST.val (SE.nm (i := 2) O.toOk0 rfl rfl (by decide)) tr_bool (fun _ _ => rfl)) (fun h => ?_) fun h => ?_)
    · subst h
      refine BX.cons (BX1.assign_new O (i := 4) (l := (frame85 u true).map .int) (SE.im (SE.binop (SE.binop (SE.listd (l := [.int 60, .int 126]) (.two SE.const_int rfl SE.const_int rfl) (by decide)) (ht' _) (op_add_lists (by simp; lia))) (SE.listd (l := [.int 126, .int 62]) (.two SE.const_int rfl SE.const_int rfl) (by decide)) (op_add_lists (by simp; lia))) (by simp [frame85])) rfl (.inl rfl) ?_ rfl ?_)
      · rcases hV with rfl | rfl <;> exact noMeth_of rfl
      · refine BX.nil (fin (frame85 u true) _ (frame85_in hu) (by simp [frame85]; lia) (.inl rfl))
    · subst h
      exact BX.nil (fin u V hu (by lia) hV)
  show BX _ [some (vy row), some (vb sp), some (vb fr), some (vi wide), some (.own (t.map .int)), none, none, none, none, none, none] _ _
  refine BX.cons (BX1.ite (ST.cmp (SE.nm (i := 3) O.toOk0 rfl rfl (by decide)) (TC.one SE.const_int cmp_ne rfl)) (fun h => ?_) fun h => ?_)
  · simp at h
    have hwp : 0 < wide := by lia
    have hwd : wide85 t wide = rowsW t wide t.length := by unfold wide85; rw [if_neg h]
    refine BX.cons (BX1.assign_new O (l := []) (SE.listd (l := []) .nil (by decide)) (i := 10) rfl (.inl rfl) (noMeth_of rfl) rfl ?_)
    refine BX.cons (BX1.forg (i := 5) (fun n => [some (vy row), some (vb sp), some (vb fr), some (vi wide), some (.own (t.map .int)), none, none, none, none, none, some (.own ((rowsW t wide n).map .int))]) O rfl rfl (.of_none (.range1 O rfl W.tRange rfl (SE.im (v' := vi (t.length : Int)) (SE.callB O.toOk0 rfl W.bLen (by decide) (by intro a q; cases q) rfl (.one (SE.no (i := 4) O.toOk0 rfl rfl (by decide)) rfl) (co_len_list (by simp; lia))) (by simp)) (by lia))) rfl (.inl rfl) (Sub.refl _) (fun n => noMeth_of rfl) (fun n v hv => ?_) ?_ (fun _ => rfl))
    · obtain ⟨hn, rfl⟩ := ups_get' hv
      rw [show (0 + (n : Int) * ((1 : Nat) : Int)) = (n : Int) by push_cast; lia]
      have hrl := rowsW_len t wide n
      have es : rowsW t wide (n + 1) = rowsW t wide n ++ rowW t wide n := by
        simp only [rowsW, List.range_succ, List.flatMap_append, List.flatMap_cons, List.flatMap_nil, List.append_nil]
      show BX _ [some (vy row), some (vb sp), some (vb fr), some (vi wide), some (.own (t.map .int)), some (vi n), none, none, none, none, some (.own ((rowsW t wide n).map .int))] _ _
      refine BX.cons (BX1.append O (i := 10) rfl rfl (by decide) (SE.sub_list (i := (n : Int)) (SE.no (i := 4) O.toOk0 rfl rfl (by decide)) (SE.nm (i := 5) O.toOk0 rfl rfl (by decide)) (by lia) (by lia) (getI (l := t) (n := n) hn) (fun _ _ => rfl)) rfl (by simp; lia) rfl rfl ?_)
      refine BX.cons (BX1.ite (ST.cmp (SE.binop (SE.nm (i := 5) O.toOk0 rfl rfl (by decide)) (SE.nm (i := 3) O.toOk0 rfl rfl (by decide)) (op_mod hwp)) (TC.one (SE.binop (SE.nm (i := 3) O.toOk0 rfl rfl (by decide)) SE.const_int op_sub) cmp_eq rfl)) (fun h => ?_) fun h => ?_)
      · refine BX.cons (BX1.append O (i := 10) rfl rfl (by decide) SE.const_int rfl (by simp; lia) rfl rfl ?_)
        simp at h
        refine BX.nil (BX.done (Γ' := [some (vy row), some (vb sp), some (vb fr), some (vi wide), some (.own (t.map .int)), none, none, none, none, none, some (.own ((rowsW t wide (n + 1)).map .int))]) ?_ rfl)
        have e : (rowsW t wide (n + 1)).map I.int = (rowsW t wide n).map I.int ++ [.int (t.getD n 0)] ++ [.int 10] := by
          rw [es]; unfold rowW; rw [if_pos h]; simp
        rw [e]
        exact .k (.k (.k (.k (.k (.d (.k (.k (.k (.k (.k .nil))))))))))
      · simp at h
        refine BX.nil (BX.done (Γ' := [some (vy row), some (vb sp), some (vb fr), some (vi wide), some (.own (t.map .int)), none, none, none, none, none, some (.own ((rowsW t wide (n + 1)).map .int))]) ?_ rfl)
        have e : (rowsW t wide (n + 1)).map I.int = (rowsW t wide n).map I.int ++ [.int (t.getD n 0)] := by
          rw [es]; unfold rowW; rw [if_neg h]; simp
        rw [e]
        exact .k (.k (.k (.k (.k (.d (.k (.k (.k (.k (.k .nil))))))))))
    · rw [show (ups t.length 0 1).length = t.length by simp [ups]]
      refine BX.cons (BX1.assign_alias O (i := 4) (l := (rowsW t wide t.length).map .int) (SE.old (SE.no (i := 10) O.toOk0 rfl rfl (by decide))) rfl (.inl rfl) (noMeth_of rfl) rfl ?_)
      refine BX.nil (BX.drop (Γ' := [some (vy row), some (vb sp), some (vb fr), some (vi wide), some (.list ((wide85 t wide).map .int)), none, none, none, none, none, none]) ?_ (step (wide85 t wide) (wide85_in hin) (by have := wide85_len t wide; lia) _ (.inr rfl)))
      rw [hwd]
      exact .k (.k (.k (.k (.k (.k (.k (.k (.k (.k (.d .nil))))))))))
  · simp at h
    have hwd : wide85 t wide = t := by unfold wide85; rw [if_pos h]
    rw [hwd]
    exact BX.nil (step t hin (by lia) _ (.inl rfl))
end Mine
end
section
set_option maxRecDepth 100000
set_option linter.unusedVariables false
set_option linter.unusedSimpArgs false
namespace Mine
variable {G : Glo} {pm cd : Value}
noncomputable def idx (c : UInt8) : Int := ((bI signs).idxOf (c.toNat : Int) : Nat)
noncomputable def isSign (c : UInt8) : Bool := (bI signs).any (· == (c.toNat : Int))
noncomputable def step64 (st : List Int × Int) (c : UInt8) : Option (List Int × Int) :=
  if (c.toNat : Int) = 61 then some (st.1, st.2 + 1) else if st.2 ≠ 0 ∨ isSign c = false then none else some (st.1 ++ [idx c], st.2)
noncomputable def scan64 (t : List UInt8) : Option (List Int × Int) := t.foldlM step64 ([], 0)
noncomputable def numr (l : List Int) (k : Nat) : Nat → Int
  | 0 => 0
  | m + 1 => numr l k m * 64 + l.getD (k + m) 0
noncomputable def three64 (n : Int) : List Int := [n / 65536, n / 256 % 256, n % 256]
noncomputable def grpd (l : List Int) (k : Nat) : List Int := (three64 (numr l k 4)).take (min 3 (l.length - k - 1))
noncomputable def o64 (l : List Int) (n : Nat) : List Int := (List.range n).flatMap fun m => grpd l (4 * m)
noncomputable def end64 (r : List Int) (pads : Int) : I :=
  if pads > ([0, 3, 2, 1] : List Int).getD (r.length % 4) 0 then .none
  else if r.length % 4 = 1 ∨ (r.length % 4 = 2 ∧ pads ≠ 2) ∨ (r.length % 4 = 3 ∧ pads ≠ 1) then .bool false
  else .bytes (toB (o64 r ((r.length + 3) / 4)))
noncomputable def f64 (t : List UInt8) : I := match scan64 t with
  | none => .bool false
  | some (r, pads) => end64 r pads

noncomputable def Ok64 (r : List Int) (pads : Int) (n : Nat) : Prop := (∀ x ∈ r, 0 ≤ x ∧ x < 64) ∧ 0 ≤ pads ∧ r.length ≤ n ∧ pads ≤ n
theorem idx_in {c : UInt8} (h : isSign c = true) : 0 ≤ idx c ∧ idx c < 64 ∧ (c.toNat : Int) ∈ bI signs := by
  have hm : (c.toNat : Int) ∈ bI signs := by
    obtain ⟨x, hx, e⟩ := List.any_eq_true.mp h
    rw [beq_iff_eq] at e
    exact e ▸ hx
  refine ⟨by unfold idx; lia, ?_, hm⟩
  have := List.idxOf_lt_length_iff.mpr hm
  have e : (bI signs).length = 64 := by decide
  unfold idx; lia
theorem ok_step {st st' : List Int × Int} {c : UInt8} {n : Nat} (h : Ok64 st.1 st.2 n) (e : step64 st c = some st') : Ok64 st'.1 st'.2 (n + 1) := by
  obtain ⟨h1, h2, h3, h4⟩ := h
  unfold step64 at e
  split at e
  · cases e; exact ⟨h1, by simp; lia, by simp; lia, by simp; lia⟩
  · split at e
    · cases e
    · rename_i _ q
      cases e
      have hs : isSign c = true := by
        cases z : isSign c with
        | true => rfl
        | false => exact absurd (.inr z) q
      refine ⟨fun x hx => ?_, h2, by simp; lia, by simp; lia⟩
      rcases List.mem_append.mp hx with hx | hx
      · exact h1 x hx
      · simp at hx; subst hx
        have := idx_in hs; lia
theorem numr_in {l : List Int} (h : ∀ x ∈ l, 0 ≤ x ∧ x < 64) (k : Nat) : ∀ m, 0 ≤ numr l k m ∧ numr l k m < 64 ^ m
  | 0 => ⟨by simp [numr], by simp [numr]⟩
  | m + 1 => by
    have g := numr_in h k m
    have gd : 0 ≤ l.getD (k + m) 0 ∧ l.getD (k + m) 0 < 64 := by
      by_cases q : k + m < l.length
      · have : l.getD (k + m) 0 = l[k + m] := by simp [q]
        rw [this]; exact h _ (List.getElem_mem q)
      · have : l.getD (k + m) 0 = 0 := by rw [List.getD_eq_getElem?_getD, List.getElem?_eq_none (by lia)]; rfl
        rw [this]; lia
    have e : (64 : Int) ^ (m + 1) = 64 ^ m * 64 := by rw [Int.pow_succ]
    simp only [numr]
    lia
theorem o64_in {l : List Int} (h : ∀ x ∈ l, 0 ≤ x ∧ x < 64) (n : Nat) : ∀ x ∈ o64 l n, 0 ≤ x ∧ x < 256 := fun x hx => by
  obtain ⟨m, _, h2⟩ := List.mem_flatMap.mp hx
  have := numr_in h (4 * m) 4
  have hm := List.mem_of_mem_take h2
  simp [three64] at hm
  rcases hm with rfl | rfl | rfl <;> lia
theorem grpd_len (l : List Int) (k : Nat) : (grpd l k).length ≤ 3 := by
  rw [grpd, List.length_take]; simp only [three64, List.length_cons, List.length_nil]; lia
theorem o64_len (l : List Int) (n : Nat) : (o64 l n).length ≤ 3 * n := flat_len (fun m => grpd_len ..) n

theorem sp_f64 (GO : G.Ok) (W : Gl G) (FS : FnAt G 198) (SS : Spec G 1 198 [] [] (fun o => o = .ret (.list (byI signs)) true)) (F : FnOk G 234 (mkFd 37 "_law_from_sixty_four" .none .none pm cd) (fB 37) ["text"] ["text", "signs", "read", "pads", "x", "beyond", "octets", "k", "number", "j", "three"]) (t : List UInt8) (hl : t.length ≤ 1000) : Spec G 2 234 [vy t] [] (fun o => o = .ret (.im (f64 t)) true) := by
  refine Spec.of_body (vs' := [vy t]) GO F (show ∀ x ∈ (fS 37).names, x.2 ≠ .cell by decide) rfl (noMeths_im (l := [.bytes t])) (bind1 fun _ => rfl) fun A fs L O => ?_
  show BX _ [some (vy t), none, none, none, none, none, none, none, none, none, none] _ _
  refine BX.cons (BX1.assign_new O (i := 1) (SE.im (v' := .list ((bI signs).map .int)) (SE.call O rfl W.lSigns (by decide) FS (noStars_of rfl) rfl rfl .nil .nil SS rfl) (by rw [byI_bI])) rfl (.inl rfl) (noMeth_of rfl) rfl ?_)
  refine BX.cons (BX1.assign_new O (l := []) (SE.listd (l := []) .nil (by decide)) (i := 2) rfl (.inl rfl) (noMeth_of rfl) rfl ?_)
  refine BX.cons (BX1.assign_im O SE.const_int (i := 3) rfl (.inl rfl) (noMeth_of rfl) rfl ?_)
  refine BX.cons (BX1.fors (i := 4) (s₀ := (([] : List Int), (0 : Int))) (fun st => [some (vy t), some (.own ((bI signs).map .int)), some (.own (st.1.map .int)), some (vi st.2), none, none, none, none, none, none, none]) (fun n st => (t.take n).foldlM step64 ([], 0) = some st ∧ Ok64 st.1 st.2 n) O rfl rfl (.bytes O (SE.nm (i := 0) O.toOk0 rfl rfl (by decide))) rfl (.inl rfl) (Sub.refl _) ⟨rfl, by simp [Ok64]⟩ (fun n => noMeth_of rfl) (fun n v st hv hR => ?_) (fun st hR => ?_) (fun _ => rfl))
  · obtain ⟨c, hc, rfl⟩ := byI_get hv
    obtain ⟨r, p⟩ := st
    obtain ⟨hf, hok⟩ := hR
    have hnl : n < t.length := (List.getElem?_eq_some_iff.mp hc).1
    have hrl := hok.2.2.1
    simp only at hrl
    have nxt : ∀ st', step64 (r, p) c = some st' → (t.take (n + 1)).foldlM step64 ([], 0) = some st' ∧ Ok64 st'.1 st'.2 (n + 1) := fun st' e => ⟨by rw [take_next hc, List.foldlM_append, hf]; show ([c]).foldlM step64 (r, p) = _; simp [e], ok_step hok e⟩
    have bad : step64 (r, p) c = none → f64 t = .bool false := fun e => by
      have : scan64 t = none := by
        unfold scan64
        rw [← List.take_append_drop (n + 1) t, take_next hc, List.append_assoc, List.foldlM_append, hf]
        show (([c] ++ t.drop (n + 1)).foldlM step64 (r, p)) = none
        simp [e]
      unfold f64
      rw [this]
    have cI := u8_lt c
    show BX _ [some (vy t), some (.own ((bI signs).map .int)), some (.own (r.map .int)), some (vi p), some (vi c.toNat), none, none, none, none, none, none] _ _
    refine BX.cons (BX1.ite (ST.cmp (SE.nm (i := 4) O.toOk0 rfl rfl (by decide)) (TC.one SE.const_int cmp_eq rfl)) (fun h => ?_) fun h => ?_)
    · simp at h
      refine BX.cons (BX1.assign_im O (SE.binop (SE.nm (i := 3) O.toOk0 rfl rfl (by decide)) SE.const_int op_add) (i := 3) rfl (.inl rfl) (noMeth_of rfl) rfl ?_)
      exact BX.nil (BX.done (Γ' := [some (vy t), some (.own ((bI signs).map .int)), some (.own (r.map .int)), some (vi (p + 1)), none, none, none, none, none, none, none]) (.k (.k (.k (.k (.d (.k (.k (.k (.k (.k (.k .nil))))))))))) ⟨(r, p + 1), rfl, nxt _ (by unfold step64; rw [if_pos (by omega)])⟩)
    simp at h
    refine BX.cons (BX1.ite (ST.or (TOr.cons (ST.cmp (SE.nm (i := 3) O.toOk0 rfl rfl (by decide)) (TC.one SE.const_int cmp_ne rfl)) fun _ => TOr.cons (ST.cmp (SE.nm (i := 4) O.toOk0 rfl rfl (by decide)) (TC.one (SE.no (i := 1) O.toOk0 rfl rfl (by decide)) cmp_notin_ints rfl)) fun _ => TOr.nil)) (fun h2 => ?_) fun h2 => ?_)
    · refine BX.cons (BX1.reti SE.const_bool nr_bool ?_)
      show RO.ret _ _ = _
      rw [bad ?_]
      unfold step64
      rw [if_neg (by lia), if_pos ?_]
      simp only [Bool.or_false, Bool.or_eq_true, bne_iff_ne, ne_eq, Bool.not_eq_true'] at h2
      exact h2
    · simp only [Bool.or_false, Bool.or_eq_false_iff, bne_eq_false_iff_eq, Bool.not_eq_false'] at h2
      obtain ⟨hp, hs⟩ := h2
      have hx := idx_in (c := c) hs
      refine BX.cons (BX1.append O (i := 2) rfl rfl (by decide) (SE.index (i := 1) O.toOk0 rfl rfl (by decide) (SE.nm (i := 4) O.toOk0 rfl rfl (by decide)) rfl rfl (by decide) hx.2.2) rfl (by simp; lia) rfl rfl ?_)
      refine BX.nil (BX.nil (BX.done (Γ' := [some (vy t), some (.own ((bI signs).map .int)), some (.own ((r ++ [idx c]).map .int)), some (vi p), none, none, none, none, none, none, none]) ?_ ⟨(r ++ [idx c], p), rfl, nxt _ (by unfold step64; rw [if_neg (by lia), if_neg]; rintro (q | q); exact q hp; rw [isSign] at q; rw [hs] at q; cases q)⟩))
      rw [List.map_append]
      exact .k (.k (.k (.k (.d (.k (.k (.k (.k (.k (.k .nil))))))))))
  · rw [byI_len, List.take_length] at hR
    obtain ⟨r, p⟩ := st
    obtain ⟨hf, hok⟩ := hR
    have hfin : f64 t = end64 r p := by
      have : scan64 t = some (r, p) := hf
      unfold f64; rw [this]
    obtain ⟨hr, hp0, hrl, hpl⟩ := hok
    simp only at hr hp0 hrl hpl
    show BX _ [some (vy t), some (.own ((bI signs).map .int)), some (.own (r.map .int)), some (vi p), none, none, none, none, none, none, none] _ _
    refine BX.cons (BX1.assign_im O (SE.im (v' := vi ((r.length % 4 : Nat) : Int)) (SE.binop (SE.im (v' := vi (r.length : Int)) (SE.callB O.toOk0 rfl W.bLen (by decide) (by intro a q; cases q) rfl (.one (SE.no (i := 2) O.toOk0 rfl rfl (by decide)) rfl) (co_len_list (by simp; lia))) (by simp)) SE.const_int (op_mod (by decide))) (by show vi _ = vi _; congr 2)) (i := 5) rfl (.inl rfl) (noMeth_of rfl) rfl ?_)
    have h4 : r.length % 4 < 4 := Nat.mod_lt _ (by decide)
    refine BX.cons (BX1.ite (ST.cmp (SE.nm (i := 3) O.toOk0 rfl rfl (by decide)) (TC.one (SE.sub_list (SE.listd (l := ([0, 3, 2, 1] : List Int).map .int) (.cons SE.const_int (.three SE.const_int rfl SE.const_int rfl SE.const_int rfl) (fun _ => rfl)) (by decide)) (SE.nm (i := 5) O.toOk0 rfl rfl (by decide)) (by lia) (by lia) (getI (l := [0, 3, 2, 1]) (by show _ < 4; lia)) (fun _ _ => rfl)) cmp_gt rfl)) (fun h => ?_) fun h => ?_)
    · refine BX.cons (BX1.reti SE.const_none nr_none ?_)
      show RO.ret _ _ = _
      rw [hfin]
      unfold end64
      simp only [decide_eq_true_eq, Int.toNat_natCast] at h
      rw [if_pos h]
    simp only [decide_eq_false_iff_not, Int.toNat_natCast] at h
    refine BX.nil ?_
    refine BX.cons (BX1.ite (ST.or (TOr.cons (ST.cmp (SE.nm (i := 5) O.toOk0 rfl rfl (by decide)) (TC.one SE.const_int cmp_eq rfl)) fun _ => TOr.cons (ST.and (TAnd.cons (ST.cmp (SE.nm (i := 5) O.toOk0 rfl rfl (by decide)) (TC.one SE.const_int cmp_eq rfl)) fun _ => TAnd.cons (ST.cmp (SE.nm (i := 3) O.toOk0 rfl rfl (by decide)) (TC.one SE.const_int cmp_ne rfl)) fun _ => TAnd.nil)) fun _ => TOr.cons (ST.and (TAnd.cons (ST.cmp (SE.nm (i := 5) O.toOk0 rfl rfl (by decide)) (TC.one SE.const_int cmp_eq rfl)) fun _ => TAnd.cons (ST.cmp (SE.nm (i := 3) O.toOk0 rfl rfl (by decide)) (TC.one SE.const_int cmp_ne rfl)) fun _ => TAnd.nil)) fun _ => TOr.nil)) (fun h2 => ?_) fun h2 => ?_)
    · refine BX.cons (BX1.reti SE.const_bool nr_bool ?_)
      show RO.ret _ _ = _
      rw [hfin]
      unfold end64
      simp at h2
      rw [if_neg h, if_pos (by lia)]
    simp at h2
    have hend : end64 r p = .bytes (toB (o64 r ((r.length + 3) / 4))) := by
      unfold end64
      rw [if_neg h, if_neg (by lia)]
    refine BX.nil ?_
    refine BX.cons (BX1.assign_new O (l := []) (SE.listd (l := []) .nil (by decide)) (i := 6) rfl (.inl rfl) (noMeth_of rfl) rfl ?_)
    refine BX.cons (BX1.forg (i := 7) (fun n => [some (vy t), some (.own ((bI signs).map .int)), some (.own (r.map .int)), none, none, none, some (.own ((o64 r n).map .int)), none, none, none, none]) O rfl rfl (.of_none (.range3 O rfl W.tRange rfl rfl rfl SE.const_int (SE.im (v' := vi (r.length : Int)) (SE.callB O.toOk0 rfl W.bLen (by decide) (by intro a q; cases q) rfl (.one (SE.no (i := 2) O.toOk0 rfl rfl (by decide)) rfl) (co_len_list (by simp; lia))) (by simp)) (SE.im (v' := vi ((4 : Nat) : Int)) SE.const_int rfl) (by lia) (by lia) (by lia) (by lia) (by lia) (by lia) (rangeSize_up (d := 4) rfl (by lia)))) rfl (.inl rfl) (.k (.k (.k (.d (.k (.d (.k (.k (.k (.k (.k .nil))))))))))) (fun n => noMeth_of rfl) (fun n v hv => ?_) ?_ (fun _ => rfl))
    · obtain ⟨hn, rfl⟩ := ups_get' hv
      have hk : (0 + (n : Int) * ((4 : Nat) : Int)) = ((4 * n : Nat) : Int) := by push_cast; lia
      rw [hk]
      have hk' : 4 * n < r.length := by lia
      have hol := o64_len r n
      have es : o64 r (n + 1) = o64 r n ++ grpd r (4 * n) := by
        simp only [o64, List.range_succ, List.flatMap_append, List.flatMap_cons, List.flatMap_nil, List.append_nil]
      generalize hkk : 4 * n = k at *
      show BX _ [some (vy t), some (.own ((bI signs).map .int)), some (.own (r.map .int)), none, none, none, some (.own ((o64 r n).map .int)), some (vi k), none, none, none] _ _
      refine BX.cons (BX1.assign_im O SE.const_int (i := 8) rfl (.inl rfl) (noMeth_of rfl) rfl ?_)
      refine BX.cons (BX1.forg (i := 9) (fun m => [some (vy t), some (.own ((bI signs).map .int)), some (.own (r.map .int)), none, none, none, some (.own ((o64 r n).map .int)), some (vi k), some (vi (numr r k m)), none, none]) O rfl rfl (.of_none (.range1 O rfl W.tRange rfl (SE.im (v' := vi ((4 : Nat) : Int)) SE.const_int rfl) (by lia))) rfl (.inl rfl) (Sub.refl _) (fun n => noMeth_of rfl) (fun m v hv => ?_) ?_ (fun _ => rfl))
      · obtain ⟨hm, rfl⟩ := ups_get' hv
        rw [show (0 + (m : Int) * ((1 : Nat) : Int)) = (m : Int) by push_cast; lia]
        show BX _ [some (vy t), some (.own ((bI signs).map .int)), some (.own (r.map .int)), none, none, none, some (.own ((o64 r n).map .int)), some (vi k), some (vi (numr r k m)), some (vi m), none] _ _
        have e2 : ((k : Int) + (m : Int)).toNat = k + m := by lia
        refine BX.cons (BX1.assign_im O (SE.binop (SE.binop (SE.nm (i := 8) O.toOk0 rfl rfl (by decide)) SE.const_int (op_mul (by lia))) (SE.ifexp (b := decide ((k : Int) + (m : Int) < (r.length : Int))) (v := vi (r.getD (k + m) 0)) (f := false) (ST.cmp (SE.binop (SE.nm (i := 7) O.toOk0 rfl rfl (by decide)) (SE.nm (i := 9) O.toOk0 rfl rfl (by decide)) op_add) (TC.one (SE.im (v' := vi (r.length : Int)) (SE.callB O.toOk0 rfl W.bLen (by decide) (by intro a q; cases q) rfl (.one (SE.no (i := 2) O.toOk0 rfl rfl (by decide)) rfl) (co_len_list (by simp; lia))) (by simp)) cmp_lt rfl)) (fun h => SE.old (SE.sub_list (SE.no (i := 2) O.toOk0 rfl rfl (by decide)) (SE.binop (SE.nm (i := 7) O.toOk0 rfl rfl (by decide)) (SE.nm (i := 9) O.toOk0 rfl rfl (by decide)) op_add) (by lia) (by lia) (by rw [e2]; exact getI (by simp at h; lia)) (fun _ _ => rfl))) (fun h => SE.old (SE.im SE.const_int ?_))) op_add) (i := 8) rfl (.inl rfl) (noMeth_of rfl) rfl ?_)
        · show vi _ = vi _
          simp at h
          have : r.getD (k + m) 0 = 0 := by rw [List.getD_eq_getElem?_getD, List.getElem?_eq_none (by lia)]; rfl
          rw [this]
        · exact BX.done (Γ' := [some (vy t), some (.own ((bI signs).map .int)), some (.own (r.map .int)), none, none, none, some (.own ((o64 r n).map .int)), some (vi k), some (vi (numr r k (m + 1))), none, none]) (.k (.k (.k (.k (.k (.k (.k (.k (.k (.d (.k .nil))))))))))) rfl
      · rw [show (ups 4 0 1).length = 4 from rfl]
        refine BX.cons (BX1.assign_list O (i := 10) (l := (three64 (numr r k 4)).map .int) (SE.listd (l := (three64 (numr r k 4)).map .int) (.three (SE.binop (SE.nm (i := 8) O.toOk0 rfl rfl (by decide)) SE.const_int (op_div (by decide) (by decide))) rfl (SE.binop (SE.binop (SE.nm (i := 8) O.toOk0 rfl rfl (by decide)) SE.const_int (op_div (by decide) (by decide))) SE.const_int (op_mod (by decide))) rfl (SE.binop (SE.nm (i := 8) O.toOk0 rfl rfl (by decide)) SE.const_int (op_mod (by decide))) rfl) (by simp [three64])) rfl (.inl rfl) (noMeth_of rfl) rfl ?_)
        refine BX.cons (BX1.assign_new O (i := 6) (l := (o64 r (n + 1)).map .int) (SE.im (SE.binop (SE.no (i := 6) O.toOk0 rfl rfl (by decide)) (SE.cut_list (SE.nl (i := 10) O.toOk0 rfl rfl (by decide)) .none (.some (SE.im (v' := vi ((min 3 (r.length - k - 1) : Nat) : Int)) (SE.callB O.toOk0 rfl W.bMin (by decide) (by intro a q; cases q) rfl (.two SE.const_int rfl (SE.binop (SE.binop (SE.im (v' := vi (r.length : Int)) (SE.callB O.toOk0 rfl W.bLen (by decide) (by intro a q; cases q) rfl (.one (SE.no (i := 2) O.toOk0 rfl rfl (by decide)) rfl) (co_len_list (by simp; lia))) (by simp)) (SE.nm (i := 7) O.toOk0 rfl rfl (by decide)) op_sub) SE.const_int op_sub) rfl) (co_min O.handled)) ?_)) (by simp [three64])) (op_add_lists ?_)) ?_) rfl (.inl rfl) (noMeth_of rfl) rfl ?_)
        · show vi _ = vi _
          congr 2
          split <;> omega
        · have := cut_len ((three64 (numr r k 4)).map I.int) none (some ((min 3 (r.length - k - 1) : Nat) : Int))
          simp [three64] at this ⊢
          lia
        · congr 1
          rw [es, cut_to, grpd, List.map_append, List.map_take]
        · exact BX.done (Γ' := [some (vy t), some (.own ((bI signs).map .int)), some (.own (r.map .int)), none, none, none, some (.own ((o64 r (n + 1)).map .int)), none, none, none, none]) (.k (.k (.k (.k (.k (.k (.k (.d (.d (.d (.d .nil))))))))))) rfl
    · rw [show (ups ((r.length + 4 - 1) / 4) 0 4).length = (r.length + 3) / 4 by simp [ups]]
      have := o64_len r ((r.length + 3) / 4)
      refine BX.cons (BX1.reti (SE.callB O.toOk0 rfl W.tBytes (by decide) (by intro a q; cases q) rfl (.one (SE.no (i := 6) O.toOk0 rfl rfl (by decide)) rfl) (co_bytes_list O.handled (o64_in hr _) (by lia))) nr_bytes ?_)
      show RO.ret _ _ = _
      rw [hfin, hend]
end Mine
end
section
set_option maxRecDepth 100000
set_option linter.unusedVariables false
set_option linter.unusedSimpArgs false
namespace Mine
variable {G : Glo} {pm cd : Value}
theorem ST.eq {C : Ctx} {Γ : Gam} {e : Expr} {b b' : Bool} (h : ST C Γ e b) (q : b = b') : ST C Γ e b' := q ▸ h
noncomputable def zS : Str := "z inside Ascii85 5-tuple"
noncomputable def yS : Str := "y inside Ascii85 5-tuple"
noncomputable def digS (c : Int) : Str := ("Non-Ascii85 digit found: " : Str) ++ (⟨#[c.toNat]⟩ : Str)
noncomputable def ovS : Str := "Ascii85 overflow"
noncomputable def endS : Str := "Ascii85 encoded byte sequences must end with b'~>'"
noncomputable def kp (sp : Bool) (pa : List UInt8) (c : Int) : Bool :=
  (decide (33 ≤ c) && decide (c ≤ 117)) || ((c == 122) || ((c == 121) && sp) || (!pa.contains c.toNat.toUInt8))
noncomputable def kept85 (t : List UInt8) (sp : Bool) (pa : List UInt8) : List Int := (bI t).filter (kp sp pa)
noncomputable def grpN (sp : Bool) : List Int → Int → Except Str Int
  | [], n => .ok n
  | x :: r, n => if x = 122 then .error zS else if (x == 121 && sp) = true then .error yS else if ¬ (33 ≤ x ∧ x ≤ 117) then .error (digS x) else grpN sp r (n * 85 + x - 33)
noncomputable def padN : Nat → Int → Int
  | 0, n => n
  | m + 1, n => padN m n * 85 + 84
noncomputable def four256 (n : Int) : List Int := [n / 16777216, n / 65536 % 256, n / 256 % 256, n % 256]
noncomputable def dec85 (sp : Bool) : Nat → List Int → List Int → I
  | 0, _, o => .bytes (toB o)
  | _ + 1, [], o => .bytes (toB o)
  | m + 1, c :: r, o =>
    if c = 122 then dec85 sp m r (o ++ [0, 0, 0, 0])
    else if (c == 121 && sp) = true then dec85 sp m r (o ++ [32, 32, 32, 32])
    else match grpN sp ((c :: r).take 5) 0 with
      | .error s => .str s
      | .ok n => if padN (5 - ((c :: r).take 5).length) n ≥ 4294967296 then .str ovS
        else dec85 sp (m + 1 - 5) ((c :: r).drop 5) (o ++ (four256 (padN (5 - ((c :: r).take 5).length) n)).take (((c :: r).take 5).length - 1))
noncomputable def body85 (t : List UInt8) (sp : Bool) (pa : List UInt8) : I := dec85 sp (kept85 t sp pa).length (kept85 t sp pa) []
noncomputable def f85 (t : List UInt8) (sp fr : Bool) (pa : List UInt8) : I :=
  if fr then
    if cut t (some (-2)) none ≠ [126, 62] then .str endS
    else body85 (if cut t none (some 2) = [60, 126] then cut t (some 2) (some (-2)) else cut t none (some (-2))) sp pa
  else body85 t sp pa

noncomputable def ptI (f : Int → Bool) : I → Bool
  | .int i => f i
  | _ => false
theorem filter_ints (l : List Int) (f : Int → Bool) (g : Int → Int) : ((l.map I.int).filter (ptI f)).map (mI g) = ((l.filter f).map g).map .int := by
  induction l with
  | nil => rfl
  | cons x l ih =>
    rw [List.map_cons, List.filter_cons, List.filter_cons]
    by_cases q : f x = true
    · rw [if_pos q, if_pos (show ptI f (I.int x) = true from q), List.map_cons, List.map_cons, List.map_cons, ih]; rfl
    · rw [if_neg q, if_neg (show ¬ ptI f (I.int x) = true from q), ih]
theorem map_self (l : List Int) : l.map (fun x => x) = l := by simp
theorem padN_ge {n : Int} (h : 0 ≤ n) : ∀ m, 0 ≤ padN m n
  | 0 => h
  | m + 1 => by have := padN_ge h m; simp only [padN]; lia
theorem bI_in (t : List UInt8) : ∀ x ∈ bI t, 0 ≤ x ∧ x < 256 := fun x hx => by
  obtain ⟨c, _, rfl⟩ := List.mem_map.mp hx
  exact u8_lt c
theorem four256_in {n : Int} (h : 0 ≤ n) (h2 : n < 4294967296) : ∀ x ∈ four256 n, 0 ≤ x ∧ x < 256 := fun x hx => by
  simp [four256] at hx
  rcases hx with rfl | rfl | rfl | rfl <;> lia
theorem drop_cons {l : List Int} {k : Nat} (h : k < l.length) : l.drop k = l.getD k 0 :: l.drop (k + 1) := by
  rw [List.drop_eq_getElem_cons h]; simp [h]
theorem getD_in {l : List Int} {P : Int → Prop} (h : ∀ x ∈ l, P x) {k : Nat} (hk : k < l.length) : P (l.getD k 0) := by
  have : l.getD k 0 = l[k] := by simp [hk]
  rw [this]; exact h _ (List.getElem_mem hk)

theorem sp_f85 (GO : G.Ok) (W : Gl G) (F : FnOk G 239 (mkFd 38 "_law_from_eighty_five" .none .none pm cd) (fB 38) ["text", "spaces", "frame", "passed"] ["text", "spaces", "frame", "passed", "kept", "octets", "k", "group", "number", "x", "j", "four"])
    (t : List UInt8) (sp fr : Bool) (pa : List UInt8) (hl : t.length ≤ 1000) : Spec G 1 239 [vy t, vb sp, vb fr, vy pa] [] (fun o => o = .ret (.im (f85 t sp fr pa)) true) := by
  refine Spec.of_cells GO F rfl (noMeths_im (l := [.bytes t, .bool sp, .bool fr, .bytes pa])) (fun ws h => by
    obtain ⟨w, u, v, z, rfl⟩ := len_four h; rfl) fun A fs L O => ?_
  have step : ∀ (t : List UInt8), t.length ≤ 1000 → BX (mkC G A fs (callEnvC (mkFd 38 "_law_from_eighty_five" .none .none pm cd) L 239) ["text", "spaces", "frame", "passed", "kept", "octets", "k", "group", "number", "x", "j", "four"] 0) [some (vy t), some (vb sp), some (vb fr), some (vy pa), none, none, none, none, none, none, none, none] ((fB 38).drop 1) (Outs fun o => o = .ret (.im (body85 t sp pa)) true) := by
    intro t hl
    refine BX.cons (BX1.assign_comp O (cl := [("spaces", L + 1), ("passed", L + 2)]) (caps := ["spaces", "passed"]) (vs := [vb sp, vy pa]) (pt := ptI (kp sp pa)) (F := mI fun x => x) (items := byI t) (f := false) (i := 4) rfl rfl (by decide) rfl (by decide) rfl (.bytes O.handled (SE.nm (i := 0) O.toOk0 rfl rfl (by decide))) (fun _ => rfl) (.two (i := 1) (i2 := 3) rfl rfl rfl (fun _ => rfl) rfl rfl rfl rfl rfl (fun _ => rfl) rfl rfl) byI_nr (by rw [byI_len]; lia) (fun L' v hv => ?_) (fun L' v hv _ => ?_) rfl rfl (noMeth_of rfl) ?_)
    · obtain ⟨c, _, rfl⟩ := List.mem_map.mp hv
      have hc := u8_lt c
      refine .one (ST.eq (ST.or (TOr.cons (ST.cmp SE.const_int (TC.cons (SE.nm (i := 0) (compC_ok O.toOk0 rfl) rfl rfl (by decide)) cmp_le fun _ => TC.one SE.const_int cmp_le rfl)) fun _ => TOr.cons (ST.cmp (SE.nm (i := 0) (compC_ok O.toOk0 rfl) rfl rfl (by decide)) (TC.one SE.const_int cmp_eq rfl)) fun _ => TOr.cons (ST.and (TAnd.cons (ST.cmp (SE.nm (i := 0) (compC_ok O.toOk0 rfl) rfl rfl (by decide)) (TC.one SE.const_int cmp_eq rfl)) fun _ => TAnd.cons (ST.val (SE.nm (i := 1) (compC_ok O.toOk0 rfl) rfl rfl (by decide)) tr_bool (fun _ _ => rfl)) fun _ => TAnd.nil)) fun _ => TOr.cons (ST.cmp (SE.nm (i := 0) (compC_ok O.toOk0 rfl) rfl rfl (by decide)) (TC.one (SE.nm (i := 2) (compC_ok O.toOk0 rfl) rfl rfl (by decide)) (cmp_notin_bytes hc.1 hc.2) rfl)) fun _ => TOr.nil)) ?_)
      simp only [ptI, kp, Bool.and_true, Bool.or_false, Bool.or_assoc]
    · obtain ⟨c, _, rfl⟩ := List.mem_map.mp hv
      exact (SE.nm (i := 0) (compC_ok O.toOk0 rfl) rfl rfl (by decide))
    rw [byI_bI, filter_ints, map_self]
    unfold body85
    have hq : ∀ x ∈ kept85 t sp pa, 0 ≤ x ∧ x < 256 := fun x hx => bI_in t x ((List.mem_filter.mp hx).1)
    have hql : (kept85 t sp pa).length ≤ 1000 := Nat.le_trans (List.length_filter_le _ _) (by rw [bI_len]; exact hl)
    change BX _ [some (vy t), some (vb sp), some (vb fr), some (vy pa), some (.own ((kept85 t sp pa).map .int)), none, none, none, none, none, none, none] _ _
    generalize kept85 t sp pa = q at *
    refine BX.cons (BX1.assign_new O (l := []) (SE.listd (l := []) .nil (by decide)) (i := 5) rfl (.inl rfl) (noMeth_of rfl) rfl ?_)
    refine BX.cons (BX1.assign_im O SE.const_int (i := 6) rfl (.inl rfl) (noMeth_of rfl) rfl ?_)
    refine BX.cons (BX1.while O rfl rfl (fun n Γ' => ∃ (o : List Int) (k : Nat), n = q.length - k ∧ Γ' = [some (vy t), some (vb sp), some (vb fr), some (vy pa), some (.own (q.map .int)), some (.own ((o).map .int)), some (vi ((k : Nat) : Int)), none, none, none, none, none] ∧ dec85 sp n (q.drop k) o = dec85 sp q.length q [] ∧ (∀ x ∈ o, 0 ≤ x ∧ x < 256) ∧ o.length ≤ 4 * k ∧ k ≤ q.length + 5) q.length ⟨[], 0, rfl, rfl, rfl, by simp, by simp, by lia⟩ ?_)
    rintro n Γ' ⟨o, k, hn, rfl, hd, hoin, hol, hk5⟩
    by_cases hkq' : ¬ k < q.length
    · refine ⟨false, ST.eq (ST.cmp (SE.nm (i := 6) O.toOk0 rfl rfl (by decide)) (TC.one (SE.im (v' := vi (q.length : Int)) (SE.callB O.toOk0 rfl W.bLen (by decide) (by intro a q; cases q) rfl (.one (SE.no (i := 4) O.toOk0 rfl rfl (by decide)) rfl) (co_len_list (by simp; lia))) (by simp)) cmp_lt rfl)) (by simp; lia), fun e => (by cases e), fun _ => ?_⟩
      show BX _ _ _ _
      refine BX.cons (BX1.reti (SE.callB O.toOk0 rfl W.tBytes (by decide) (by intro a q; cases q) rfl (.one (SE.no (i := 5) O.toOk0 rfl rfl (by decide)) rfl) (co_bytes_list O.handled hoin (by lia))) nr_bytes ?_)
      show RO.ret _ _ = _
      have hn0 : n = 0 := by lia
      rw [hn0] at hd
      rw [← hd, dec85]
    have hkq : k < q.length := by lia
    refine ⟨true, ST.eq (ST.cmp (SE.nm (i := 6) O.toOk0 rfl rfl (by decide)) (TC.one (SE.im (v' := vi (q.length : Int)) (SE.callB O.toOk0 rfl W.bLen (by decide) (by intro a q; cases q) rfl (.one (SE.no (i := 4) O.toOk0 rfl rfl (by decide)) rfl) (co_len_list (by simp; lia))) (by simp)) cmp_lt rfl)) (by simp; lia), fun _ => ?_, fun e => (by cases e)⟩
    obtain ⟨m, rfl⟩ : ∃ m, n = m + 1 := ⟨n - 1, by lia⟩
    have hc := getD_in hq hkq
    rw [drop_cons hkq] at hd
    simp only [dec85] at hd
    refine BX.cons (BX1.ite (ST.cmp (SE.sub_list (i := (k : Int)) (SE.no (i := 4) O.toOk0 rfl rfl (by decide)) (SE.nm (i := 6) O.toOk0 rfl rfl (by decide)) (by lia) (by lia) (getI (l := q) (n := k) (by lia)) (fun _ _ => rfl)) (TC.one SE.const_int cmp_eq rfl)) (fun h => ?_) fun h => ?_)
    · simp only [beq_iff_eq] at h
      rw [if_pos h] at hd
      refine BX.cons (BX1.assign_new O (i := 5) (l := (o ++ [0, 0, 0, 0]).map .int) (SE.im (SE.binop (SE.no (i := 5) O.toOk0 rfl rfl (by decide)) (SE.listd (l := ([0, 0, 0, 0] : List Int).map .int) (.cons SE.const_int (.three SE.const_int rfl SE.const_int rfl SE.const_int rfl) (fun _ => rfl)) (by decide)) (op_add_lists (by simp; lia))) (by rw [List.map_append])) rfl (.inl rfl) (noMeth_of rfl) rfl ?_)
      refine BX.cons (BX1.assign_im O (SE.im (v' := vi ((k + 1 : Nat) : Int)) (SE.binop (SE.nm (i := 6) O.toOk0 rfl rfl (by decide)) SE.const_int op_add) rfl) (i := 6) rfl (.inl rfl) (noMeth_of rfl) rfl ?_)
      refine BX.nil (BX.done (Γ' := [some (vy t), some (vb sp), some (vb fr), some (vy pa), some (.own (q.map .int)), some (.own ((o ++ [0, 0, 0, 0]).map .int)), some (vi ((k + 1 : Nat) : Int)), none, none, none, none, none]) (Sub.refl _) ⟨m, by lia, o ++ [0, 0, 0, 0], k + 1, by lia, rfl, hd, ?_, by simp; lia, by lia⟩)
      intro x hx
      rcases List.mem_append.mp hx with hx | hx
      · exact hoin x hx
      · simp at hx; lia
    simp only [beq_eq_false_iff_ne, ne_eq] at h
    rw [if_neg h] at hd
    refine BX.cons (BX1.ite (ST.eq (ST.and (TAnd.cons (ST.cmp (SE.sub_list (i := (k : Int)) (SE.no (i := 4) O.toOk0 rfl rfl (by decide)) (SE.nm (i := 6) O.toOk0 rfl rfl (by decide)) (by lia) (by lia) (getI (l := q) (n := k) (by lia)) (fun _ _ => rfl)) (TC.one SE.const_int cmp_eq rfl)) fun _ => TAnd.cons (ST.val (SE.nm (i := 1) O.toOk0 rfl rfl (by decide)) tr_bool (fun _ _ => rfl)) fun _ => TAnd.nil)) (b' := (q.getD k 0 == 121 && sp)) (by simp)) (fun h2 => ?_) fun h2 => ?_)
    · rw [if_pos h2] at hd
      refine BX.cons (BX1.assign_new O (i := 5) (l := (o ++ [32, 32, 32, 32]).map .int) (SE.im (SE.binop (SE.no (i := 5) O.toOk0 rfl rfl (by decide)) (SE.listd (l := ([32, 32, 32, 32] : List Int).map .int) (.cons SE.const_int (.three SE.const_int rfl SE.const_int rfl SE.const_int rfl) (fun _ => rfl)) (by decide)) (op_add_lists (by simp; lia))) (by rw [List.map_append])) rfl (.inl rfl) (noMeth_of rfl) rfl ?_)
      refine BX.cons (BX1.assign_im O (SE.im (v' := vi ((k + 1 : Nat) : Int)) (SE.binop (SE.nm (i := 6) O.toOk0 rfl rfl (by decide)) SE.const_int op_add) rfl) (i := 6) rfl (.inl rfl) (noMeth_of rfl) rfl ?_)
      refine BX.nil (BX.nil (BX.done (Γ' := [some (vy t), some (vb sp), some (vb fr), some (vy pa), some (.own (q.map .int)), some (.own ((o ++ [32, 32, 32, 32]).map .int)), some (vi ((k + 1 : Nat) : Int)), none, none, none, none, none]) (Sub.refl _) ⟨m, by lia, o ++ [32, 32, 32, 32], k + 1, by lia, rfl, hd, ?_, by simp; lia, by lia⟩))
      intro x hx
      rcases List.mem_append.mp hx with hx | hx
      · exact hoin x hx
      · simp at hx; lia
    rw [if_neg (by rw [h2]; exact Bool.false_ne_true)] at hd
    rw [← drop_cons hkq] at hd
    have hgl : ((q.drop k).take 5).length ≤ 5 := by rw [List.length_take]; lia
    have hg1 : 1 ≤ ((q.drop k).take 5).length := by rw [List.length_take, List.length_drop]; lia
    have hgin : ∀ x ∈ (q.drop k).take 5, 0 ≤ x ∧ x < 256 := fun x hx => hq x (List.mem_of_mem_drop (List.mem_of_mem_take hx))
    have hdrop : (q.drop k).drop 5 = q.drop (k + 5) := by rw [List.drop_drop]
    rw [hdrop] at hd
    refine BX.cons (BX1.assign_list O (i := 7) (l := ((q.drop k).take 5).map .int) (SE.im (SE.cut_list (SE.no (i := 4) O.toOk0 rfl rfl (by decide)) (.some (SE.nm (i := 6) O.toOk0 rfl rfl (by decide))) (.some (SE.im (v' := vi ((k + 5 : Nat) : Int)) (SE.binop (SE.nm (i := 6) O.toOk0 rfl rfl (by decide)) SE.const_int op_add) rfl)) (by simp; lia)) (by rw [cut_mid, List.map_take, List.map_drop])) rfl (.inl rfl) (noMeth_of rfl) rfl ?_)
    change BX _ [some (vy t), some (vb sp), some (vb fr), some (vy pa), some (.own (q.map .int)), some (.own ((o).map .int)), some (vi ((k : Nat) : Int)), some (.list (((q.drop k).take 5).map .int)), none, none, none, none] _ _
    generalize (q.drop k).take 5 = gr at *
    refine BX.cons (BX1.assign_im O SE.const_int (i := 8) rfl (.inl rfl) (noMeth_of rfl) rfl ?_)
    refine BX.cons (BX1.fors (i := 9) (s₀ := (0 : Int)) (fun a => [some (vy t), some (vb sp), some (vb fr), some (vy pa), some (.own (q.map .int)), some (.own ((o).map .int)), some (vi ((k : Nat) : Int)), some (.list (gr.map .int)), some (vi a), none, none, none]) (fun n a => grpN sp (gr.drop n) a = grpN sp gr 0 ∧ 0 ≤ a) O rfl rfl (.name O (i := 7) rfl rfl (by decide)) rfl (.inl rfl) (Sub.refl _) ⟨rfl, by lia⟩ (fun n => noMeth_of rfl) (fun n v a hv hR => ?_) (fun a hR => ?_) (fun _ => rfl))
    · rw [List.getElem?_map, Option.map_eq_some_iff] at hv
      obtain ⟨x, hx, rfl⟩ := hv
      have hxin := hgin x (List.mem_of_getElem? hx)
      obtain ⟨hR, ha⟩ := hR
      have hn2 := (List.getElem?_eq_some_iff.mp hx)
      obtain ⟨hn2, hxe⟩ := hn2
      rw [drop_cons hn2, show gr.getD n 0 = x by simp [hn2, hxe]] at hR
      simp only [grpN] at hR
      show BX _ [some (vy t), some (vb sp), some (vb fr), some (vy pa), some (.own (q.map .int)), some (.own ((o).map .int)), some (vi ((k : Nat) : Int)), some (.list (gr.map .int)), some (vi a), some (vi x), none, none] _ _
      refine BX.cons (BX1.ite (ST.cmp (SE.nm (i := 9) O.toOk0 rfl rfl (by decide)) (TC.one SE.const_int cmp_eq rfl)) (fun g1 => ?_) fun g1 => ?_)
      · simp only [beq_iff_eq] at g1
        rw [if_pos g1] at hR
        refine BX.cons (BX1.reti SE.const_str nr_str ?_)
        show RO.ret _ _ = _
        rw [← hR] at hd
        rw [← hd]; rfl
      simp only [beq_eq_false_iff_ne, ne_eq] at g1
      rw [if_neg g1] at hR
      refine BX.nil (BX.cons (BX1.ite (ST.eq (ST.and (TAnd.cons (ST.cmp (SE.nm (i := 9) O.toOk0 rfl rfl (by decide)) (TC.one SE.const_int cmp_eq rfl)) fun _ => TAnd.cons (ST.val (SE.nm (i := 1) O.toOk0 rfl rfl (by decide)) tr_bool (fun _ _ => rfl)) fun _ => TAnd.nil)) (b' := (x == 121 && sp)) (by simp)) (fun g2 => ?_) fun g2 => ?_))
      · rw [if_pos g2] at hR
        refine BX.cons (BX1.reti SE.const_str nr_str ?_)
        show RO.ret _ _ = _
        rw [← hR] at hd
        rw [← hd]; rfl
      rw [if_neg (by rw [g2]; exact Bool.false_ne_true)] at hR
      refine BX.nil (BX.cons (BX1.ite (ST.not (ST.cmp SE.const_int (TC.cons (SE.nm (i := 9) O.toOk0 rfl rfl (by decide)) cmp_le fun _ => TC.one SE.const_int cmp_le rfl))) (fun g3 => ?_) fun g3 => ?_))
      · simp at g3
        rw [if_pos (by lia)] at hR
        refine BX.cons (BX1.reti (SE.binop SE.const_str (SE.callB O.toOk0 rfl W.bChr (by decide) (by intro a q; cases q) rfl (.one (SE.nm (i := 9) O.toOk0 rfl rfl (by decide)) rfl) (co_chr hxin.1 hxin.2)) (op_add_str (by show 25 + 1 ≤ 16777216; decide))) nr_str ?_)
        show RO.ret _ _ = _
        rw [← hR] at hd
        rw [← hd]; rfl
      simp at g3
      rw [if_neg (by lia)] at hR
      refine BX.nil ?_
      refine BX.cons (BX1.assign_im O (SE.binop (SE.binop (SE.binop (SE.nm (i := 8) O.toOk0 rfl rfl (by decide)) SE.const_int (op_mul (by lia))) (SE.nm (i := 9) O.toOk0 rfl rfl (by decide)) op_add) SE.const_int op_sub) (i := 8) rfl (.inl rfl) (noMeth_of rfl) rfl ?_)
      exact BX.done (Γ' := [some (vy t), some (vb sp), some (vb fr), some (vy pa), some (.own (q.map .int)), some (.own ((o).map .int)), some (vi ((k : Nat) : Int)), some (.list (gr.map .int)), some (vi (a * 85 + x - 33)), none, none, none]) (.k (.k (.k (.k (.k (.k (.k (.k (.k (.d (.k (.k .nil)))))))))))) ⟨_, rfl, hR, by lia⟩
    · rw [List.length_map, List.drop_length] at hR
      obtain ⟨hR, ha⟩ := hR
      rw [← hR] at hd
      simp only [grpN] at hd
      refine BX.cons (BX1.forg (i := 10) (fun m => [some (vy t), some (vb sp), some (vb fr), some (vy pa), some (.own (q.map .int)), some (.own ((o).map .int)), some (vi ((k : Nat) : Int)), some (.list (gr.map .int)), some (vi (padN m a)), none, none, none]) O rfl rfl (.of_none (.range1 O rfl W.tRange rfl (SE.im (v' := vi ((5 - gr.length : Nat) : Int)) (SE.binop SE.const_int (SE.callB O.toOk0 rfl W.bLen (by decide) (by intro a q; cases q) rfl (.one (SE.nl (i := 7) O.toOk0 rfl rfl (by decide)) rfl) (co_len_list (by simp; lia))) op_sub) (by show vi _ = vi _; congr 2; simp; lia)) (by lia))) rfl (.inl rfl) (Sub.refl _) (fun n => noMeth_of rfl) (fun m' v hv => ?_) ?_ (fun _ => rfl))
      · refine BX.cons (BX1.assign_im O (SE.binop (SE.binop (SE.nm (i := 8) O.toOk0 rfl rfl (by decide)) SE.const_int (op_mul (by lia))) SE.const_int op_add) (i := 8) rfl (.inl rfl) (noMeth_of rfl) rfl ?_)
        exact BX.done (Γ' := [some (vy t), some (vb sp), some (vb fr), some (vy pa), some (.own (q.map .int)), some (.own ((o).map .int)), some (vi ((k : Nat) : Int)), some (.list (gr.map .int)), some (vi (padN (m' + 1) a)), none, none, none]) (.k (.k (.k (.k (.k (.k (.k (.k (.k (.k (.d (.k .nil)))))))))))) rfl
      · rw [show (ups (5 - gr.length) 0 1).length = 5 - gr.length by simp [ups]]
        have hp0 := padN_ge ha (5 - gr.length)
        generalize hpn : padN (5 - gr.length) a = n at *
        refine BX.cons (BX1.ite (ST.cmp (SE.nm (i := 8) O.toOk0 rfl rfl (by decide)) (TC.one SE.const_int cmp_ge rfl)) (fun h3 => ?_) fun h3 => ?_)
        · simp only [decide_eq_true_eq] at h3
          rw [if_pos h3] at hd
          refine BX.cons (BX1.reti SE.const_str nr_str ?_)
          show RO.ret _ _ = _
          rw [← hd]; rfl
        simp only [decide_eq_false_iff_not] at h3
        rw [if_neg h3] at hd
        refine BX.nil ?_
        refine BX.cons (BX1.assign_list O (i := 11) (l := (four256 n).map .int) (SE.listd (l := (four256 n).map .int) (.cons (SE.binop (SE.nm (i := 8) O.toOk0 rfl rfl (by decide)) SE.const_int (op_div (by decide) (by decide))) (.three (SE.binop (SE.binop (SE.nm (i := 8) O.toOk0 rfl rfl (by decide)) SE.const_int (op_div (by decide) (by decide))) SE.const_int (op_mod (by decide))) rfl (SE.binop (SE.binop (SE.nm (i := 8) O.toOk0 rfl rfl (by decide)) SE.const_int (op_div (by decide) (by decide))) SE.const_int (op_mod (by decide))) rfl (SE.binop (SE.nm (i := 8) O.toOk0 rfl rfl (by decide)) SE.const_int (op_mod (by decide))) rfl) (fun _ => rfl)) (by simp [four256])) rfl (.inl rfl) (noMeth_of rfl) rfl ?_)
        refine BX.cons (BX1.assign_new O (i := 5) (l := (o ++ (four256 n).take (gr.length - 1)).map .int) (SE.im (SE.binop (SE.no (i := 5) O.toOk0 rfl rfl (by decide)) (SE.cut_list (SE.nl (i := 11) O.toOk0 rfl rfl (by decide)) .none (.some (SE.im (v' := vi ((gr.length - 1 : Nat) : Int)) (SE.binop (SE.callB O.toOk0 rfl W.bLen (by decide) (by intro a q; cases q) rfl (.one (SE.nl (i := 7) O.toOk0 rfl rfl (by decide)) rfl) (co_len_list (by simp; lia))) SE.const_int op_sub) (by show vi _ = vi _; congr 2; simp; lia))) (by simp [four256])) (op_add_lists ?_)) ?_) rfl (.inl rfl) (noMeth_of rfl) rfl ?_)
        · have := cut_len ((four256 n).map I.int) none (some ((gr.length - 1 : Nat) : Int))
          simp [four256] at this ⊢
          lia
        · congr 1
          rw [cut_to, List.map_append, List.map_take]
        · refine BX.cons (BX1.assign_im O (SE.im (v' := vi ((k + 5 : Nat) : Int)) (SE.binop (SE.nm (i := 6) O.toOk0 rfl rfl (by decide)) SE.const_int op_add) rfl) (i := 6) rfl (.inl rfl) (noMeth_of rfl) rfl ?_)
          refine BX.nil (BX.nil (BX.done (Γ' := [some (vy t), some (vb sp), some (vb fr), some (vy pa), some (.own (q.map .int)), some (.own ((o ++ (four256 n).take (gr.length - 1)).map .int)), some (vi ((k + 5 : Nat) : Int)), none, none, none, none, none]) (.k (.k (.k (.k (.k (.k (.k (.d (.d (.k (.k (.d .nil)))))))))))) ⟨m + 1 - 5, by lia, _, k + 5, by lia, rfl, hd, ?_, ?_, by lia⟩))
          · intro x hx
            rcases List.mem_append.mp hx with hx | hx
            · exact hoin x hx
            · exact four256_in hp0 (by lia) x (List.mem_of_mem_take hx)
          · rw [List.length_append, List.length_take]; lia
  show BX _ [some (vy t), some (vb sp), some (vb fr), some (vy pa), none, none, none, none, none, none, none, none] _ _
  refine BX.cons (BX1.ite (ST.val (SE.nm (i := 2) O.toOk0 rfl rfl (by decide)) tr_bool (fun _ _ => rfl)) (fun h => ?_) fun h => ?_)
  · subst h
    refine BX.cons (BX1.ite (ST.cmp (SE.cut_bytes (SE.nm (i := 0) O.toOk0 rfl rfl (by decide)) (.some (SE.neg SE.const_int)) .none (by lia)) (TC.one SE.const_bytes cmp_ne_bytes rfl)) (fun h2 => ?_) fun h2 => ?_)
    · simp only [bne_iff_ne, ne_eq] at h2
      refine BX.cons (BX1.reti SE.const_str nr_str ?_)
      show RO.ret _ _ = _
      unfold f85
      rw [if_pos rfl, if_pos h2]
      rfl
    · simp only [bne_eq_false_iff_eq] at h2
      have hf : f85 t sp true pa = body85 (if cut t none (some 2) = [60, 126] then cut t (some 2) (some (-2)) else cut t none (some (-2))) sp pa := by
        unfold f85
        rw [if_pos rfl, if_neg (fun q => q h2)]
      rw [hf]
      refine BX.nil (BX.cons (BX1.assign_im O (i := 0) (SE.ifexp (b := cut t none (some 2) == [60, 126]) (v := vy (if cut t none (some 2) = [60, 126] then cut t (some 2) (some (-2)) else cut t none (some (-2)))) (f := true) (ST.cmp (SE.cut_bytes (SE.nm (i := 0) O.toOk0 rfl rfl (by decide)) .none (.some SE.const_int) (by lia)) (TC.one SE.const_bytes cmp_eq_bytes rfl)) (fun h3 => SE.im (SE.cut_bytes (SE.nm (i := 0) O.toOk0 rfl rfl (by decide)) (.some SE.const_int) (.some (SE.neg SE.const_int)) (by lia)) ?_) (fun h3 => SE.im (SE.cut_bytes (SE.nm (i := 0) O.toOk0 rfl rfl (by decide)) .none (.some (SE.neg SE.const_int)) (by lia)) ?_)) rfl (.inl rfl) (noMeth_of rfl) rfl (BX.nil (step _ ?_))))
      · simp only [beq_iff_eq] at h3; rw [if_pos h3]
      · simp only [beq_eq_false_iff_ne, ne_eq] at h3; rw [if_neg h3]
      · split
        · exact Nat.le_trans (cut_len _ _ _) hl
        · exact Nat.le_trans (cut_len _ _ _) hl
  · subst h
    have hf : f85 t sp false pa = body85 t sp pa := by unfold f85; rw [if_neg Bool.false_ne_true]
    rw [hf]
    exact BX.nil (step t hl)
end Mine
end
section
set_option maxRecDepth 100000
set_option linter.unusedVariables false
set_option linter.unusedSimpArgs false
namespace Mine
variable {G : Glo} {pm cd : Value}
theorem oc_hexup {t : List UInt8} (h : t.all hexup = true) {i : Nat} (hi : i < t.length) : hexv (oc t i) = (figs t).getD i 0 ∧ 0 ≤ (figs t).getD i 0 ∧ (figs t).getD i 0 < 16 := by
  have hc := List.all_eq_true.mp h t[i] (List.getElem_mem hi)
  refine ⟨?_, figs_in h hi⟩
  have e : (figs t).getD i 0 = fig t[i].toNat := by simp [figs, hi]
  have e2 : oc t i = (t[i].toNat : Int) := by simp [oc, hi]
  rw [e, e2]
  simp [hexup] at hc
  unfold hexv fig
  by_cases q : (t[i].toNat : Int) ≤ 57
  · rw [if_pos (by lia), if_pos (by lia)]
  · rw [if_neg (by lia), if_pos (by lia), if_neg (by lia)]
noncomputable def d16n (t : List UInt8) (n : Nat) : List Int := (List.range n).map fun k => (figs t).getD (2 * k) 0 * 16 + (figs t).getD (2 * k + 1) 0

/-- what the hex reader makes of plain figures -/
noncomputable def A2bH (t : List UInt8) (o : RO) : Prop := (t.length % 2 = 0 ∧ o = .ret (vy (toB (d16 t))) true) ∨ (t.length % 2 ≠ 0 ∧ ∃ m, o = .exc (.ref 82) [m])

theorem sp_a2bh (GO : G.Ok) (W : Gl G) (FA : FnAt G 92) (SA : ∀ b, Spec G 1 92 [vy b] [] (fun o => o = .ret (vy b) true)) (FV : FnAt G 145) (SV : ∀ c, Spec G 1 145 [vi c] [] (fun o => o = .ret (vi (hexv c)) true))
    (F : FnOk G 152 (mkFd 20 "a2b_hex" .none .none pm cd) (fB 20) ["hexstr"] ["hexstr", "argbuf", "arglen", "out", "i", "top", "bot"]) (t : List UInt8) (ht : t.all hexup = true) (hl : t.length ≤ 1000) : Spec G 2 152 [vy t] [] (A2bH t) := by
  refine Spec.of_body (vs' := [vy t]) GO F (show ∀ x ∈ (fS 20).names, x.2 ≠ .cell by decide) rfl (noMeths_im (l := [.bytes t])) (bind1 fun _ => rfl) fun A fs L O => ?_
  show BX _ [some (vy t), none, none, none, none, none, none] _ _
  refine BX.cons (BX1.assign_im O (SE.call O rfl W.fAsc (by decide) FA (noStars_of rfl) rfl rfl (.one (SE.nm (i := 0) O.toOk0 rfl rfl (by decide)) rfl) .nil (SA t) rfl) (i := 1) rfl (.inl rfl) (noMeth_of rfl) rfl ?_)
  refine BX.cons (BX1.assign_im O (SE.callB O.toOk0 rfl W.bLen (by decide) (by intro a q; cases q) rfl (.one (SE.nm (i := 1) O.toOk0 rfl rfl (by decide)) rfl) (co_len_bytes (by lia))) (i := 2) rfl (.inl rfl) (noMeth_of rfl) rfl ?_)
  refine BX.cons (BX1.ite (ST.val (SE.binop (SE.nm (i := 2) O.toOk0 rfl rfl (by decide)) SE.const_int (op_mod (by decide))) tr_int (fun _ _ => rfl)) (fun h => ?_) fun h => ?_)
  · simp at h
    exact BX.cons (BX1.raise_own O rfl W.cErr (by decide) W.oErr SE.const_str rfl (.inr ⟨by lia, _, rfl⟩))
  simp at h
  refine BX.nil ?_
  refine BX.cons (BX1.assign_new O (l := []) (SE.listd (l := []) .nil (by decide)) (i := 3) rfl (.inl rfl) (noMeth_of rfl) rfl ?_)
  refine BX.cons (BX1.assign_im O SE.const_int (i := 4) rfl (.inl rfl) (noMeth_of rfl) rfl ?_)
  refine BX.cons (BX1.while O rfl rfl (fun n Γ' => ∃ k : Nat, 2 * k + 2 * n = t.length ∧ Γ' = [some (vy t), some (vy t), some (vi t.length), some (.own ((d16n t k).map .int)), some (vi ((2 * k : Nat) : Int)), none, none]) (t.length / 2) ⟨0, by lia, rfl⟩ ?_)
  rintro n Γ' ⟨k, hk, rfl⟩
  have hdl : (d16n t k).length = k := by simp [d16n]
  by_cases hn : n = 0
  · subst hn
    refine ⟨false, ST.eq (ST.cmp (SE.nm (i := 4) O.toOk0 rfl rfl (by decide)) (TC.one (SE.nm (i := 2) O.toOk0 rfl rfl (by decide)) cmp_lt rfl)) (by simp; lia), fun e => (by cases e), fun _ => ?_⟩
    show BX _ _ _ _
    have e : d16n t k = d16 t := by unfold d16n d16; rw [show t.length / 2 = k by lia]
    have hz : (d16n t k).length ≤ 16777216 := by lia
    rw [e] at hz ⊢
    exact BX.cons (BX1.reti (SE.callB O.toOk0 rfl W.tBytes (by decide) (by intro a q; cases q) rfl (.one (SE.no (i := 3) O.toOk0 rfl rfl (by decide)) rfl) (co_bytes_list O.handled (d16_in ht) hz)) nr_bytes (.inl ⟨by lia, rfl⟩))
  refine ⟨true, ST.eq (ST.cmp (SE.nm (i := 4) O.toOk0 rfl rfl (by decide)) (TC.one (SE.nm (i := 2) O.toOk0 rfl rfl (by decide)) cmp_lt rfl)) (by simp; lia), fun _ => ?_, fun e => (by cases e)⟩
  obtain ⟨a1, a2, a3⟩ := oc_hexup ht (i := 2 * k) (by lia)
  obtain ⟨b1, b2, b3⟩ := oc_hexup ht (i := 2 * k + 1) (by lia)
  refine BX.cons (BX1.assign_im O (SE.im (v' := vi ((figs t).getD (2 * k) 0)) (SE.call O rfl W.fHexv (by decide) FV (noStars_of rfl) rfl rfl (.one (SE.sub_bytes (SE.nm (i := 1) O.toOk0 rfl rfl (by decide)) (SE.nm (i := 4) O.toOk0 rfl rfl (by decide)) (by lia) (by lia) (by lia) (fun _ _ => rfl)) rfl) .nil (SV _) rfl) (by rw [← a1]; rfl)) (i := 5) rfl (.inl rfl) (noMeth_of rfl) rfl ?_)
  refine BX.cons (BX1.assign_im O (SE.im (v' := vi ((figs t).getD (2 * k + 1) 0)) (SE.call O rfl W.fHexv (by decide) FV (noStars_of rfl) rfl rfl (.one (SE.sub_bytes (SE.nm (i := 1) O.toOk0 rfl rfl (by decide)) (SE.binop (SE.nm (i := 4) O.toOk0 rfl rfl (by decide)) SE.const_int op_add) (by lia) (by lia) (by lia) (fun _ _ => rfl)) rfl) .nil (SV _) rfl) (by rw [← b1]; rfl)) (i := 6) rfl (.inl rfl) (noMeth_of rfl) rfl ?_)
  refine BX.cons (BX1.ite (ST.eq (ST.or (TOr.cons (ST.cmp (SE.nm (i := 5) O.toOk0 rfl rfl (by decide)) (TC.one SE.const_int cmp_ge rfl)) fun _ => TOr.cons (ST.cmp (SE.nm (i := 6) O.toOk0 rfl rfl (by decide)) (TC.one SE.const_int cmp_ge rfl)) fun _ => TOr.nil)) (b' := false) (by simp only [Bool.or_false, Bool.or_eq_false_iff, decide_eq_false_iff_not]; lia)) (fun h => by cases h) fun _ => ?_)
  refine BX.nil ?_
  refine BX.cons (BX1.append O (i := 3) rfl rfl (by decide) (SE.binop (SE.binop (SE.nm (i := 5) O.toOk0 rfl rfl (by decide)) SE.const_int (op_shl (by lia) (by lia) (by lia))) (SE.nm (i := 6) O.toOk0 rfl rfl (by decide)) op_add) rfl (by simp; lia) rfl rfl ?_)
  refine BX.cons (BX1.assign_im O (SE.im (v' := vi ((2 * (k + 1) : Nat) : Int)) (SE.binop (SE.nm (i := 4) O.toOk0 rfl rfl (by decide)) SE.const_int op_add) (by congr 2)) (i := 4) rfl (.inl rfl) (noMeth_of rfl) rfl ?_)
  refine BX.done (Γ' := [some (vy t), some (vy t), some (vi t.length), some (.own ((d16n t (k + 1)).map .int)), some (vi ((2 * (k + 1) : Nat) : Int)), none, none]) ?_ ⟨n - 1, by lia, k + 1, by lia, rfl⟩
  have e : (d16n t (k + 1)).map I.int = (d16n t k).map I.int ++ [.int ((figs t).getD (2 * k) 0 * 2 ^ (4 : Int).toNat + (figs t).getD (2 * k + 1) 0)] := by
    simp only [d16n, List.range_succ, List.map_append, List.map_cons, List.map_nil]
    rfl
  rw [e]
  exact .k (.k (.k (.k (.k (.d (.d .nil))))))
end Mine
end
section
set_option maxRecDepth 100000
set_option maxHeartbeats 4000000
set_option linter.unusedVariables false
set_option linter.unusedSimpArgs false
namespace Mine
theorem bor {l v : Int} (k : Nat) (hl : 0 ≤ l) (h0 : 0 ≤ v) (h1 : v < 2 ^ k) : Builtin.bitOr (l * 2 ^ k) v = l * 2 ^ k + v := by
  obtain ⟨a, rfl⟩ := Int.eq_ofNat_of_zero_le hl
  obtain ⟨b, rfl⟩ := Int.eq_ofNat_of_zero_le h0
  have hb : b < 2 ^ k := by exact_mod_cast h1
  have e : ((a : Int) * 2 ^ k) = ((a * 2 ^ k : Nat) : Int) := by push_cast; rfl
  have key : (a * 2 ^ k) &&& b = 0 := by
    have h := Nat.shiftLeft_add_eq_or_of_lt hb a
    rw [Nat.shiftLeft_eq] at h
    have h2 := nat_or_add_and (a * 2 ^ k) b
    omega
  rw [bitOr_and, e, bitAnd_pp (by omega) (by omega)]
  simp only [Int.toNat_natCast, key]
  omega

/-- constants that are bytes -/
structure Gl2 (G : Glo) : Prop where
  b64 : ∃ t, G.At "_B64" (.bytes signs.toArray t)
  a85s : ∃ t, G.At "_A85START" (.bytes [60, 126].toArray t)
  a85e : ∃ t, G.At "_A85END" (.bytes [126, 62].toArray t)
end Mine
end
section
set_option maxRecDepth 100000
set_option maxHeartbeats 4000000
set_option linter.unusedVariables false
set_option linter.unusedSimpArgs false
namespace Mine
variable {G : Glo} {pm cd : Value}
theorem SE.globb {C : Ctx} {Γ : Gam} {x : Str} {pos : Pos} {b : List UInt8} (O : C.Ok0) (hx : C.ev.kindOf x = some .globalImplicit) (hv : ∃ t, C.Glob x (.bytes b.toArray t)) (hd : (x == ("__debug__" : Str)) = false) : SE C Γ (.Name x pos) (vy b) true := fun s Q E I h => by
  obtain ⟨t, hv⟩ := hv
  exact SE.glob (Γ := Γ) O hx hv hd s Q E I fun w h' tk x r f => h w h' tk x ⟨t, r⟩ fun _ a e => by
    obtain rfl : w = _ := r
    cases e
noncomputable def emW : Nat → Int → Int → List Int
  | 0, _, _ => []
  | n + 1, lc, lb => sgn (lc / 2 ^ (lb - 6).toNat % 64) :: emW n lc (lb - 6)
noncomputable def stepB (st : Int × Int × List Int) (c : UInt8) : Int × Int × List Int :=
  ((st.1 * 256 + c.toNat) % 65536, (st.2.1 + 8) % 6, st.2.2 ++ emW ((st.2.1 + 8) / 6).toNat ((st.1 * 256 + c.toNat) % 65536) (st.2.1 + 8))
noncomputable def tailB (lc lb : Int) : List Int := if lb = 2 then [sgn (lc % 4 * 16), 61, 61] else if lb = 4 then [sgn (lc % 16 * 4), 61] else []
noncomputable def B64 (t : List UInt8) : List Int := let st := t.foldl stepB (0, 0, []); st.2.2 ++ tailB st.1 st.2.1
noncomputable def OkB (lc lb : Int) (o : List Int) (n : Nat) : Prop := 0 ≤ lc ∧ lc < 65536 ∧ (lb = 0 ∨ lb = 2 ∨ lb = 4) ∧ (∀ x ∈ o, 0 ≤ x ∧ x < 256) ∧ o.length ≤ 2 * n
theorem emW_in : ∀ (n : Nat) (lc lb : Int), ∀ x ∈ emW n lc lb, 0 ≤ x ∧ x < 256
  | 0, _, _, x, h => by simp [emW] at h
  | n + 1, lc, lb, x, h => by
    simp only [emW, List.mem_cons] at h
    rcases h with rfl | h
    · exact sgn_in _
    · exact emW_in n _ _ x h
theorem emW_len : ∀ (n : Nat) (lc lb : Int), (emW n lc lb).length = n
  | 0, _, _ => rfl
  | n + 1, lc, lb => by simp [emW, emW_len n]
theorem okB_step {st : Int × Int × List Int} {c : UInt8} {n : Nat} (h : OkB st.1 st.2.1 st.2.2 n) : OkB (stepB st c).1 (stepB st c).2.1 (stepB st c).2.2 (n + 1) := by
  obtain ⟨h1, h2, h3, h4, h5⟩ := h
  refine ⟨by simp only [stepB]; lia, by simp only [stepB]; lia, by simp only [stepB]; lia, fun x hx => ?_, ?_⟩
  · rcases List.mem_append.mp hx with hx | hx
    · exact h4 x hx
    · exact emW_in _ _ _ x hx
  · simp only [stepB, List.length_append, emW_len]; lia

theorem sp_b2a {kV : Value} (GO : G.Ok) (W : Gl G) (W2 : Gl2 G) (FA : FnAt G 99) (SA : ∀ b, Spec G 1 99 [vy b] [] (fun o => o = .ret (vy b) true)) (FT : FnAt G 106) (ST' : ∀ b, Spec G 1 106 [vb b] [] (fun o => o = .ret (vb b) true))
    (F : FnOk G 129 (mkFd 15 "b2a_base64" .none kV pm cd) (fB 15) ["data", "newline"] ["data", "newline", "bin_data", "out", "leftbits", "leftchar", "b"]) (t : List UInt8) (hl : t.length ≤ 1000) : Spec G 2 129 [vy t] [("newline", vb false)] (fun o => o = .ret (vy (toB (B64 t))) true) := by
  refine Spec.of_body (vs' := [vy t, vb false]) GO F (show ∀ x ∈ (fS 15).names, x.2 ≠ .cell by decide) rfl (noMeths_im (l := [.bytes t, .bool false])) (fun s ws kw _ h h2 => ?_) fun A fs L O => ?_
  · obtain ⟨w, rfl, h1⟩ := all2_one h
    obtain ⟨u, rfl, h3⟩ := all2_one h2
    exact ⟨[w, u], .cons h1 (.cons h3 .nil), .of_eq rfl⟩
  show BX _ [some (vy t), some (vb false), none, none, none, none, none] _ _
  refine BX.cons (BX1.assign_im O (SE.call O rfl W.fBuf (by decide) FA (noStars_of rfl) rfl rfl (.one (SE.nm (i := 0) O.toOk0 rfl rfl (by decide)) rfl) .nil (SA t) rfl) (i := 2) rfl (.inl rfl) (noMeth_of rfl) rfl ?_)
  refine BX.cons (BX1.assign_im O (SE.call O rfl W.fTruth (by decide) FT (noStars_of rfl) rfl rfl (.one (SE.nm (i := 1) O.toOk0 rfl rfl (by decide)) rfl) .nil (ST' false) rfl) (i := 1) rfl (.inl rfl) (noMeth_of rfl) rfl ?_)
  refine BX.cons (BX1.assign_new O (l := []) (SE.listd (l := []) .nil (by decide)) (i := 3) rfl (.inl rfl) (noMeth_of rfl) rfl ?_)
  refine BX.cons (BX1.assign_im O SE.const_int (i := 4) rfl (.inl rfl) (noMeth_of rfl) rfl ?_)
  refine BX.cons (BX1.assign_im O SE.const_int (i := 5) rfl (.inl rfl) (noMeth_of rfl) rfl ?_)
  refine BX.cons (BX1.fors (i := 6) (s₀ := (((0 : Int), (0 : Int), ([] : List Int)) : Int × Int × List Int)) (fun a => [some (vy t), some (vb false), some (vy t), some (.own (a.2.2.map .int)), some (vi a.2.1), some (vi a.1), none]) (fun m a => (t.take m).foldl stepB (0, 0, []) = a ∧ OkB a.1 a.2.1 a.2.2 m) O rfl rfl (.bytes O (SE.nm (i := 2) O.toOk0 rfl rfl (by decide))) rfl (.inl rfl) (Sub.refl _) ⟨rfl, by simp [OkB]⟩ (fun n => noMeth_of rfl) (fun m v a hv hR => ?_) (fun a hR => ?_) (fun _ => rfl))
  · obtain ⟨lc, lb, o⟩ := a
    obtain ⟨hf, hok⟩ := hR
    obtain ⟨c, hc, rfl⟩ := byI_get hv
    have hnl : m < t.length := (List.getElem?_eq_some_iff.mp hc).1
    have cI := u8_lt c
    have nf : (t.take (m + 1)).foldl stepB (0, 0, []) = stepB (lc, lb, o) c := by rw [take_next hc, List.foldl_append, hf]; rfl
    have nok : OkB (stepB (lc, lb, o) c).1 (stepB (lc, lb, o) c).2.1 (stepB (lc, lb, o) c).2.2 (m + 1) := okB_step (st := (lc, lb, o)) hok
    obtain ⟨h1, h2, h3, h4, h5⟩ := hok
    simp only at h1 h2 h3 h4 h5
    show BX _ [some (vy t), some (vb false), some (vy t), some (.own (o.map .int)), some (vi lb), some (vi lc), some (vi c.toNat)] _ _
    refine BX.cons (BX1.assign_im O (SE.im (v' := vi ((lc * 256 + c.toNat) % 65536)) (SE.binop (SE.binop (SE.binop (SE.nm (i := 5) O.toOk0 rfl rfl (by decide)) SE.const_int (op_shl (by lia) (by lia) (by lia))) (SE.nm (i := 6) O.toOk0 rfl rfl (by decide)) op_or) SE.const_int op_and) (by
      show vi _ = vi _
      rw [bitAnd_m16]
      congr 3
      exact bor 8 h1 (by lia) (by lia))) (i := 5) rfl (.inl rfl) (noMeth_of rfl) rfl ?_)
    refine BX.cons (BX1.assign_im O (SE.binop (SE.nm (i := 4) O.toOk0 rfl rfl (by decide)) SE.const_int op_add) (i := 4) rfl (.inl rfl) (noMeth_of rfl) rfl ?_)
    have hst : stepB (lc, lb, o) c = ((lc * 256 + c.toNat) % 65536, (lb + 8) % 6, o ++ emW ((lb + 8) / 6).toNat ((lc * 256 + c.toNat) % 65536) (lb + 8)) := rfl
    rw [hst] at nf nok
    generalize (lc * 256 + (c.toNat : Int)) % 65536 = lc' at *
    simp only at nok
    obtain ⟨k1, k2, k3, k4, k5⟩ := nok
    generalize hF : o ++ emW ((lb + 8) / 6).toNat lc' (lb + 8) = F' at *
    refine BX.cons (BX1.while O rfl rfl (fun n Γ' => ∃ (l2 : Int) (o2 : List Int), l2 = (lb + 8) % 6 + 6 * n ∧ o2 ++ emW n lc' l2 = F' ∧ Γ' = [some (vy t), some (vb false), some (vy t), some (.own (o2.map .int)), some (vi l2), some (vi lc'), some (vi c.toNat)]) ((lb + 8) / 6).toNat ⟨lb + 8, o, by lia, hF, rfl⟩ ?_)
    rintro n Γ' ⟨l2, o2, e2, hF2, rfl⟩
    have ho2 : o2.length ≤ 3000 := by
      have := congrArg List.length hF2
      rw [List.length_append] at this
      lia
    cases n with
    | zero =>
      refine ⟨false, ST.eq (ST.cmp (SE.nm (i := 4) O.toOk0 rfl rfl (by decide)) (TC.one SE.const_int cmp_ge rfl)) (by simp; lia), fun e => (by cases e), fun _ => ?_⟩
      have ho : o2 = F' := by simpa [emW] using hF2
      refine BX.done (Γ' := [some (vy t), some (vb false), some (vy t), some (.own (F'.map .int)), some (vi ((lb + 8) % 6)), some (vi lc'), none]) ?_ ⟨(lc', (lb + 8) % 6, F'), rfl, nf, k1, k2, k3, k4, k5⟩
      rw [← ho, show (lb + 8) % 6 = l2 by lia]
      exact .k (.k (.k (.k (.k (.k (.d .nil))))))
    | succ n =>
      refine ⟨true, ST.eq (ST.cmp (SE.nm (i := 4) O.toOk0 rfl rfl (by decide)) (TC.one SE.const_int cmp_ge rfl)) (by simp; lia), fun _ => ?_, fun e => (by cases e)⟩
      refine BX.cons (BX1.append O (i := 3) rfl rfl (by decide) (SE.sub_bytes (SE.globb O.toOk0 rfl W2.b64 (by decide)) (SE.im (v' := vi (lc' / 2 ^ (l2 - 6).toNat % 64)) (SE.binop (SE.binop (SE.nm (i := 5) O.toOk0 rfl rfl (by decide)) (SE.binop (SE.nm (i := 4) O.toOk0 rfl rfl (by decide)) SE.const_int op_sub) (op_shr (by lia))) SE.const_int op_and) (by rw [bitAnd_m6])) (by lia) (by show _ < ((64 : Nat) : Int); lia) (by decide) (fun _ _ => rfl)) rfl (by simp; lia) rfl rfl ?_)
      refine BX.cons (BX1.assign_im O (SE.binop (SE.nm (i := 4) O.toOk0 rfl rfl (by decide)) SE.const_int op_sub) (i := 4) rfl (.inl rfl) (noMeth_of rfl) rfl ?_)
      refine BX.nil ⟨n, by lia, l2 - 6, o2 ++ [sgn (lc' / 2 ^ (l2 - 6).toNat % 64)], by lia, by rw [← hF2, emW]; simp, ?_⟩
      rw [List.map_append]; rfl
  · rw [byI_len] at hR
    obtain ⟨lc, lb, o⟩ := a
    obtain ⟨hf, hok⟩ := hR
    rw [List.take_length] at hf
    obtain ⟨h1, h2, h3, h4, h5⟩ := hok
    simp only at h1 h2 h3 h4 h5
    have hB : B64 t = o ++ tailB lc lb := by unfold B64; rw [hf]
    rw [hB]
    have app : ∀ (x : List Int), (∀ y ∈ x, 0 ≤ y ∧ y < 256) → ∀ y ∈ o ++ x, 0 ≤ y ∧ y < 256 := fun x hx y hy => by
      rcases List.mem_append.mp hy with hy | hy
      · exact h4 y hy
      · exact hx y hy
    have fin : ∀ (x : List Int), x.length ≤ 10 → (∀ y ∈ x, 0 ≤ y ∧ y < 256) → BX (mkC G A fs (callEnv (mkFd 15 "b2a_base64" .none kV pm cd) L 129) ["data", "newline", "bin_data", "out", "leftbits", "leftchar", "b"] 1) [some (vy t), some (vb false), some (vy t), some (.own ((o ++ x).map .int)), some (vi lb), some (vi lc), none] ((fB 15).drop 7) (Outs fun r => r = .ret (vy (toB (o ++ x))) true) := by
      intro x hxl hx
      refine BX.cons (BX1.ite (b := false) (ST.val (SE.nm (i := 1) O.toOk0 rfl rfl (by decide)) tr_bool (fun _ _ => rfl)) (fun e => by cases e) fun _ => ?_)
      exact BX.nil (BX.cons (BX1.reti (SE.callB O.toOk0 rfl W.tBytes (by decide) (by intro a q; cases q) rfl (.one (SE.no (i := 3) O.toOk0 rfl rfl (by decide)) rfl) (co_bytes_list O.handled (app x hx) (by rw [List.length_append]; lia))) nr_bytes rfl))
    show BX _ [some (vy t), some (vb false), some (vy t), some (.own (o.map .int)), some (vi lb), some (vi lc), none] _ _
    refine BX.cons (BX1.ite (ST.cmp (SE.nm (i := 4) O.toOk0 rfl rfl (by decide)) (TC.one SE.const_int cmp_eq rfl)) (fun g => ?_) fun g => ?_)
    · simp only [beq_iff_eq] at g
      have ht : tailB lc lb = [sgn (lc % 4 * 16), 61, 61] := by unfold tailB; rw [if_pos g]
      refine BX.cons (BX1.append O (i := 3) rfl rfl (by decide) (SE.sub_bytes (SE.globb O.toOk0 rfl W2.b64 (by decide)) (SE.im (v' := vi (lc % 4 * 16)) (SE.binop (SE.binop (SE.nm (i := 5) O.toOk0 rfl rfl (by decide)) SE.const_int op_and) SE.const_int (op_shl (by lia) (by lia) (by rw [bitAnd_m2]; lia))) (by rw [bitAnd_m2]; rfl)) (by lia) (by show _ < ((64 : Nat) : Int); lia) (by decide) (fun _ _ => rfl)) rfl (by simp; lia) rfl rfl ?_)
      refine BX.cons (BX1.append O (i := 3) rfl rfl (by decide) SE.const_int rfl (by simp; lia) rfl rfl ?_)
      refine BX.cons (BX1.append O (i := 3) rfl rfl (by decide) SE.const_int rfl (by simp; lia) rfl rfl ?_)
      rw [ht]
      have := fin [sgn (lc % 4 * 16), 61, 61] (by simp) (fun y hy => by simp at hy; rcases hy with rfl | rfl; exact sgn_in _; lia)
      rw [List.map_append] at this
      simp only [List.map_cons, List.map_nil] at this
      refine BX.nil ?_
      have e : List.map I.int o ++ [I.int (sgn (lc % 4 * 16)), I.int 61, I.int 61] = List.map I.int o ++ [I.int (sgn (lc % 4 * 16))] ++ [I.int 61] ++ [I.int 61] := by simp
      rw [e] at this
      exact this
    simp only [beq_eq_false_iff_ne, ne_eq] at g
    refine BX.cons (BX1.ite (ST.cmp (SE.nm (i := 4) O.toOk0 rfl rfl (by decide)) (TC.one SE.const_int cmp_eq rfl)) (fun g2 => ?_) fun g2 => ?_)
    · simp only [beq_iff_eq] at g2
      have ht : tailB lc lb = [sgn (lc % 16 * 4), 61] := by unfold tailB; rw [if_neg g, if_pos g2]
      refine BX.cons (BX1.append O (i := 3) rfl rfl (by decide) (SE.sub_bytes (SE.globb O.toOk0 rfl W2.b64 (by decide)) (SE.im (v' := vi (lc % 16 * 4)) (SE.binop (SE.binop (SE.nm (i := 5) O.toOk0 rfl rfl (by decide)) SE.const_int op_and) SE.const_int (op_shl (by lia) (by lia) (by rw [bitAnd_m4]; lia))) (by rw [bitAnd_m4]; rfl)) (by lia) (by show _ < ((64 : Nat) : Int); lia) (by decide) (fun _ _ => rfl)) rfl (by simp; lia) rfl rfl ?_)
      refine BX.cons (BX1.append O (i := 3) rfl rfl (by decide) SE.const_int rfl (by simp; lia) rfl rfl ?_)
      rw [ht]
      have := fin [sgn (lc % 16 * 4), 61] (by simp) (fun y hy => by simp at hy; rcases hy with rfl | rfl; exact sgn_in _; lia)
      rw [List.map_append] at this
      simp only [List.map_cons, List.map_nil] at this
      refine BX.nil (BX.nil ?_)
      have e : List.map I.int o ++ [I.int (sgn (lc % 16 * 4)), I.int 61] = List.map I.int o ++ [I.int (sgn (lc % 16 * 4))] ++ [I.int 61] := by simp
      rw [e] at this
      exact this
    · simp only [beq_eq_false_iff_ne, ne_eq] at g2
      have ht : tailB lc lb = [] := by unfold tailB; rw [if_neg g, if_neg g2]
      rw [ht]
      have := fin [] (by simp) (fun y hy => by simp at hy)
      rw [List.append_nil] at this ⊢
      exact BX.nil (BX.nil this)
end Mine
end
section
set_option maxRecDepth 100000
set_option maxHeartbeats 4000000
set_option linter.unusedVariables false
namespace Mine
open Builtin in
theorem hex_fold (l : List UInt8) : ∀ (n : Nat) (acc : Array Nat), (l.zipIdx n).foldl (fun (out : Array Nat) (p : UInt8 × Nat) => (out.push (Bytes.hexDigit (p.1.toNat / 16))).push (Bytes.hexDigit (p.1.toNat % 16))) acc = acc ++ (l.flatMap fun c => [Bytes.hexDigit (c.toNat / 16), Bytes.hexDigit (c.toNat % 16)]).toArray := by
  induction l with
  | nil => intro n acc; simp
  | cons c l ih =>
    intro n acc
    rw [List.zipIdx_cons, List.foldl_cons, ih]
    simp [List.flatMap_cons]
noncomputable def hexT (l : List UInt8) : List Nat := l.flatMap fun c => [Builtin.Bytes.hexDigit (c.toNat / 16), Builtin.Bytes.hexDigit (c.toNat % 16)]
open Builtin in
theorem gives_hex (b : List UInt8) (t : Tok) : Gives («bytes.hex» ⟨[.bytes b.toArray t], []⟩) (.str ⟨(hexT b).toArray⟩) := by
  refine .of_wp fun M A E s Q hq => ?_
  have e : «bytes.hex» ⟨[.bytes b.toArray t], []⟩ = retStr ⟨b.toArray.toList.zipIdx.foldl (fun (out : Array Nat) (c, i) => (out.push (Bytes.hexDigit (c.toNat / 16))).push (Bytes.hexDigit (c.toNat % 16))) #[]⟩ := by first | rfl | kernel_rfl
  rw [e]
  have e2 := hex_fold b 0 #[]
  rw [show (b.toArray.toList.zipIdx.foldl (fun (out : Array Nat) (p : UInt8 × Nat) => (out.push (Bytes.hexDigit (p.1.toNat / 16))).push (Bytes.hexDigit (p.1.toNat % 16))) #[]) = (hexT b).toArray by rw [hexT]; simpa using e2]
  exact wpAny_bind (wpAny_mkStr (wpAny_pure ⟨_, rfl, hq.2⟩) hq.1)
open Builtin in
theorem gives_upper (b : List UInt8) (t : Tok) : Gives («bytes.upper» ⟨[.bytes b.toArray t], []⟩) (.bytes (b.map Bytes.toUpper).toArray) := by
  refine .of_wp fun M A E s Q hq => ?_
  have e : «bytes.upper» ⟨[.bytes b.toArray t], []⟩ = (mkBytes (b.toArray.toList.map Bytes.toUpper).toArray >>= fun v => ret v) := by first | rfl | kernel_rfl
  rw [e]
  exact wpAny_bind (wpAny_mkBytes (wpAny_pure ⟨_, rfl, hq.2⟩) hq.1)
end Mine
end
section
set_option maxRecDepth 100000
set_option maxHeartbeats 4000000
set_option linter.unusedVariables false
namespace Mine
open Builtin in
theorem enc_road (x : Str) (t u : Tok) : «str.encode» ⟨[.str x t, .str (Str.ofString "ascii") u], []⟩ = ((_codecs.encodeNarrow "str.encode" _codecs.asciiCodec none (.str x t) x >>= fun b => mkBytes b) >>= fun v => ret v) := by first | rfl | kernel_rfl
open Builtin in
theorem enc_fold (l : List Nat) : ∀ acc : Array UInt8, l.foldl (fun acc y => acc ++ (_codecs.asciiCodec.bytesOf y).toArray) acc = acc ++ (l.map Nat.toUInt8).toArray := by
  induction l with
  | nil => intro acc; simp
  | cons c l ih =>
    intro acc
    rw [List.foldl_cons, ih]
    simp [_codecs.asciiCodec]
open Builtin in
theorem enc_first (l : List Nat) (h : ∀ c ∈ l, c < 128) : Array.foldl (fun acc y => acc ++ (_codecs.asciiCodec.bytesOf y).toArray) #[] ((l.toArray.extract 0 l.toArray.size).extract 0 (((l.toArray.extract 0 l.toArray.size).findIdx? _codecs.asciiCodec.bad).getD (l.toArray.extract 0 l.toArray.size).size)) = (l.map Nat.toUInt8).toArray ∧ ((l.toArray.extract 0 l.toArray.size).findIdx? _codecs.asciiCodec.bad).getD (l.toArray.extract 0 l.toArray.size).size = l.length := by
  have hnone : Array.findIdx? _codecs.asciiCodec.bad l.toArray = none := by
    rw [List.findIdx?_toArray, List.findIdx?_eq_none_iff]
    intro c hc
    exact decide_eq_false (by have := h c hc; lia)
  have e : l.toArray.extract 0 l.toArray.size = l.toArray := by simp
  rw [e, hnone]
  simp only [Option.getD_none]
  rw [e, List.foldl_toArray, enc_fold]
  simp
open Builtin in
theorem enc_wp {M : Model} {A : Around} {E : Value → Shared → Prop} {s : Shared} {Q : Array UInt8 → Shared → Prop} (l : List Nat) (v : Value) (h : ∀ c ∈ l, c < 128) (hz : l.length ≤ sizeLine) (hq : Q (l.map Nat.toUInt8).toArray s) : wpAny M A (_codecs.encodeNarrow "str.encode" _codecs.asciiCodec none v ⟨l.toArray⟩) Q E s := by
  obtain ⟨e1, e2⟩ := enc_first l h
  unfold _codecs.encodeNarrow
  dsimp only
  rw [KPc.range_list]
  refine wpAny_bind ?_
  cases l with
  | nil => exact wpAny_pure (wpAny_pure hq)
  | cons c r =>
    show wpAny _ _ (forIn (List.range' 0 (r.length + 1) 1) _ _) _ _ _
    rw [List.range'_succ]
    refine KPc.turn ?_
    have hb : (!_codecs.asciiCodec.bad c) = true := by
      show (!decide (c ≥ 128)) = true
      rw [decide_eq_false (by have := h c (by simp); lia)]; rfl
    refine wpAny_ite (KPc.ite_no (by simp) ?_)
    show wpAny M A (if (!_codecs.asciiCodec.bad c) = true then _ else _) _ _ _
    refine wpAny_ite (KPc.ite_yes hb (wpAny_pure ?_))
    dsimp only
    rw [Nat.zero_add, e1, e2]
    cases r with
    | nil => exact wpAny_pure (wpAny_pure hq)
    | cons d r =>
      show wpAny _ _ (forIn (List.range' 1 (r.length + 1) 1) _ _) _ _ _
      rw [List.range'_succ]
      refine KPc.turn ?_
      refine wpAny_ite (KPc.ite_no (by simp only [List.size_toArray, List.length_map, List.length_cons] at hz ⊢; lia) ?_)
      have hno : (c :: d :: r).toArray[0 + (c :: d :: r).length]? = none := by simp
      dsimp only
      rw [hno]
      exact wpAny_pure (wpAny_pure hq)
end Mine
end
section
set_option maxRecDepth 100000
set_option maxHeartbeats 4000000
set_option linter.unusedVariables false
namespace Mine
section
variable {C : Ctx} {Γ : Gam}

/-- a built-in method of a value that is no object -/
theorem SE.meth {o : Expr} {name : Str} {id T : String} {ap cp : Pos} {es : List Expr} {i : I} {vs : List V} {v : V} {f fr : Bool} (ho : SE C Γ o (.im i) f) (hb : attributeBase o name C.ev (eval o C.ev) = eval o C.ev) (hT : tyOf i = T) (hn : ∀ v, i ≠ .raw v) (pa : PlainAttrs T) (slot : Slot T name id)
    (ty : typeOf (.builtin id) = pure (.type "method_descriptor")) (hst : es.all (fun e => !isStar e) = true) (hf : es.length < 30) (hl : (ap.endLine == cp.line) = true) (he : SEs C Γ es vs) (hc : CallOk C (.builtin id) (.im i :: vs) v fr) :
    SE C Γ (.Call (.Attribute o name ap) es [] cp) v fr := fun s Q E S h => by
  refine method_any hb (noStars_of hst) hf hl (ho s _ E S fun w h₁ t₁ x₁ r₁ _ pl => ?_)
  have S₁ := S.ext x₁
  have hnr : ∀ a, w ≠ .ref a := fun a e => by
    subst e
    cases i <;> simp [V.weak, VRep, IRep] at r₁
    exact absurd rfl (hn _)
  refine getMethod_builtin (s := ⟨h₁, s.gens, s.drawn, t₁, s.os⟩) (hT ▸ typeIs_I r₁ hn) pa slot ty (fun a e => absurd e (hnr a)) ?_
  refine callWith_ok (s := ⟨h₁, s.gens, s.drawn, t₁, s.os⟩) (noStars_of hst) rfl rfl he SKs.nil S₁ (fun h' hb => looks_machine (by intro a q; cases q)) fun ws kw h₂ t₂ x₂ r₂ _ => ?_
  have S₂ := S₁.ext x₂
  refine hc ⟨h₂, s.gens, s.drawn, t₂, s.os⟩ Q E (w :: ws) S₂.base S₂.frames (.cons (VRep.ext r₁ x₂) r₂) fun w' h' tk k r fr' => ?_
  have x := x₁.trans x₂
  exact h w' h' tk (x.trans (.of_keeps k)) r fun q => (fr' q).back' S₂.frames x

theorem co_hex {b : List UInt8} (hz : b.length ≤ 1000000) : CallOk C (.builtin "bytes.hex") [vy b] (vs' ⟨(hexT b).toArray⟩) true := co_im1 (fun _ q => by cases q) fun s Q E x r h => by
  obtain ⟨t, rfl⟩ := r
  have hl : (hexT b).length = 2 * b.length := by
    clear hz h
    induction b with
    | nil => rfl
    | cons c l ih => simp only [hexT, List.flatMap_cons, List.length_append, List.length_cons] at ih ⊢; simp only [List.length_nil]; lia
  exact call_gives FB.slot_bytes_hex (typeIs_bytes _ _ _) FB.entry_bytes_hex (FB.args_bytes_hex_1 _) (gives_hex b t) ⟨by show (hexT b).toArray.size ≤ sizeLine; rw [sizeLine_eq, List.size_toArray]; lia, h _ s.heap _ (fun _ _ e => e) ⟨_, rfl⟩⟩

open Builtin in
theorem gives_encode (l : List Nat) (t u : Tok) (h : ∀ c ∈ l, c < 128) (hz : l.length ≤ sizeLine) : Gives («str.encode» ⟨[.str ⟨l.toArray⟩ t, .str (Str.ofString "ascii") u], []⟩) (.bytes (l.map Nat.toUInt8).toArray) := by
  refine .of_wp fun M A E s Q hq => ?_
  rw [enc_road]
  exact wpAny_bind (wpAny_bind (enc_wp l _ h hz (wpAny_mkBytes (wpAny_pure ⟨_, rfl, hq.2⟩) hq.1)))
theorem co_encode {l : List Nat} (h : ∀ c ∈ l, c < 128) (hz : l.length ≤ 1000000) : CallOk C (.builtin "str.encode") [vs' ⟨l.toArray⟩, vs' (Str.ofString "ascii")] (vy (l.map Nat.toUInt8)) true := co_im2 (fun _ q => by cases q) fun s Q E x y rx ry hq => by
  obtain ⟨t, rfl⟩ := rx; obtain ⟨u, rfl⟩ := ry
  exact call_gives PySem.F.slot_str_encode (typeIs_str _ _ _) PySem.F.entry_str_encode (PySem.F.args_str_encode_2 _ _) (gives_encode l t u h (by rw [sizeLine_eq]; lia)) ⟨by show (l.map Nat.toUInt8).toArray.size ≤ sizeLine; rw [sizeLine_eq, List.size_toArray, List.length_map]; lia, hq _ s.heap _ (fun _ _ e => e) ⟨_, rfl⟩⟩

theorem slot_upper : Slot "bytes" "upper" "bytes.upper" :=
  .of (owner := "bytes") (n := "upper") (by rw [typeLookup_type, builtinLookup_eq_fast]; kernel_rfl) (by decide +kernel) (by decide +kernel) (by decide +kernel)
    (by first | exact .inl (by decide +kernel) | exact .inr (by decide +kernel)) (by rw [isSubtype_type]; kernel_rfl)
theorem type_upper : typeOf (.builtin "bytes.upper") = pure (.type "method_descriptor") := by show builtinType _ = _; rw [builtinType_eq_fast]; kernel_rfl
theorem entry_upper : entryFor table "bytes.upper" = some Builtin.«bytes.upper» := entryFor_of_tree (by kernel_rfl)
theorem args_upper (a : Value) : argsOk "bytes.upper" ⟨[a], []⟩ := by unfold argsOk; kernel_rfl
theorem co_upper {b : List UInt8} (hz : b.length ≤ 1000000) : CallOk C (.builtin "bytes.upper") [vy b] (vy (b.map Builtin.Bytes.toUpper)) true := co_im1 (fun _ q => by cases q) fun s Q E x r h => by
  obtain ⟨t, rfl⟩ := r
  exact call_gives slot_upper (typeIs_bytes _ _ _) entry_upper (args_upper _) (gives_upper b t) ⟨by show (b.map Builtin.Bytes.toUpper).toArray.size ≤ sizeLine; rw [sizeLine_eq, List.size_toArray, List.length_map]; lia, h _ s.heap _ (fun _ _ e => e) ⟨_, rfl⟩⟩
end
end Mine
end
section
set_option maxRecDepth 100000
set_option maxHeartbeats 4000000
set_option linter.unusedVariables false
set_option linter.unusedSimpArgs false
namespace Mine
variable {G : Glo} {pm cd : Value}
noncomputable def hexB (t : List UInt8) : List UInt8 := (hexT t).map Nat.toUInt8
theorem hexT_len (b : List UInt8) : (hexT b).length = 2 * b.length := by
  induction b with
  | nil => rfl
  | cons c l ih => simp only [hexT, List.flatMap_cons, List.length_append, List.length_cons] at ih ⊢; simp only [List.length_nil]; lia
theorem hexT_lt (t : List UInt8) : ∀ c ∈ hexT t, c < 128 := fun c hc => by
  obtain ⟨x, _, h⟩ := List.mem_flatMap.mp hc
  have hx := x.toNat_lt
  simp at h
  rcases h with rfl | rfl <;> (unfold Builtin.Bytes.hexDigit; split <;> lia)
theorem dig_up : ∀ n : Fin 16, Builtin.Bytes.toUpper (Builtin.Bytes.hexDigit n.val).toUInt8 = (dig (n.val : Int)).toNat.toUInt8 := by decide
theorem upper_hex (t : List UInt8) : (hexB t).map Builtin.Bytes.toUpper = toB (e16 t) := by
  unfold hexB hexT e16 toB
  induction t with
  | nil => rfl
  | cons c l ih =>
    simp only [List.flatMap_cons, List.map_append]
    rw [ih]
    congr 1
    have hx := c.toNat_lt
    have h1 := dig_up ⟨c.toNat / 16, by lia⟩
    have h2 := dig_up ⟨c.toNat % 16, by lia⟩
    simp only at h1 h2
    simp only [List.map_cons, List.map_nil, h1, h2]
    rfl

theorem sp_hexlify {kV : Value} {tk : Tok} (GO : G.Ok) (W : Gl G) (FA : FnAt G 99) (SA : ∀ b, Spec G 1 99 [vy b] [] (fun o => o = .ret (vy b) true)) (D : G.b0.get? 131 = some { cls := .type "tuple", data := .seq #[.ref 130, .int 1 tk] })
    (F : FnOk G 138 (mkFd 17 "b2a_hex" (.ref 131) kV pm cd) (fB 17) ["data", "sep", "bytes_per_sep"] ["data", "sep", "bytes_per_sep", "t"]) (t : List UInt8) (hl : t.length ≤ 1000) : Spec G 2 138 [vy t] [] (fun o => o = .ret (vy (hexB t)) true) := by
  refine Spec.of_body (vs' := [vy t, .im (.raw (.ref 130)), vi 1]) GO F (show ∀ x ∈ (fS 17).names, x.2 ≠ .cell by decide) rfl (noMeths_im (l := [.bytes t, .raw (.ref 130), .int 1])) (fun s ws kw hb h h2 => ?_) fun A fs L O => ?_
  · obtain ⟨w, rfl, h1⟩ := all2_one h
    obtain rfl := all2_nil h2
    exact ⟨[w, .ref 130, .int 1 tk], .cons h1 (.cons rfl (.cons ⟨tk, rfl⟩ .nil)), .of_defaults (T := 131) rfl (hb _ _ D) rfl rfl rfl⟩
  show BX _ [some (vy t), some (.im (.raw (.ref 130))), some (vi 1), none] _ _
  refine BX.cons (BX1.assign_im O (SE.call O rfl W.fBuf (by decide) FA (noStars_of rfl) rfl rfl (.one (SE.nm (i := 0) O.toOk0 rfl rfl (by decide)) rfl) .nil (SA t) rfl) (i := 0) rfl (.inl rfl) (noMeth_of rfl) rfl ?_)
  refine BX.cons (BX1.ite (b := false) (ST.eq (ST.or (TOr.cons (ST.cmp (SE.callB O.toOk0 rfl W.tType (by decide) (by intro a q; cases q) rfl (.one (SE.nm (i := 2) O.toOk0 rfl rfl (by decide)) rfl) co_type_int) (TC.one (SE.glob O.toOk0 rfl W.tInt (by decide)) (cmp_isnot_type rfl) rfl)) fun _ => TOr.cons (ST.cmp (SE.nm (i := 2) O.toOk0 rfl rfl (by decide)) (TC.one (SE.neg SE.const_int) cmp_lt rfl)) fun _ => TOr.cons (ST.cmp (SE.nm (i := 2) O.toOk0 rfl rfl (by decide)) (TC.one SE.const_int cmp_gt rfl)) fun _ => TOr.nil)) (by decide)) (fun e => by cases e) fun _ => ?_)
  refine BX.nil (BX.cons (BX1.ite (b := true) (ST.cmp (SE.nm (i := 1) O.toOk0 rfl rfl (by decide)) (TC.one (SE.glob O.toOk0 rfl W.noSep (by decide)) cmp_is_ref rfl)) (fun _ => ?_) fun e => by cases e))
  exact BX.cons (BX1.reti (SE.meth (SE.meth (SE.nm (i := 0) O.toOk0 rfl rfl (by decide)) rfl rfl nr_bytes FB.plainAttrs_bytes FB.slot_bytes_hex FB.type_bytes_hex rfl (by decide) rfl .nil (co_hex (by lia))) rfl rfl nr_str PySem.F.plainAttrs_str PySem.F.slot_str_encode PySem.F.type_str_encode rfl (by decide) rfl (.one SE.const_str rfl) (co_encode (hexT_lt t) (by rw [hexT_len]; lia))) nr_bytes rfl)

theorem sp_be16 (GO : G.Ok) (W : Gl G) (FA : FnAt G 138) (t : List UInt8) (SA : Spec G 2 138 [vy t] [] (fun o => o = .ret (vy (hexB t)) true))
    (F : FnOk G 175 (mkFd 25 "b16encode" .none .none pm cd) (fB 25) ["s"] ["s"]) (hl : t.length ≤ 1000) : Spec G 3 175 [vy t] [] (fun o => o = .ret (vy (toB (e16 t))) true) := by
  refine Spec.of_body (vs' := [vy t]) GO F (show ∀ x ∈ (fS 25).names, x.2 ≠ .cell by decide) rfl (noMeths_im (l := [.bytes t])) (bind1 fun _ => rfl) fun A fs L O => ?_
  show BX _ [some (vy t)] _ _
  exact BX.cons (BX1.reti (SE.im (v' := vy (toB (e16 t))) (SE.meth (SE.call O rfl W.fHexlify (by decide) FA (noStars_of rfl) rfl rfl (.one (SE.nm (i := 0) O.toOk0 rfl rfl (by decide)) rfl) .nil SA rfl) rfl rfl nr_bytes FB.plainAttrs_bytes slot_upper type_upper rfl (by decide) rfl .nil (co_upper (by simp [hexB, hexT_len]; lia))) (by rw [upper_hex])) nr_bytes rfl)

theorem sp_be64 {kV : Value} (GO : G.Ok) (W : Gl G) (FA : FnAt G 129) (t : List UInt8) (SA : Spec G 2 129 [vy t] [("newline", vb false)] (fun o => o = .ret (vy (toB (B64 t))) true)) (D : G.b0.get? 153 = some { cls := .type "tuple", data := .seq #[.none] })
    (F : FnOk G 160 (mkFd 23 "b64encode" (.ref 153) kV pm cd) (fB 23) ["s", "altchars"] ["s", "altchars", "encoded"]) : Spec G 3 160 [vy t] [] (fun o => o = .ret (vy (toB (B64 t))) true) := by
  refine Spec.of_body (vs' := [vy t, .im .none]) GO F (show ∀ x ∈ (fS 23).names, x.2 ≠ .cell by decide) rfl (noMeths_im (l := [.bytes t, .none])) (fun s ws kw hb h h2 => ?_) fun A fs L O => ?_
  · obtain ⟨w, rfl, h1⟩ := all2_one h
    obtain rfl := all2_nil h2
    exact ⟨[w, .none], .cons h1 (.cons rfl .nil), .of_defaults (T := 153) rfl (hb _ _ D) rfl rfl rfl⟩
  show BX _ [some (vy t), some (.im .none), none] _ _
  refine BX.cons (BX1.assign_im O (SE.call (kvs := [vb false]) O rfl W.fB2a (by decide) FA (noStars_of rfl) rfl rfl (.one (SE.nm (i := 0) O.toOk0 rfl rfl (by decide)) rfl) (.cons SE.const_bool .nil) SA rfl) (i := 2) rfl (.inl rfl) (noMeth_of rfl) rfl ?_)
  refine BX.cons (BX1.ite (b := false) (ST.cmp (SE.nm (i := 1) O.toOk0 rfl rfl (by decide)) (TC.one SE.const_none (cmp_isnot_none nr_none) rfl)) (fun e => by cases e) fun _ => ?_)
  exact BX.nil (BX.cons (BX1.reti (SE.nm (i := 2) O.toOk0 rfl rfl (by decide)) nr_bytes rfl))

theorem sp_bd64 {kV : Value} (GO : G.Ok) (W : Gl G) (FD : FnAt G 72) (SD : ∀ b, Spec G 1 72 [vy b] [] (fun o => o = .ret (vy b) true)) (FA : FnAt G 121) (t : List UInt8) (P : RO → Prop) (hP : ∀ v fr, P (.ret v fr) → ∃ i, v = .im i) (SA : Spec G 2 121 [vy t] [("strict_mode", vb true)] P) (D : G.b0.get? 161 = some { cls := .type "tuple", data := .seq #[.none, .bool false] })
    (F : FnOk G 168 (mkFd 24 "b64decode" (.ref 161) kV pm cd) (fB 24) ["s", "altchars", "validate"] ["s", "altchars", "validate"]) : Spec G 3 168 [vy t] [("validate", vb true)] P := by
  refine Spec.of_body (vs' := [vy t, .im .none, vb true]) GO F (show ∀ x ∈ (fS 24).names, x.2 ≠ .cell by decide) rfl (noMeths_im (l := [.bytes t, .none, .bool true])) (fun s ws kw hb h h2 => ?_) fun A fs L O => ?_
  · obtain ⟨w, rfl, h1⟩ := all2_one h
    obtain ⟨u, rfl, h3⟩ := all2_one h2
    exact ⟨[w, .none, u], .cons h1 (.cons rfl (.cons h3 .nil)), .of_defaults (T := 161) rfl (hb _ _ D) rfl rfl rfl⟩
  show BX _ [some (vy t), some (.im .none), some (vb true)] _ _
  refine BX.cons (BX1.assign_im O (SE.call O rfl W.fDec (by decide) FD (noStars_of rfl) rfl rfl (.one (SE.nm (i := 0) O.toOk0 rfl rfl (by decide)) rfl) .nil (Spec.mono (l' := 2) (SD t) (by decide) fun _ h => h) rfl) (i := 0) rfl (.inl rfl) (noMeth_of rfl) rfl ?_)
  refine BX.cons (BX1.ite (b := false) (ST.cmp (SE.nm (i := 1) O.toOk0 rfl rfl (by decide)) (TC.one SE.const_none (cmp_isnot_none nr_none) rfl)) (fun e => by cases e) fun _ => ?_)
  exact BX.nil (BX.cons (BX1.retX (SX.call (kvs := [vb true]) O rfl W.fA2b (by decide) FA rfl rfl rfl (.one (SE.nm (i := 0) O.toOk0 rfl rfl (by decide)) rfl) (.cons (SE.nm (i := 2) O.toOk0 rfl rfl (by decide)) .nil) SA rfl) (fun _ _ h => h) fun _ _ h => h))
end Mine
end
section
set_option maxRecDepth 100000
set_option maxHeartbeats 4000000
set_option linter.unusedVariables false
namespace Mine
noncomputable def reCode : Array Nat := #[14, 12, 4, 1, 1, 21, 22, 48, 57, 22, 65, 70, 0, 13, 9, 21, 22, 48, 57, 22, 65, 70, 0, 1]
theorem inSet5 (c : Nat) (sn : Sre.Seen) : ∃ sn', Sre.inSet reCode c 24 5 true sn = .ok (!((decide (48 ≤ c) && decide (c ≤ 57)) || (decide (65 ≤ c) && decide (c ≤ 70))), sn') := by
  have e : ∃ a b d, Sre.inSet reCode c 24 5 true sn = if (decide (48 ≤ c) && decide (c ≤ 57)) = true then .ok (false, a) else if (decide (65 ≤ c) && decide (c ≤ 70)) = true then .ok (false, b) else .ok (true, d) := ⟨_, _, _, rfl⟩
  obtain ⟨a, b, d, e⟩ := e
  rw [e]
  by_cases h1 : (decide (48 ≤ c) && decide (c ≤ 57)) = true
  · rw [if_pos h1, h1]; exact ⟨_, rfl⟩
  · rw [if_neg h1]
    by_cases h2 : (decide (65 ≤ c) && decide (c ≤ 70)) = true
    · rw [if_pos h2, h2]; exact ⟨b, by simp⟩
    · rw [if_neg h2]; exact ⟨d, by simp [Bool.eq_false_iff.mpr h1, Bool.eq_false_iff.mpr h2]⟩
theorem inSet15 (c : Nat) (sn : Sre.Seen) : ∃ sn', Sre.inSet reCode c 24 15 true sn = .ok (!((decide (48 ≤ c) && decide (c ≤ 57)) || (decide (65 ≤ c) && decide (c ≤ 70))), sn') := by
  have e : ∃ a b d, Sre.inSet reCode c 24 15 true sn = if (decide (48 ≤ c) && decide (c ≤ 57)) = true then .ok (false, a) else if (decide (65 ≤ c) && decide (c ≤ 70)) = true then .ok (false, b) else .ok (true, d) := ⟨_, _, _, rfl⟩
  obtain ⟨a, b, d, e⟩ := e
  rw [e]
  by_cases h1 : (decide (48 ≤ c) && decide (c ≤ 57)) = true
  · rw [if_pos h1, h1]; exact ⟨_, rfl⟩
  · rw [if_neg h1]
    by_cases h2 : (decide (65 ≤ c) && decide (c ≤ 70)) = true
    · rw [if_pos h2, h2]; exact ⟨b, by simp⟩
    · rw [if_neg h2]; exact ⟨d, by simp [Bool.eq_false_iff.mpr h1, Bool.eq_false_iff.mpr h2]⟩

noncomputable def upN (c : Nat) : Bool := (decide (48 ≤ c) && decide (c ≤ 57)) || (decide (65 ≤ c) && decide (c ≤ 70))
theorem admitted_to (m : Sre.M) (hc : m.code = reCode) (l : List Nat) (ht : m.text = l.toArray) (hl : m.lim = l.length) : ∀ (fuel s : Nat) (sn : Sre.Seen), l.length ≤ s + fuel →
    (if (l.drop s).all upN then ∃ sn', Sre.M.admitted m fuel s sn = .ok (none, sn') else ∃ n sn', Sre.M.admitted m fuel s sn = .ok (some n, sn') ∧ n < l.length ∧ upN (l.getD n 0) = false) := by
  intro fuel
  induction fuel with
  | zero =>
    intro s sn h
    rw [List.drop_of_length_le (by lia)]
    exact ⟨sn, rfl⟩
  | succ fuel ih =>
    intro s sn h
    unfold Sre.M.admitted
    by_cases hs : s ≥ m.lim
    · rw [List.drop_of_length_le (by lia)]
      simp only [if_pos hs]
      exact ⟨sn, rfl⟩
    · have hs' : s < l.length := by lia
      simp only [if_neg hs]
      obtain ⟨sn', e⟩ := inSet5 (m.text.getD s 0) sn
      have hx : m.text.getD s 0 = l.getD s 0 := by rw [ht]; simp
      rw [hc]
      show (if _ then ∃ sn', (match Sre.inSet reCode (m.text.getD s 0) 24 5 true sn with | .ok (true, seen) => _ | .ok (false, seen) => _ | .error why => _) = _ else ∃ n sn', (match Sre.inSet reCode (m.text.getD s 0) 24 5 true sn with | .ok (true, seen) => _ | .ok (false, seen) => _ | .error why => _) = _ ∧ _)
      rw [e]
      have hd : l.drop s = l.getD s 0 :: l.drop (s + 1) := by
        rw [List.drop_eq_getElem_cons hs']; simp [hs']
      rw [hd, List.all_cons]
      cases hu : upN (l.getD s 0) with
      | true =>
        have hu' := hu
        unfold upN at hu'
        rw [hx, hu']
        simp only [Bool.not_true, Bool.true_and]
        exact ih (s + 1) sn' (by lia)
      | false =>
        have hu' := hu
        unfold upN at hu'
        rw [hx, hu']
        exact ⟨s, sn', rfl, hs', hu⟩

theorem run_found (m : Sre.M) (hc : m.code = reCode) (l : List Nat) (ht : m.text = l.toArray) (hl : m.lim = l.length) (s : Nat) (hs : s < l.length) (hu : upN (l.getD s 0) = false) (ho : m.outcome = none) (ha : m.answer = none) (hw : m.wholeText = false) (hm : m.mustAdvance = false) (hp : m.pc = 13) (hf : m.frames = []) (hwt : m.weight = 0) :
    ∃ m', (m.attemptAt s true).runFor 4 = m' ∧ m'.outcome = some .matched := by
  obtain ⟨code, text, lim, start, ls, wt, ma, pc, pos, handed, om, marks, lm, li, loops, inner, frames, weight, answer, seen, outcome⟩ := m
  simp only at hc ht hl ho ha hw hm hp hf hwt
  subst hc ht hl ho ha hw hm hp hf hwt
  have hx : (l.toArray).getD s 0 = l.getD s 0 := by simp
  obtain ⟨sn', e⟩ := inSet15 (l.getD s 0) ((seen).add 13)
  unfold upN at hu
  rw [hu] at e
  refine ⟨_, rfl, ?_⟩
  have h1 : ¬ s ≥ l.length := by lia
  have hI : ∀ m : Sre.M, m.code = reCode → m.pc = 13 → m.text = l.toArray → m.pos = s → m.lim = l.length → m.seen = seen → m.exec = { m with seen := sn', pc := 23, pos := s + 1 } := by
    intro m q1 q2 q3 q4 q5 q6
    obtain ⟨code, text, lim, start, ls, wt, ma, pc, pos, handed, om, marks, lm, li, loops, inner, frames, weight, answer, seen, outcome⟩ := m
    simp only at q1 q2 q3 q4 q5 q6
    subst q1 q2 q3 q4 q5 q6
    show (if pos ≥ l.length then _ else match Sre.inSet reCode (l.toArray.getD pos 0) 24 15 true (seen.add 13) with | .error why => _ | .ok (false, seen) => _ | .ok (true, seen) => _) = _
    rw [if_neg h1, hx, e]
    rfl
  have at_ : ∀ m : Sre.M, m.weight = 0 → m.frames = [] → m.pc = 13 → m.attemptAt s true = { m with start := s, pos := s, lastmark := -1, lastindex := -1, frames := [{ wait := .nextStart, pc := 13, pos := s, outermost := true }], weight := 1, pc := 13, handed := s, outermost := true } := by
    intro m q1 q2 q3
    obtain ⟨code, text, lim, start, ls, wt, ma, pc, pos, handed, om, marks, lm, li, loops, inner, frames, weight, answer, seen, outcome⟩ := m
    simp only at q1 q2 q3
    subst q1 q2 q3
    rfl
  rw [at_ _ rfl rfl rfl]
  have st : ∀ m : Sre.M, m.outcome = none → m.answer = none → m.pc = 13 → m.code = reCode → m.runFor 4 = m.exec.runFor 3 := by
    intro m q1 q2 q3 q4
    obtain ⟨code, text, lim, start, ls, wt, ma, pc, pos, handed, om, marks, lm, li, loops, inner, frames, weight, answer, seen, outcome⟩ := m
    simp only at q1 q2 q3 q4
    subst q1 q2 q3 q4
    rfl
  rw [st _ rfl rfl rfl rfl, hI _ rfl rfl rfl rfl rfl rfl]
  rfl

noncomputable def reM (l : List Nat) : Sre.M := { code := reCode, text := l.toArray, lim := l.length, start := 0, pc := 13, pos := 0, handed := 0, marks := Array.replicate (2 * 0) none, mustAdvance := false, seen := ({} : Sre.Seen).add 14 }
theorem search_eq (l : List Nat) : Sre.forSearch reCode l.toArray 0 0 l.length false = if (decide (0 > l.length) || decide (l.length - 0 < 1)) = true then (reM l).say false else ({ reM l with lastStart := l.length } : Sre.M).attemptFrom 0 true := rfl
theorem from_eq (m : Sre.M) (hc : m.code = reCode) : m.attemptFrom 0 true = match m.admitted (m.lim + 1 - 0) 0 m.seen with
  | .ok (some s, seen) => ({ m with mustAdvance := false, seen } : Sre.M).attemptAt s true
  | .ok (none, seen) => ({ m with seen } : Sre.M).say false
  | .error why => m.stick why := by
  obtain ⟨code, text, lim, start, ls, wt, ma, pc, pos, handed, om, marks, lm, li, loops, inner, frames, weight, answer, seen, outcome⟩ := m
  simp only at hc
  subst hc
  rfl
theorem search_all (l : List Nat) (h : l.all upN = true) : ((Sre.forSearch reCode l.toArray 0 0 l.length false).runFor 4).outcome = some .failed := by
  rw [search_eq]
  by_cases h0 : (decide (0 > l.length) || decide (l.length - 0 < 1)) = true
  · rw [if_pos h0]; rfl
  · rw [if_neg h0, from_eq _ rfl]
    have := admitted_to ({ reM l with lastStart := l.length } : Sre.M) rfl l rfl rfl (l.length + 1 - 0) 0 (({} : Sre.Seen).add 14) (by lia)
    rw [List.drop_zero, if_pos h] at this
    obtain ⟨sn, e⟩ := this
    show (Sre.M.runFor 4 (match Sre.M.admitted _ (l.length + 1 - 0) 0 (({} : Sre.Seen).add 14) with | .ok (some s, seen) => _ | .ok (none, seen) => _ | .error why => _)).outcome = _
    rw [e]
    rfl
theorem search_not (l : List Nat) (h : l.all upN = false) : ((Sre.forSearch reCode l.toArray 0 0 l.length false).runFor 4).outcome = some .matched := by
  rw [search_eq]
  have hl : l.length ≠ 0 := fun e => by rw [List.length_eq_zero_iff.mp e] at h; simp at h
  rw [if_neg (by rw [decide_eq_false (by lia : ¬ 0 > l.length), decide_eq_false (by lia : ¬ l.length - 0 < 1)]; decide), from_eq _ rfl]
  have := admitted_to ({ reM l with lastStart := l.length } : Sre.M) rfl l rfl rfl (l.length + 1 - 0) 0 (({} : Sre.Seen).add 14) (by lia)
  rw [List.drop_zero, if_neg (by rw [h]; decide)] at this
  obtain ⟨n, sn, e, hn, hu⟩ := this
  show (Sre.M.runFor 4 (match Sre.M.admitted _ (l.length + 1 - 0) 0 (({} : Sre.Seen).add 14) with | .ok (some s, seen) => _ | .ok (none, seen) => _ | .error why => _)).outcome = _
  rw [e]
  obtain ⟨m', e1, e2⟩ := run_found ({ reM l with lastStart := l.length, mustAdvance := false, seen := sn } : Sre.M) rfl l rfl rfl n hn hu rfl rfl rfl rfl rfl rfl rfl
  show (Sre.M.runFor 4 (Sre.M.attemptAt _ n true)).outcome = _
  rw [e1]; exact e2
end Mine
end
section
set_option maxRecDepth 100000
set_option maxHeartbeats 4000000
set_option linter.unusedVariables false
namespace Mine
section
variable {prog : Program} {w : World} {A : Around} {E : Value → Shared → Prop} {s : Shared}
open Builtin Builtin.Re
theorem named_one (v : Value) : reNamed "re.Pattern.search" "search" ["string", "pos", "endpos"] 1 [v] [] = pure [some v, none, none] := by first | rfl | kernel_rfl
theorem quiet_bytes (b : Array UInt8) (t : Tok) : Bytes.bufferQuiet? "_sre" (.bytes b t) = pure (some b) := by first | rfl | kernel_rfl
theorem no_coll (b : Array UInt8) (t : Tok) : reNoCollectionInside (.bytes b t) 1 = pure () := by first | rfl | kernel_rfl
theorem text_of (b : Array UInt8) (t : Tok) : reTextOf (.bytes b t) = pure (b.map (·.toNat), 1) := by first | rfl | kernel_rfl
noncomputable def patO (tk t2 : Tok) : Obj := { cls := .type "re.Pattern", data := .fields #[.bytes #[91, 94, 48, 45, 57, 65, 45, 70, 93] tk, .int 0 t2, .int 0 0, .none, .none, .ref 63, .int 1 0] }
noncomputable def tupO : Obj := { cls := .type "tuple", data := .seq #[.int 14 0, .int 12 0, .int 4 0, .int 1 0, .int 1 0, .int 21 0, .int 22 0, .int 48 0, .int 57 0, .int 22 0, .int 65 0, .int 70 0, .int 0 0, .int 13 0, .int 9 0, .int 21 0, .int 22 0, .int 48 0, .int 57 0, .int 22 0, .int 65 0, .int 70 0, .int 0 0, .int 1 0] }
theorem target_wp {tk t2 t : Tok} {b : List UInt8} {Q : ReTarget → Shared → Prop} (h64 : s.heap.get? 64 = some (patO tk t2)) (h63 : s.heap.get? 63 = some tupO) (hz : b.length ≤ 1000000) (h : Q ⟨.ref 64, .bytes b.toArray t, reCode, (b.map (·.toNat)).toArray, 1, 0, 0, (b.map (·.toNat)).length⟩ s) :
    wpAny (model prog w) A (reTarget "re.Pattern.search" "search" ⟨[.ref 64, .bytes b.toArray t], []⟩) Q E s := by
  unfold reTarget
  dsimp only
  rw [named_one]
  have hs : min (2 ^ 63 - 1 : Int).toNat b.length = b.length := Nat.min_eq_right (by have : (2 ^ 63 - 1 : Int).toNat = 9223372036854775807 := by decide
                                                                                     omega)
  have ht : b.toArray.map (·.toNat) = (b.map (·.toNat)).toArray := by simp
  unfold patO at h64
  unfold tupO at h63
  refine wpAny_bind (wpAny_pure ?_)
  dsimp only
  refine wpAny_bind (wpAny_pure ?_)
  refine wpAny_bind (wpAny_pure ?_)
  unfold fieldsOf
  refine wpAny_bind ?_
  dsimp only
  refine wpAny_bind (wpAny_load h64 (wpAny_pure ?_))
  rw [text_of, ht]
  refine wpAny_bind (wpAny_pure ?_)
  dsimp only
  rw [if_neg (by simp [reRawNat]), if_neg (by simp [reRawNat]), no_coll]
  refine wpAny_bind (wpAny_pure ?_)
  unfold reRawItems seqItems?
  refine wpAny_bind (wpAny_bind ?_)
  refine wpAny_bind (wpAny_load h63 (wpAny_pure (wpAny_pure (wpAny_pure ?_))))
  refine (congrArg (fun x => Q x s) ?_).mpr h
  rw [ReTarget.mk.injEq]
  refine ⟨rfl, rfl, by simp [reRawOf, reCode], rfl, rfl, by simp [reRawNat], Nat.zero_min _, ?_⟩
  simpa using hs

theorem quiet_loop {l : List Nat} {f : Nat → Unit → Sem (ForInStep Unit)} {Q : Unit → Shared → Prop} (hf : ∀ i (P : ForInStep Unit → Shared → Prop), P (.yield ()) s → wpAny (model prog w) A (f i ()) P E s) (h : Q () s) : wpAny (model prog w) A (forIn l () f) Q E s := by
  induction l with
  | nil => exact wpAny_pure h
  | cons a l ih =>
    rw [List.forIn_cons]
    refine wpAny_bind (hf a _ ?_)
    exact ih

theorem drive_four {m : Sre.M} {o : Sre.Outcome} {Q : Sre.M → Shared → Prop} (h : (m.runFor 4).outcome = some o) (hq : ∀ m' : Sre.M, m'.outcome = some o → Q m' s) : wpAny (model prog w) A (reDrive (2 ^ 64) m) Q E s := by
  rw [show (2 : Nat) ^ 64 = 18446744073709551615 + 1 from rfl, reDrive]
  rw [if_pos (by show ((m.runFor 4).outcome).isSome = true; rw [h]; rfl)]
  exact wpAny_pure (hq _ h)

theorem run_end {m : Sre.M} {o : Sre.Outcome} {Q : Option Sre.M → Shared → Prop} (h : (m.runFor 4).outcome = some o) (h1 : o = .matched → ∀ m', Q (some m') s) (h2 : o = .failed → Q none s) (h3 : ∀ y, o ≠ .stuck y) : wpAny (model prog w) A (reRunToEnd m) Q E s := by
  unfold reRunToEnd
  refine wpAny_bind (drive_four h fun m' e => ?_)
  refine wpAny_bind (quiet_loop (fun i P hP => ?_) ?_)
  · by_cases hi : m'.seen.has i = true
    · rw [if_pos hi]; exact wpAny_bind (wpAny_rule (wpAny_pure hP))
    · rw [if_neg hi]; exact wpAny_pure hP
  · rw [e]
    cases o with
    | matched => exact wpAny_pure (h1 rfl m')
    | failed => exact wpAny_pure (h2 rfl)
    | stuck y => exact absurd rfl (h3 y)
end
end Mine
end
section
set_option maxRecDepth 100000
set_option maxHeartbeats 4000000
set_option linter.unusedVariables false
namespace Mine
section
variable {prog : Program} {w : World} {A : Around} {E : Value → Shared → Prop} {s : Shared}
open Builtin Builtin.Re
theorem plainAttrs_pat : PlainAttrs "re.Pattern" :=
  ⟨⟨"object.__getattribute__", by rw [typeLookup_type, builtinLookup_eq_fast]; kernel_rfl, by decide +kernel⟩, by rw [typeLookup_type, builtinLookup_eq_fast]; kernel_rfl⟩
theorem slot_search : Slot "re.Pattern" "search" "re.Pattern.search" :=
  .of (owner := "re.Pattern") (n := "search") (by rw [typeLookup_type, builtinLookup_eq_fast]; kernel_rfl) (by decide +kernel) (by decide +kernel) (by decide +kernel)
    (by first | exact .inl (by decide +kernel) | exact .inr (by decide +kernel)) (by rw [isSubtype_type]; kernel_rfl)
theorem type_search : typeOf (.builtin "re.Pattern.search") = pure (.type "method_descriptor") := by show builtinType _ = _; rw [builtinType_eq_fast]; kernel_rfl
theorem entry_search : entryFor table "re.Pattern.search" = some Builtin.«re.Pattern.search» := entryFor_of_tree (by kernel_rfl)
theorem args_search (a b : Value) : argsOk "re.Pattern.search" ⟨[a, b], []⟩ := by unfold argsOk; kernel_rfl
theorem nobool_match : typeLookup (.type "re.Match") "__bool__" = pure none := by rw [typeLookup_type, builtinLookup_eq_fast]; kernel_rfl
theorem nolen_match : typeLookup (.type "re.Match") "__len__" = pure none := by rw [typeLookup_type, builtinLookup_eq_fast]; kernel_rfl

theorem truthy_match {a : Addr} {Q : Bool → Shared → Prop} (hT : s.TypeIs (.ref a) "re.Match") (h : Q true s) : wpAny (model prog w) A (truthy (.ref a)) Q E s := by
  unfold truthy callSpecial?
  refine wpAny_bind (wpAny_bind (wpAny_specialOf hT nobool_match ?_))
  refine wpAny_pure ?_
  dsimp only
  refine wpAny_bind (wpAny_specialOf hT nolen_match ?_)
  exact wpAny_pure h
theorem all_up (b : List UInt8) : (b.map (·.toNat)).all upN = b.all hexup := by
  rw [List.all_map]
  congr 1
  funext c
  simp only [Function.comp, upN, hexup]
  congr 1 <;> congr 1 <;> simp only [decide_eq_decide] <;> omega

theorem search_wp {tk t2 t : Tok} {b : List UInt8} {Q : Fin → Shared → Prop} (h64 : s.heap.get? 64 = some (patO tk t2)) (h63 : s.heap.get? 63 = some tupO) (hz : b.length ≤ 1000000)
    (h1 : b.all hexup = true → Q (.done (.ret .none)) s) (h2 : b.all hexup = false → ∀ (o1 o2 : Obj), o2.cls = .type "re.Match" → o2.isFreed = false → Q (.done (.ret (.ref (s.heap.push o1).objs.size))) { s with heap := (s.heap.push o1).push o2 }) :
    wpAny (model prog w) A («re.Pattern.search» ⟨[.ref 64, .bytes b.toArray t], []⟩) Q E s := by
  unfold «re.Pattern.search»
  refine wpAny_bind (target_wp h64 h63 hz ?_)
  unfold reAnswer
  dsimp only
  cases hu : b.all hexup with
  | true =>
    refine wpAny_bind (run_end (search_all _ ((all_up b).trans hu)) (fun e => by cases e) (fun _ => ?_) fun y e => by cases e)
    exact wpAny_pure (h1 hu)
  | false =>
    refine wpAny_bind (run_end (search_not _ ((all_up b).trans hu)) (fun _ m' => ?_) (fun e => by cases e) fun y e => by cases e)
    dsimp only
    unfold reNewMatch
    simp only [List.range_zero, List.flatMap_nil, List.any_nil]
    rw [if_neg (by decide)]
    refine wpAny_bind (wpAny_bind (wpAny_newTuple ?_ (by simp [sizeLine_eq])))
    unfold newFields newObj
    dsimp only
    rw [if_neg (by simp [sizeLine_eq])]
    unfold newObjAsIs
    refine wpAny_bind (wpAny_alloc ?_)
    exact wpAny_pure (wpAny_pure (h2 hu _ _ rfl rfl))
end
section
variable {C : Ctx} {Γ : Gam}
theorem ST.search {px ap cp : Pos} {e : Expr} {b : List UInt8} {f : Bool} {tk t2 : Tok} (O : C.Ok0) (hg : C.toGlo.At "_twin_re_1" (.ref 64)) (hk : C.ev.kindOf "_twin_re_1" = some .globalImplicit) (h64 : C.b0.get? 64 = some (patO tk t2)) (h63 : C.b0.get? 63 = some tupO)
    (he : SE C Γ e (vy b) f) (hst : isStar e = false) (hl : (ap.endLine == cp.line) = true) (hz : b.length ≤ 1000000) : ST C Γ (.Call (.Attribute (.Name "_twin_re_1" px) "search" ap) [e] [] cp) (!(b.all hexup)) := fun s Q E S h => by
  refine isTrue_plain ?_
  refine method_any rfl (noStars_of (by simp [hst])) (by simp) hl (SE.glob O hk hg (by decide) s _ E S fun w h₁ t₁ x₁ r₁ _ pl => ?_)
  obtain rfl : w = .ref 64 := r₁
  have S₁ := S.ext x₁
  have e64 := S₁.base _ _ h64
  refine getMethod_builtin (s := ⟨h₁, s.gens, s.drawn, t₁, s.os⟩) (T := "re.Pattern") ⟨_, e64, rfl⟩ plainAttrs_pat slot_search type_search (fun a e => by cases e; exact ⟨_, e64, rfl⟩) ?_
  refine callWith_ok (s := ⟨h₁, s.gens, s.drawn, t₁, s.os⟩) (noStars_of (by simp [hst])) rfl rfl (.one he hst) SKs.nil S₁ (fun h' hb => looks_machine (by intro a q; cases q)) fun ws kw h₂ t₂ x₂ r₂ _ => ?_
  have S₂ := S₁.ext x₂
  have e64 := S₂.base _ _ h64
  have e63 := S₂.base _ _ h63
  have x := x₁.trans x₂
  cases r₂ with
  | cons rv r₂ =>
    cases r₂
    obtain ⟨t, rfl⟩ := rv
    refine wpAny_call (codeAny_call_builtin slot_search.plain entry_search (slot_search.check _ _ _ _ _ _ _ _ ⟨_, e64, rfl⟩ (args_search _ _) ?_))
    refine search_wp e64 e63 hz (fun hu => ?_) fun hu o1 o2 hc hfr => ?_
    · refine truthy_none ?_
      have h' := h h₂ t₂ x
      rw [hu] at h'
      exact h'
    · have hT : (⟨(h₂.push o1).push o2, s.gens, s.drawn, t₂, s.os⟩ : Shared).TypeIs (.ref (h₂.push o1).objs.size) "re.Match" := ⟨o2, Heap.get?_push_size _ hfr, hc⟩
      rw [hu] at h
      have h' := h ((h₂.push o1).push o2) t₂ ((x.push o1).push o2)
      exact truthy_match hT h'
end
end Mine
end
section
set_option maxRecDepth 100000
set_option maxHeartbeats 4000000
set_option linter.unusedVariables false
set_option linter.unusedSimpArgs false
namespace Mine
variable {G : Glo} {pm cd : Value}
noncomputable def stepA (st : Int × Int × Int × List Int) (c : UInt8) : Option (Int × Int × Int × List Int) :=
  let v := b64v c.toNat
  if (c.toNat : Int) = 61 then (if st.1 ≥ 2 ∧ st.1 + (st.2.2.1 + 1) ≤ 4 then some (st.1, st.2.1, st.2.2.1 + 1, st.2.2.2) else none)
  else if v ≥ 64 then none else if st.2.2.1 ≠ 0 then none
  else if st.1 = 0 then some (1, v, 0, st.2.2.2)
  else if st.1 = 1 then some (2, v % 16, 0, st.2.2.2 ++ [st.2.1 * 4 + v / 16])
  else if st.1 = 2 then some (3, v % 4, 0, st.2.2.2 ++ [st.2.1 * 16 + v / 4])
  else some (0, 0, 0, st.2.2.2 ++ [st.2.1 * 64 + v])
noncomputable def endA (q p : Int) : Bool := decide (q = 1 ∨ (q ≠ 0 ∧ q + p < 4))
noncomputable def A64 (t : List UInt8) : Option (List Int) := match t.foldlM stepA (0, 0, 0, []) with
  | none => none
  | some (q, _, p, o) => if endA q p then none else some o
noncomputable def A2b (t : List UInt8) (o : RO) : Prop := match A64 t with
  | none => ∃ m, o = .exc (.ref 82) [m]
  | some b => o = .ret (vy (toB b)) true
noncomputable def OkA (q l p : Int) (o : List Int) (n : Nat) : Prop :=
  ((q = 0 ∧ l = 0) ∨ (q = 1 ∧ 0 ≤ l ∧ l < 64) ∨ (q = 2 ∧ 0 ≤ l ∧ l < 16) ∨ (q = 3 ∧ 0 ≤ l ∧ l < 4)) ∧ 0 ≤ p ∧ (∀ x ∈ o, 0 ≤ x ∧ x < 256) ∧ o.length ≤ n
theorem b64v_ge (c : UInt8) : 0 ≤ b64v c.toNat := by
  unfold b64v; have := u8_lt c
  repeat (first | split | lia)
theorem okA_step {st st' : Int × Int × Int × List Int} {c : UInt8} {n : Nat} (h : OkA st.1 st.2.1 st.2.2.1 st.2.2.2 n) (e : stepA st c = some st') : OkA st'.1 st'.2.1 st'.2.2.1 st'.2.2.2 (n + 1) := by
  obtain ⟨q, l, p, o⟩ := st
  obtain ⟨h1, h2, h3, h4⟩ := h
  simp only at h1 h2 h3 h4
  have hv := b64v_ge c
  have app : ∀ y : Int, (0 ≤ y ∧ y < 256) → ∀ x ∈ o ++ [y], 0 ≤ x ∧ x < 256 := fun y hy x hx => by
    rcases List.mem_append.mp hx with hx | hx
    · exact h3 x hx
    · simp at hx; subst hx; exact hy
  unfold stepA at e
  by_cases c1 : (c.toNat : Int) = 61
  · rw [if_pos c1] at e
    by_cases c2 : q ≥ 2 ∧ q + (p + 1) ≤ 4
    · cases (if_pos c2).symm.trans e; exact ⟨h1, by simp only; lia, h3, by simp only; lia⟩
    · cases (if_neg c2).symm.trans e
  rw [if_neg c1] at e
  by_cases c2 : (b64v c.toNat : Int) ≥ 64
  · cases (if_pos c2).symm.trans e
  replace e := (if_neg c2).symm.trans e
  by_cases c3 : p ≠ 0
  · cases (if_pos c3).symm.trans e
  replace e := (if_neg c3).symm.trans e
  by_cases c4 : q = 0
  · cases (if_pos c4).symm.trans e; exact ⟨.inr (.inl ⟨rfl, hv, by simp only; lia⟩), by simp, h3, by simp only; lia⟩
  replace e := (if_neg c4).symm.trans e
  by_cases c5 : q = 1
  · cases (if_pos c5).symm.trans e; exact ⟨.inr (.inr (.inl ⟨rfl, by simp only; lia, by simp only; lia⟩)), by simp, app _ (by lia), by simp; lia⟩
  replace e := (if_neg c5).symm.trans e
  by_cases c6 : q = 2
  · cases (if_pos c6).symm.trans e; exact ⟨.inr (.inr (.inr ⟨rfl, by simp only; lia, by simp only; lia⟩)), by simp, app _ (by lia), by simp; lia⟩
  · cases (if_neg c6).symm.trans e; exact ⟨.inl ⟨rfl, rfl⟩, by simp, app _ (by lia), by simp; lia⟩

noncomputable def fmtA : Str := "Invalid base64-encoded string: number of data characters (%d) cannot be 1 more than a multiple of 4"
theorem fmt_op {C : Ctx} : ∃ T : Int → Str, ∀ n : Int, 0 ≤ n → n < 10 ^ 10 → OpOk C (binaryOp .Mod) (vs' fmtA) (vi n) (vs' (T n)) := by
  refine ⟨fun n => Str.ofString "Invalid base64-encoded string: number of data characters (" ++ Str.ofString (toString n) ++ Str.ofString ") cannot be 1 more than a multiple of 4", fun n h0 h1 => op_im (fun _ q => by cases q) fun s Q E x y rx ry h => ?_⟩
  obtain ⟨t, rfl⟩ := rx; obtain ⟨u, rfl⟩ := ry
  refine' KPc.mod_int ?kpcF h0 h1 ?kpcm ?_
  case kpcF => unfold fmtA; kpc_eq
  case kpcm => kpc_run
  exact fun t' k => h _ k ⟨t', rfl⟩

theorem sp_a2b {kV : Value} (GO : G.Ok) (W : Gl G) (FA : FnAt G 92) (SA : ∀ b, Spec G 1 92 [vy b] [] (fun o => o = .ret (vy b) true)) (FT : FnAt G 106) (ST' : ∀ b, Spec G 1 106 [vb b] [] (fun o => o = .ret (vb b) true)) (FV : FnAt G 113) (SV : ∀ c, Spec G 1 113 [vi c] [] (fun o => o = .ret (vi (b64v c)) true))
    (F : FnOk G 121 (mkFd 14 "a2b_base64" .none kV pm cd) (fB 14) ["data", "strict_mode"] ["data", "strict_mode", "ascii_data", "out", "quad_pos", "leftchar", "pads", "i", "this_ch"]) (t : List UInt8) (hl : t.length ≤ 1000) : Spec G 2 121 [vy t] [("strict_mode", vb true)] (A2b t) := by
  refine Spec.of_body (vs' := [vy t, vb true]) GO F (show ∀ x ∈ (fS 14).names, x.2 ≠ .cell by decide) rfl (noMeths_im (l := [.bytes t, .bool true])) (fun s ws kw _ h h2 => ?_) fun A fs L O => ?_
  · obtain ⟨w, rfl, h1⟩ := all2_one h
    obtain ⟨u, rfl, h3⟩ := all2_one h2
    exact ⟨[w, u], .cons h1 (.cons h3 .nil), .of_eq rfl⟩
  have aft : ∀ (q l p : Int) (o : List Int) (P : RO → Prop), (∀ x ∈ o, 0 ≤ x ∧ x < 256) → o.length ≤ 1000 → (endA q p = true → ∀ m, P (.exc (.ref 82) [m])) → (endA q p = false → P (.ret (vy (toB o)) true)) → BX (mkC G A fs (callEnv (mkFd 14 "a2b_base64" .none kV pm cd) L 121) ["data", "strict_mode", "ascii_data", "out", "quad_pos", "leftchar", "pads", "i", "this_ch"] 1) [some (vy t), some (vb true), some (vy t), some (.own (o.map .int)), some (vi q), none, some (vi p), none, none] ((fB 14).drop 8) (Outs P) := by
    intro q l p o P ho hol h1 h2
    refine BX.cons (BX1.ite (ST.cmp (SE.nm (i := 4) O.toOk0 rfl rfl (by decide)) (TC.one SE.const_int cmp_eq rfl)) (fun h => ?_) fun h => ?_)
    · simp only [beq_iff_eq] at h
      obtain ⟨T, hT⟩ := fmt_op (C := (mkC G A fs (callEnv (mkFd 14 "a2b_base64" .none kV pm cd) L 121) ["data", "strict_mode", "ascii_data", "out", "quad_pos", "leftchar", "pads", "i", "this_ch"] 1))
      exact BX.cons (BX1.raise_own O rfl W.cErr (by decide) W.oErr (SE.binop SE.const_str (SE.binop (SE.binop (SE.binop (SE.im (v' := vi (o.length : Int)) (SE.callB O.toOk0 rfl W.bLen (by decide) (by intro a q; cases q) rfl (.one (SE.no (i := 3) O.toOk0 rfl rfl (by decide)) rfl) (co_len_list (by simp; lia))) (by simp)) SE.const_int (op_div (by decide) (by decide))) SE.const_int (op_mul (by lia))) SE.const_int op_add) (hT _ (by lia) (by lia))) rfl (h1 (by unfold endA; simp [h]) _))
    simp only [beq_eq_false_iff_ne, ne_eq] at h
    refine BX.nil (BX.cons (BX1.ite (ST.and (TAnd.cons (ST.cmp (SE.nm (i := 4) O.toOk0 rfl rfl (by decide)) (TC.one SE.const_int cmp_ne rfl)) fun _ => TAnd.cons (ST.cmp (SE.binop (SE.nm (i := 4) O.toOk0 rfl rfl (by decide)) (SE.nm (i := 6) O.toOk0 rfl rfl (by decide)) op_add) (TC.one SE.const_int cmp_lt rfl)) fun _ => TAnd.nil)) (fun g => ?_) fun g => ?_))
    · simp at g
      exact BX.cons (BX1.raise_own O rfl W.cErr (by decide) W.oErr SE.const_str rfl (h1 (by unfold endA; simp; lia) _))
    · simp at g
      exact BX.nil (BX.cons (BX1.reti (SE.callB O.toOk0 rfl W.tBytes (by decide) (by intro a q; cases q) rfl (.one (SE.no (i := 3) O.toOk0 rfl rfl (by decide)) rfl) (co_bytes_list O.handled ho (by lia))) nr_bytes (h2 (by unfold endA; simp; lia))))
  show BX _ [some (vy t), some (vb true), none, none, none, none, none, none, none] _ _
  refine BX.cons (BX1.assign_im O (SE.call O rfl W.fAsc (by decide) FA (noStars_of rfl) rfl rfl (.one (SE.nm (i := 0) O.toOk0 rfl rfl (by decide)) rfl) .nil (SA t) rfl) (i := 2) rfl (.inl rfl) (noMeth_of rfl) rfl ?_)
  refine BX.cons (BX1.assign_im O (SE.call O rfl W.fTruth (by decide) FT (noStars_of rfl) rfl rfl (.one (SE.nm (i := 1) O.toOk0 rfl rfl (by decide)) rfl) .nil (ST' true) rfl) (i := 1) rfl (.inl rfl) (noMeth_of rfl) rfl ?_)
  refine BX.cons (BX1.assign_new O (l := []) (SE.listd (l := []) .nil (by decide)) (i := 3) rfl (.inl rfl) (noMeth_of rfl) rfl ?_)
  refine BX.cons (BX1.assign_im O SE.const_int (i := 4) rfl (.inl rfl) (noMeth_of rfl) rfl ?_)
  refine BX.cons (BX1.assign_im O SE.const_int (i := 5) rfl (.inl rfl) (noMeth_of rfl) rfl ?_)
  refine BX.cons (BX1.assign_im O SE.const_int (i := 6) rfl (.inl rfl) (noMeth_of rfl) rfl ?_)
  refine BX.cons (BX1.assign_im O SE.const_int (i := 7) rfl (.inl rfl) (noMeth_of rfl) rfl ?_)
  refine BX.cons (BX1.fors (i := 8) (s₀ := ((0, (0 : Int), (0 : Int), (0 : Int), ([] : List Int)) : Nat × Int × Int × Int × List Int)) (fun a => [some (vy t), some (vb true), some (vy t), some (.own (a.2.2.2.2.map .int)), some (vi a.2.1), some (vi a.2.2.1), some (vi a.2.2.2.1), some (vi (a.1 : Int)), none]) (fun m a => m = a.1 ∧ (t.take a.1).foldlM stepA (0, 0, 0, []) = some (a.2.1, a.2.2.1, a.2.2.2.1, a.2.2.2.2) ∧ OkA a.2.1 a.2.2.1 a.2.2.2.1 a.2.2.2.2 a.1) O rfl rfl (.bytes O (SE.nm (i := 2) O.toOk0 rfl rfl (by decide))) rfl (.inl rfl) (Sub.refl _) ⟨rfl, rfl, by simp [OkA]⟩ (fun n => noMeth_of rfl) (fun m v a hv hR => ?_) (fun a hR => ?_) (fun _ => rfl))
  · obtain ⟨n, q, l, p, o⟩ := a
    simp only at hR
    obtain ⟨rfl, hf, hok⟩ := hR
    obtain ⟨c, hc, rfl⟩ := byI_get hv
    have hnl : m < t.length := (List.getElem?_eq_some_iff.mp hc).1
    have cI := u8_lt c
    have hv0 := b64v_ge c
    have nxt : ∀ st', stepA (q, l, p, o) c = some st' → (t.take (m + 1)).foldlM stepA (0, 0, 0, []) = some st' ∧ OkA st'.1 st'.2.1 st'.2.2.1 st'.2.2.2 (m + 1) := fun st' e => ⟨by rw [take_next hc, List.foldlM_append, hf]; show ([c]).foldlM stepA (q, l, p, o) = _; simp [e], okA_step (st := (q, l, p, o)) hok e⟩
    have bad : stepA (q, l, p, o) c = none → ∀ x, A2b t (.exc (.ref 82) [x]) := fun e x => by
      have : t.foldlM stepA (0, 0, 0, []) = none := by
        rw [← List.take_append_drop (m + 1) t, take_next hc, List.append_assoc, List.foldlM_append, hf]
        show (([c] ++ t.drop (m + 1)).foldlM stepA (q, l, p, o)) = none
        simp [e]
      unfold A2b A64
      rw [this]
      exact ⟨x, rfl⟩
    obtain ⟨h1, h2, h3, h4⟩ := hok
    show BX _ [some (vy t), some (vb true), some (vy t), some (.own (o.map .int)), some (vi q), some (vi l), some (vi p), some (vi (m : Int)), some (vi c.toNat)] _ _
    refine BX.cons (BX1.ite (ST.cmp (SE.nm (i := 8) O.toOk0 rfl rfl (by decide)) (TC.one SE.const_int cmp_eq rfl)) (fun h => ?_) fun h => ?_)
    · simp at h
      have h61 : (c.toNat : Int) = 61 := by lia
      refine BX.cons (BX1.assign_im O (SE.binop (SE.nm (i := 6) O.toOk0 rfl rfl (by decide)) SE.const_int op_add) (i := 6) rfl (.inl rfl) (noMeth_of rfl) rfl ?_)
      refine BX.cons (BX1.ite (ST.and (TAnd.cons (ST.cmp (SE.nm (i := 4) O.toOk0 rfl rfl (by decide)) (TC.one SE.const_int cmp_ge rfl)) fun _ => TAnd.cons (ST.cmp (SE.binop (SE.nm (i := 4) O.toOk0 rfl rfl (by decide)) (SE.nm (i := 6) O.toOk0 rfl rfl (by decide)) op_add) (TC.one SE.const_int cmp_le rfl)) fun _ => TAnd.nil)) (fun g => ?_) fun g => ?_)
      · simp at g
        refine BX.cons (BX1.assign_im O (SE.im (v' := vi ((m + 1 : Nat) : Int)) (SE.binop (SE.nm (i := 7) O.toOk0 rfl rfl (by decide)) SE.const_int op_add) rfl) (i := 7) rfl (.inl rfl) (noMeth_of rfl) rfl ?_)
        refine BX.cons (BX1.contd (Γ' := [some (vy t), some (vb true), some (vy t), some (.own (o.map .int)), some (vi q), some (vi l), some (vi (p + 1)), some (vi ((m + 1 : Nat) : Int)), none]) (.k (.k (.k (.k (.k (.k (.k (.k (.d .nil))))))))) ⟨(m + 1, q, l, p + 1, o), rfl, rfl, nxt _ ?_⟩)
        unfold stepA
        simp only
        rw [if_pos h61, if_pos (by lia)]
      simp at g
      have hb : stepA (q, l, p, o) c = none := by
        unfold stepA
        simp only
        rw [if_pos h61, if_neg (by lia)]
      refine BX.nil (BX.cons (BX1.ite (b := false) (ST.eq (ST.not (b := true) (ST.val (SE.nm (i := 1) O.toOk0 rfl rfl (by decide)) tr_bool (fun _ _ => rfl))) rfl) (fun e => by cases e) fun _ => ?_))
      refine BX.nil (BX.cons (BX1.ite (ST.cmp (SE.nm (i := 4) O.toOk0 rfl rfl (by decide)) (TC.one SE.const_int cmp_eq rfl)) (fun g2 => ?_) fun g2 => ?_))
      · simp only [beq_iff_eq] at g2
        refine BX.cons (BX1.brkd (Γ' := [some (vy t), some (vb true), some (vy t), some (.own (o.map .int)), some (vi q), none, some (vi (p + 1)), none, none]) (.k (.k (.k (.k (.k (.d (.k (.d (.d .nil))))))))) ?_)
        exact aft q l (p + 1) o _ h3 (by lia) (fun _ => bad hb) (fun z => by unfold endA at z; simp [g2] at z)
      · refine BX.nil (BX.cons (BX1.ite (ST.and (TAnd.cons (ST.cmp (SE.nm (i := 4) O.toOk0 rfl rfl (by decide)) (TC.one SE.const_int cmp_eq rfl)) fun _ => TAnd.cons (ST.cmp (SE.nm (i := 7) O.toOk0 rfl rfl (by decide)) (TC.one SE.const_int cmp_eq rfl)) fun _ => TAnd.nil)) (fun _ => ?_) fun _ => ?_))
        · exact BX.cons (BX1.raise_own O rfl W.cErr (by decide) W.oErr SE.const_str rfl (bad hb _))
        · exact BX.nil (BX.cons (BX1.raise_own O rfl W.cErr (by decide) W.oErr SE.const_str rfl (bad hb _)))
    simp at h
    have h61 : ¬ (c.toNat : Int) = 61 := by lia
    refine BX.nil ?_
    refine BX.cons (BX1.assign_im O (SE.call O rfl W.fB64v (by decide) FV (noStars_of rfl) rfl rfl (.one (SE.nm (i := 8) O.toOk0 rfl rfl (by decide)) rfl) .nil (SV _) rfl) (i := 8) rfl (.inl rfl) (noMeth_of rfl) rfl ?_)
    show BX _ [some (vy t), some (vb true), some (vy t), some (.own (o.map .int)), some (vi q), some (vi l), some (vi p), some (vi (m : Int)), some (vi (b64v c.toNat))] _ _
    refine BX.cons (BX1.ite (ST.cmp (SE.nm (i := 8) O.toOk0 rfl rfl (by decide)) (TC.one SE.const_int cmp_ge rfl)) (fun h5 => ?_) fun h5 => ?_)
    · simp at h5
      have hb : stepA (q, l, p, o) c = none := by
        unfold stepA
        simp only
        rw [if_neg h61, if_pos (by lia)]
      refine BX.cons (BX1.ite (b := true) (ST.val (SE.nm (i := 1) O.toOk0 rfl rfl (by decide)) tr_bool (fun _ _ => rfl)) (fun _ => ?_) fun e => by cases e)
      exact BX.cons (BX1.raise_own O rfl W.cErr (by decide) W.oErr SE.const_str rfl (bad hb _))
    simp at h5
    refine BX.nil (BX.cons (BX1.ite (ST.and (TAnd.cons (ST.val (SE.nm (i := 6) O.toOk0 rfl rfl (by decide)) tr_int (fun _ _ => rfl)) fun _ => TAnd.cons (ST.val (SE.nm (i := 1) O.toOk0 rfl rfl (by decide)) tr_bool (fun _ _ => rfl)) fun _ => TAnd.nil)) (fun h6 => ?_) fun h6 => ?_))
    · simp at h6
      have hb : stepA (q, l, p, o) c = none := by
        unfold stepA
        simp only
        rw [if_neg h61, if_neg (by lia), if_pos (by lia)]
      refine BX.cons (BX1.ite (ST.cmp (SE.binop (SE.nm (i := 4) O.toOk0 rfl rfl (by decide)) (SE.nm (i := 6) O.toOk0 rfl rfl (by decide)) op_add) (TC.one SE.const_int cmp_eq rfl)) (fun _ => ?_) fun _ => ?_)
      · exact BX.cons (BX1.raise_own O rfl W.cErr (by decide) W.oErr SE.const_str rfl (bad hb _))
      · exact BX.nil (BX.cons (BX1.raise_own O rfl W.cErr (by decide) W.oErr SE.const_str rfl (bad hb _)))
    simp at h6
    have red : ∀ {st'}, (if q = 0 then some (1, b64v c.toNat, 0, o) else if q = 1 then some (2, b64v c.toNat % 16, 0, o ++ [l * 4 + b64v c.toNat / 16]) else if q = 2 then some (3, b64v c.toNat % 4, 0, o ++ [l * 16 + b64v c.toNat / 4]) else some ((0 : Int), (0 : Int), (0 : Int), o ++ [l * 64 + b64v c.toNat])) = some st' → stepA (q, l, p, o) c = some st' := fun e => by
      unfold stepA
      simp only
      rw [if_neg h61, if_neg (by lia), if_neg (by lia)]
      exact e
    refine BX.nil ?_
    refine BX.cons (BX1.assign_im O SE.const_int (i := 6) rfl (.inl rfl) (noMeth_of rfl) rfl ?_)
    refine BX.cons (BX1.ite (ST.cmp (SE.nm (i := 4) O.toOk0 rfl rfl (by decide)) (TC.one SE.const_int cmp_eq rfl)) (fun g => ?_) fun g => ?_)
    · simp only [beq_iff_eq] at g
      refine BX.cons (BX1.assign_im O SE.const_int (i := 4) rfl (.inl rfl) (noMeth_of rfl) rfl ?_)
      refine BX.cons (BX1.assign_im O (SE.nm (i := 8) O.toOk0 rfl rfl (by decide)) (i := 5) rfl (.inl rfl) (noMeth_of rfl) rfl ?_)
      refine BX.nil ?_
      refine BX.cons (BX1.assign_im O (SE.im (v' := vi ((m + 1 : Nat) : Int)) (SE.binop (SE.nm (i := 7) O.toOk0 rfl rfl (by decide)) SE.const_int op_add) rfl) (i := 7) rfl (.inl rfl) (noMeth_of rfl) rfl ?_)
      refine BX.done (Γ' := [some (vy t), some (vb true), some (vy t), some (.own ((o).map .int)), some (vi (1)), some (vi (b64v c.toNat)), some (vi 0), some (vi ((m + 1 : Nat) : Int)), none]) ?_ ⟨(m + 1, 1, b64v c.toNat, 0, o), rfl, rfl, nxt _ (red (by rw [if_pos g]))⟩
      exact .k (.k (.k (.k (.k (.k (.k (.k (.d .nil))))))))
    simp only [beq_eq_false_iff_ne, ne_eq] at g
    refine BX.cons (BX1.ite (ST.cmp (SE.nm (i := 4) O.toOk0 rfl rfl (by decide)) (TC.one SE.const_int cmp_eq rfl)) (fun g2 => ?_) fun g2 => ?_)
    · simp only [beq_iff_eq] at g2
      refine BX.cons (BX1.assign_im O SE.const_int (i := 4) rfl (.inl rfl) (noMeth_of rfl) rfl ?_)
      refine BX.cons (BX1.append O (i := 3) rfl rfl (by decide) (SE.im (v' := vi (l * 4 + b64v c.toNat / 16)) (SE.binop (SE.binop (SE.nm (i := 5) O.toOk0 rfl rfl (by decide)) SE.const_int (op_shl (by lia) (by lia) (by lia))) (SE.binop (SE.nm (i := 8) O.toOk0 rfl rfl (by decide)) SE.const_int (op_shr (by lia))) op_or) (by show vi _ = vi _; congr 2; exact bor (l := l) (v := b64v c.toNat / 16) 2 (by lia) (by lia) (by lia))) rfl (by simp; lia) rfl rfl ?_)
      refine BX.cons (BX1.assign_im O (SE.im (v' := vi (b64v c.toNat % 16)) (SE.binop (SE.nm (i := 8) O.toOk0 rfl rfl (by decide)) SE.const_int op_and) (by rw [bitAnd_m4])) (i := 5) rfl (.inl rfl) (noMeth_of rfl) rfl ?_)
      refine BX.nil (BX.nil ?_)
      refine BX.cons (BX1.assign_im O (SE.im (v' := vi ((m + 1 : Nat) : Int)) (SE.binop (SE.nm (i := 7) O.toOk0 rfl rfl (by decide)) SE.const_int op_add) rfl) (i := 7) rfl (.inl rfl) (noMeth_of rfl) rfl ?_)
      refine BX.done (Γ' := [some (vy t), some (vb true), some (vy t), some (.own ((o ++ [l * 4 + b64v c.toNat / 16]).map .int)), some (vi (2)), some (vi (b64v c.toNat % 16)), some (vi 0), some (vi ((m + 1 : Nat) : Int)), none]) ?_ ⟨(m + 1, 2, b64v c.toNat % 16, 0, o ++ [l * 4 + b64v c.toNat / 16]), rfl, rfl, nxt _ (red (by rw [if_neg g, if_pos g2]))⟩
      rw [List.map_append]
      exact .k (.k (.k (.k (.k (.k (.k (.k (.d .nil))))))))
    simp only [beq_eq_false_iff_ne, ne_eq] at g2
    refine BX.cons (BX1.ite (ST.cmp (SE.nm (i := 4) O.toOk0 rfl rfl (by decide)) (TC.one SE.const_int cmp_eq rfl)) (fun g3 => ?_) fun g3 => ?_)
    · simp only [beq_iff_eq] at g3
      refine BX.cons (BX1.assign_im O SE.const_int (i := 4) rfl (.inl rfl) (noMeth_of rfl) rfl ?_)
      refine BX.cons (BX1.append O (i := 3) rfl rfl (by decide) (SE.im (v' := vi (l * 16 + b64v c.toNat / 4)) (SE.binop (SE.binop (SE.nm (i := 5) O.toOk0 rfl rfl (by decide)) SE.const_int (op_shl (by lia) (by lia) (by lia))) (SE.binop (SE.nm (i := 8) O.toOk0 rfl rfl (by decide)) SE.const_int (op_shr (by lia))) op_or) (by show vi _ = vi _; congr 2; exact bor (l := l) (v := b64v c.toNat / 4) 4 (by lia) (by lia) (by lia))) rfl (by simp; lia) rfl rfl ?_)
      refine BX.cons (BX1.assign_im O (SE.im (v' := vi (b64v c.toNat % 4)) (SE.binop (SE.nm (i := 8) O.toOk0 rfl rfl (by decide)) SE.const_int op_and) (by rw [bitAnd_m2])) (i := 5) rfl (.inl rfl) (noMeth_of rfl) rfl ?_)
      refine BX.nil (BX.nil (BX.nil ?_))
      refine BX.cons (BX1.assign_im O (SE.im (v' := vi ((m + 1 : Nat) : Int)) (SE.binop (SE.nm (i := 7) O.toOk0 rfl rfl (by decide)) SE.const_int op_add) rfl) (i := 7) rfl (.inl rfl) (noMeth_of rfl) rfl ?_)
      refine BX.done (Γ' := [some (vy t), some (vb true), some (vy t), some (.own ((o ++ [l * 16 + b64v c.toNat / 4]).map .int)), some (vi (3)), some (vi (b64v c.toNat % 4)), some (vi 0), some (vi ((m + 1 : Nat) : Int)), none]) ?_ ⟨(m + 1, 3, b64v c.toNat % 4, 0, o ++ [l * 16 + b64v c.toNat / 4]), rfl, rfl, nxt _ (red (by rw [if_neg g, if_neg g2, if_pos g3]))⟩
      rw [List.map_append]
      exact .k (.k (.k (.k (.k (.k (.k (.k (.d .nil))))))))
    simp only [beq_eq_false_iff_ne, ne_eq] at g3
    refine BX.cons (BX1.assign_im O SE.const_int (i := 4) rfl (.inl rfl) (noMeth_of rfl) rfl ?_)
    refine BX.cons (BX1.append O (i := 3) rfl rfl (by decide) (SE.im (v' := vi (l * 64 + b64v c.toNat)) (SE.binop (SE.binop (SE.nm (i := 5) O.toOk0 rfl rfl (by decide)) SE.const_int (op_shl (by lia) (by lia) (by lia))) (SE.nm (i := 8) O.toOk0 rfl rfl (by decide)) op_or) (by show vi _ = vi _; congr 2; exact bor 6 (by lia) (by lia) (by lia))) rfl (by simp; lia) rfl rfl ?_)
    refine BX.cons (BX1.assign_im O SE.const_int (i := 5) rfl (.inl rfl) (noMeth_of rfl) rfl ?_)
    refine BX.nil (BX.nil (BX.nil ?_))
    refine BX.cons (BX1.assign_im O (SE.im (v' := vi ((m + 1 : Nat) : Int)) (SE.binop (SE.nm (i := 7) O.toOk0 rfl rfl (by decide)) SE.const_int op_add) rfl) (i := 7) rfl (.inl rfl) (noMeth_of rfl) rfl ?_)
    refine BX.done (Γ' := [some (vy t), some (vb true), some (vy t), some (.own ((o ++ [l * 64 + b64v c.toNat]).map .int)), some (vi (0)), some (vi (0)), some (vi 0), some (vi ((m + 1 : Nat) : Int)), none]) ?_ ⟨(m + 1, 0, 0, 0, o ++ [l * 64 + b64v c.toNat]), rfl, rfl, nxt _ (red (by rw [if_neg g, if_neg g2, if_neg g3]))⟩
    rw [List.map_append]
    exact .k (.k (.k (.k (.k (.k (.k (.k (.d .nil))))))))
  · rw [byI_len] at hR
    obtain ⟨n, q, l, p, o⟩ := a
    simp only at hR
    obtain ⟨rfl, hf, hok⟩ := hR
    rw [List.take_length] at hf
    obtain ⟨h1, h2, h3, h4⟩ := hok
    have hA : A64 t = if endA q p then none else some o := by unfold A64; rw [hf]
    refine BX.drop (Γ' := [some (vy t), some (vb true), some (vy t), some (.own (o.map .int)), some (vi q), none, some (vi p), none, none]) (.k (.k (.k (.k (.k (.d (.k (.d (.k .nil))))))))) (aft q l p o _ h3 (by lia) (fun e m => ?_) fun e => ?_)
    · unfold A2b; rw [hA, e]; exact ⟨m, rfl⟩
    · unfold A2b; rw [hA, e]; rfl
end Mine
end
section
set_option maxRecDepth 100000
set_option maxHeartbeats 4000000
set_option linter.unusedVariables false
set_option linter.unusedSimpArgs false
namespace Mine
variable {G : Glo} {pm cd : Value}
noncomputable def Short (o : RO) : Prop := ∃ b, o = .ret (vy b) true ∧ b.length ≤ 16
noncomputable def isB : I → Bool
  | .bytes _ => true
  | _ => false
noncomputable def unB : I → Option (List UInt8)
  | .bytes b => some b
  | _ => none
theorem filter_bytes (l : List I) : (l.filter isB).map (fun i => i) = (l.filterMap unB).map .bytes := by
  induction l with
  | nil => rfl
  | cons i l ih =>
    cases i with
    | bytes b =>
      show I.bytes b :: (l.filter isB).map (fun i => i) = I.bytes b :: (l.filterMap unB).map .bytes
      rw [ih]
    | none => exact ih
    | bool b => exact ih
    | int b => exact ih
    | str b => exact ih
    | raw b => exact ih
theorem l85_len (l : List UInt8) (sp fr : Bool) (w : Int) : (l85 l sp fr w).length ≤ 10 * ((l.length + 3) / 4) + 4 := by
  have h1 := e85_len l sp ((l.length + 3) / 4)
  have h2 := wide85_len (e85 l sp ((l.length + 3) / 4)) w
  unfold l85 frame85
  split
  · simp; lia
  · lia
theorem toB_len (l : List Int) : (toB l).length = l.length := by simp [toB]
theorem e64_len' (l : List UInt8) (n : Nat) : (e64 l n).length ≤ 4 * n := e64_len l n
noncomputable def pick (ans : List I) (pt : Int) : I → I
  | .int k => ans.getD ((pt + k) % 6).toNat .none
  | i => i
structure AnsOk (ans : List I) : Prop where
  len : ans.length = 6
  nr : ∀ i ∈ ans, ∀ v, i ≠ .raw v
  ni : ∀ i ∈ ans, ∀ k, i ≠ .int k
  short : ∀ b, I.bytes b ∈ ans → b.length ≤ 900

theorem sp_done (GO : G.Ok) (W : Gl G) (F85 : FnAt G 222) (S85 : ∀ (row : List UInt8) (sp fr : Bool) (w : Int), row.length ≤ 1000 → 0 ≤ w → Spec G 2 222 [vy row, vb sp, vb fr, vi w] [] (fun o => o = .ret (vy (toB (l85 row sp fr w))) true))
    (F16 : FnAt G 205) (S16 : ∀ row : List UInt8, row.length ≤ 1000 → Spec G 1 205 [vy row] [] (fun o => o = .ret (vy (toB (e16 row))) true))
    (F64 : FnAt G 210) (S64 : ∀ row : List UInt8, row.length ≤ 1000 → Spec G 2 210 [vy row] [] (fun o => o = .ret (vy (toB (e64 row ((row.length + 2) / 3)))) true))
    (F5 : FnAt G 217) (S5 : ∀ n, Spec G 1 217 [vi n] [] (fun o => o = .ret (.list ((five n).map .int)) true))
    (F : FnOk G 258 (mkFd 41 "_law_done" .none .none pm cd) (fB 41) ["deed", "row", "answers"] ["deed", "row", "answers", "part", "turned", "read", "place", "more"]) (deed : Int) (row : List UInt8) (ans : List I) (hd : 0 ≤ deed) (hl : row.length ≤ 16) (HA : AnsOk ans) : Spec G 3 258 [vi deed, vy row, .list ans] [] Short := by
  refine Spec.of_cells GO F rfl (by intro v hv id j; simp at hv; rcases hv with rfl | rfl | rfl <;> intro q <;> cases q) (fun ws h => by
    obtain ⟨w, u, z, rfl⟩ := len_three h; rfl) fun A fs L O => ?_
  show BX _ [some (vi deed), some (vy row), some (.list ans), none, none, none, none, none] _ _
  refine BX.cons (BX1.assign_im O (SE.binop (SE.nm (i := 0) O.toOk0 rfl rfl (by decide)) SE.const_int (op_div (by decide) (by decide))) (i := 3) rfl (.inr rfl) (noMeth_of rfl) rfl ?_)
  have hpt : 0 ≤ deed / 8 := by lia
  generalize deed / 8 = pt at *
  have fin : ∀ (b : List UInt8) (X : Gam), b.length ≤ 1000 → Sub [some (vi deed), some (vy b), some (.list ans), none, none, none, none, none] X → BX (mkC G A fs (callEnvC (mkFd 41 "_law_done" .none .none pm cd) L 258) ["deed", "row", "answers", "part", "turned", "read", "place", "more"] 2) X ((fB 41).drop 2) (Outs Short) := by
    intro b X hb hs
    refine BX.drop hs (BX.cons (BX1.reti (SE.im (v' := vy (b.take 16)) (SE.cut_bytes (SE.nm (i := 1) O.toOk0 rfl rfl (by decide)) .none (.some (SE.im (v' := vi ((16 : Nat) : Int)) SE.const_int rfl)) (by lia)) (by rw [cut_to])) nr_bytes ⟨_, rfl, by rw [List.length_take]; lia⟩))
  show BX _ [some (vi deed), some (vy row), some (.list ans), some (vi pt), none, none, none, none] _ _
  refine BX.cons (BX1.ite (ST.cmp (SE.binop (SE.nm (i := 0) O.toOk0 rfl rfl (by decide)) SE.const_int (op_mod (by decide))) (TC.one SE.const_int cmp_eq rfl)) (fun _ => ?_) fun _ => ?_)
  · refine BX.cons (BX1.assign_im O (SE.call O rfl W.lE85 (by decide) F85 (noStars_of rfl) rfl rfl (.cons (SE.nm (i := 1) O.toOk0 rfl rfl (by decide)) (.three (SE.cmp (SE.binop (SE.nm (i := 3) O.toOk0 rfl rfl (by decide)) SE.const_int (op_mod (by decide))) SE.const_int cmp_eq rfl) rfl (SE.cmp (SE.binop (SE.binop (SE.nm (i := 3) O.toOk0 rfl rfl (by decide)) SE.const_int (op_div (by decide) (by decide))) SE.const_int (op_mod (by decide))) SE.const_int cmp_eq rfl) rfl (SE.binop (SE.binop (SE.nm (i := 3) O.toOk0 rfl rfl (by decide)) SE.const_int (op_div (by decide) (by decide))) SE.const_int (op_mod (by decide))) rfl) (fun _ => rfl)) .nil (S85 row _ _ _ (by lia) (by lia)) rfl) (i := 1) rfl (.inl rfl) (noMeth_of rfl) rfl ?_)
    refine BX.nil (fin _ _ ?_ (.k (.k (.k (.d (.k (.k (.k (.k .nil)))))))))
    rw [toB_len]
    exact Nat.le_trans (l85_len ..) (by lia)
  refine BX.cons (BX1.ite (ST.cmp (SE.binop (SE.nm (i := 0) O.toOk0 rfl rfl (by decide)) SE.const_int (op_mod (by decide))) (TC.one SE.const_int cmp_eq rfl)) (fun _ => ?_) fun _ => ?_)
  · refine BX.cons (BX1.assign_im O (SE.call O rfl W.lE16 (by decide) F16 (noStars_of rfl) rfl rfl (.one (SE.nm (i := 1) O.toOk0 rfl rfl (by decide)) rfl) .nil (Spec.mono (l' := 2) (S16 row (by lia)) (by decide) fun _ h => h) rfl) (i := 1) rfl (.inl rfl) (noMeth_of rfl) rfl ?_)
    refine BX.nil (BX.nil (fin _ _ ?_ (.k (.k (.k (.d (.k (.k (.k (.k .nil))))))))))
    rw [toB_len, e16_len]; lia
  refine BX.cons (BX1.ite (ST.cmp (SE.binop (SE.nm (i := 0) O.toOk0 rfl rfl (by decide)) SE.const_int (op_mod (by decide))) (TC.one SE.const_int cmp_eq rfl)) (fun _ => ?_) fun _ => ?_)
  · refine BX.cons (BX1.assign_im O (SE.call O rfl W.lE64 (by decide) F64 (noStars_of rfl) rfl rfl (.one (SE.nm (i := 1) O.toOk0 rfl rfl (by decide)) rfl) .nil (S64 row (by lia)) rfl) (i := 1) rfl (.inl rfl) (noMeth_of rfl) rfl ?_)
    refine BX.nil (BX.nil (BX.nil (fin _ _ ?_ (.k (.k (.k (.d (.k (.k (.k (.k .nil)))))))))))
    rw [toB_len]
    exact Nat.le_trans (e64_len' ..) (by lia)
  refine BX.cons (BX1.ite (ST.cmp (SE.binop (SE.nm (i := 0) O.toOk0 rfl rfl (by decide)) SE.const_int (op_mod (by decide))) (TC.one SE.const_int cmp_eq rfl)) (fun _ => ?_) fun _ => ?_)
  · have hlen := HA.len
    refine BX.cons (BX1.assign_comp O (cl := [("part", L + 2), ("answers", L + 1)]) (caps := ["answers", "part"]) (vs := [.list ans, vi pt]) (pt := fun _ => true) (F := pick ans pt) (items := ups 6 0 1) (f := false) (i := 4) rfl rfl (by decide) rfl (by decide) rfl (.range1 O rfl W.tRange rfl (SE.im (v' := vi ((6 : Nat) : Int)) SE.const_int rfl) (by lia)) (fun _ => rfl) (.two (i := 2) (i2 := 3) rfl rfl rfl (fun _ => rfl) rfl rfl rfl rfl rfl (fun _ => rfl) rfl rfl) ups_nr (by simp [ups]) (fun _ _ _ => .nil) (fun L' v hv _ => ?_) rfl rfl (noMeth_of rfl) ?_)
    · obtain ⟨k, hk, rfl⟩ := List.mem_map.mp hv
      refine SE.sub_list (i := (pt + (0 + (k : Int) * ((1 : Nat) : Int))) % 6) (SE.nl (i := 1) (compC_ok O.toOk0 rfl) rfl rfl (by decide)) (SE.binop (SE.binop (SE.nm (i := 2) (compC_ok O.toOk0 rfl) rfl rfl (by decide)) (SE.nm (i := 0) (compC_ok O.toOk0 rfl) rfl rfl (by decide)) op_add) SE.const_int (op_mod (by decide))) (by lia) (by lia) ?_ (fun _ _ => rfl)
      have : ((pt + (0 + (k : Int) * ((1 : Nat) : Int))) % 6).toNat < ans.length := by lia
      show ans[((pt + (0 + (k : Int) * ((1 : Nat) : Int))) % 6).toNat]? = some (ans.getD ((pt + (0 + (k : Int) * ((1 : Nat) : Int))) % 6).toNat .none)
      rw [List.getD_eq_getElem?_getD, List.getElem?_eq_getElem this]; rfl
    rw [filter_true]
    have htn : ∀ i ∈ (ups 6 0 1).map (pick ans pt), i ∈ ans ∨ i = .none := fun i hi => by
      obtain ⟨j, hj, rfl⟩ := List.mem_map.mp hi
      obtain ⟨k, hk, rfl⟩ := List.mem_map.mp hj
      simp only [pick]
      by_cases q : ((pt + (0 + (k : Int) * ((1 : Nat) : Int))) % 6).toNat < ans.length
      · left
        have : ans.getD ((pt + (0 + (k : Int) * ((1 : Nat) : Int))) % 6).toNat .none = ans[((pt + (0 + (k : Int) * ((1 : Nat) : Int))) % 6).toNat] := by rw [List.getD_eq_getElem?_getD, List.getElem?_eq_getElem q]; rfl
        rw [this]; exact List.getElem_mem q
      · right
        rw [List.getD_eq_getElem?_getD, List.getElem?_eq_none (by lia)]; rfl
    have htl : ((ups 6 0 1).map (pick ans pt)).length = 6 := by simp [ups]
    generalize (ups 6 0 1).map (pick ans pt) = tu at *
    have tnr : ∀ i ∈ tu, ∀ v, i ≠ .raw v := fun i hi v => by
      rcases htn i hi with q | q
      · exact HA.nr i q v
      · rw [q]; exact nr_none v
    have tni : ∀ i ∈ tu, ∀ k, i ≠ .int k := fun i hi k => by
      rcases htn i hi with q | q
      · exact HA.ni i q k
      · rw [q]; intro z; cases z
    refine BX.cons (BX1.assign_comp O (cl := []) (caps := []) (vs := []) (pt := isB) (F := fun i => i) (items := tu) (f := false) (i := 5) rfl rfl (by decide) rfl (by decide) rfl (.list O.handled (SE.no (i := 4) O.toOk0 rfl rfl (by decide))) (fun _ => rfl) .none tnr (by lia) (fun L' v hv => ?_) (fun L' v hv _ => (SE.nm (i := 0) (compC_ok O.toOk0 rfl) rfl rfl (by decide))) rfl rfl (noMeth_of rfl) ?_)
    · refine .one (ST.eq (ST.val (SE.callB (compC_ok O.toOk0 rfl) rfl W.bIs (by decide) (by intro a q; cases q) rfl (.two (SE.nm (i := 0) (compC_ok O.toOk0 rfl) rfl rfl (by decide)) rfl (SE.glob (compC_ok O.toOk0 rfl) rfl W.tBytes (by decide)) rfl) (co_isinst_bytes (tnr v hv) (tni v hv))) tr_bool (fun _ _ => rfl)) ?_)
      cases v <;> rfl
    rw [filter_bytes]
    have hsh : ∀ b ∈ tu.filterMap unB, b.length ≤ 900 := fun b hb => by
      obtain ⟨i, hi, e⟩ := List.mem_filterMap.mp hb
      have : i = .bytes b := by cases i <;> simp [unB] at e; rw [e]
      subst this
      rcases htn _ hi with q | q
      · exact HA.short b q
      · cases q
    generalize tu.filterMap unB = xs at *
    refine BX.cons (BX1.ite (ST.cmp (SE.no (i := 5) O.toOk0 rfl rfl (by decide)) (TC.one (SE.listd (l := []) .nil (by decide)) (cmp_ne_bytesl (xs := xs) (ys := []) (by have := O.units; lia)) rfl)) (fun h => ?_) fun h => ?_)
    · simp only [Bool.not_eq_true', decide_eq_false_iff_not] at h
      obtain ⟨b, r, rfl⟩ := List.exists_cons_of_ne_nil h
      refine BX.cons (BX1.assign_im O (SE.sub_list (i := 0) (SE.no (i := 5) O.toOk0 rfl rfl (by decide)) SE.const_int (by lia) (by lia) (x := .bytes b) rfl (fun _ _ => rfl)) (i := 1) rfl (.inl rfl) (noMeth_of rfl) rfl ?_)
      have hb := hsh b (by simp)
      exact BX.nil (BX.nil (BX.nil (BX.nil (BX.nil (fin b _ (by lia) (.k (.k (.k (.d (.d (.d (.k (.k .nil)))))))))))))
    · exact BX.nil (BX.nil (BX.nil (BX.nil (BX.nil (fin row _ (by lia) (.k (.k (.k (.d (.d (.d (.k (.k .nil)))))))))))))
  refine BX.cons (BX1.ite (ST.cmp (SE.binop (SE.nm (i := 0) O.toOk0 rfl rfl (by decide)) SE.const_int (op_mod (by decide))) (TC.one SE.const_int cmp_eq rfl)) (fun _ => ?_) fun _ => ?_)
  · refine BX.cons (BX1.ite (ST.cmp (SE.callB O.toOk0 rfl W.bLen (by decide) (by intro a q; cases q) rfl (.one (SE.nm (i := 1) O.toOk0 rfl rfl (by decide)) rfl) (co_len_bytes (by lia))) (TC.one SE.const_int cmp_ne rfl)) (fun h => ?_) fun h => ?_)
    · simp at h
      have hrl : 0 < row.length := by
        rcases row with _ | ⟨c, r⟩
        · simp at h
        · simp
      obtain ⟨pl, hpl⟩ : ∃ n : Nat, (pt % 16 % (row.length : Int)) = n := ⟨(pt % 16 % (row.length : Int)).toNat, by have := Int.emod_nonneg (pt % 16) (show (row.length : Int) ≠ 0 by lia); lia⟩
      have hpl2 : pl < row.length := by have := Int.emod_lt_of_pos (pt % 16) (show (0 : Int) < row.length by lia); lia
      refine BX.cons (BX1.assign_im O (SE.im (v' := vi (pl : Int)) (SE.binop (SE.binop (SE.nm (i := 3) O.toOk0 rfl rfl (by decide)) SE.const_int (op_mod (by decide))) (SE.callB O.toOk0 rfl W.bLen (by decide) (by intro a q; cases q) rfl (.one (SE.nm (i := 1) O.toOk0 rfl rfl (by decide)) rfl) (co_len_bytes (by lia))) (op_mod (by lia))) (by rw [hpl])) (i := 6) rfl (.inl rfl) (noMeth_of rfl) rfl ?_)
      refine BX.cons (BX1.assign_im O (SE.binop (SE.binop (SE.cut_bytes (SE.nm (i := 1) O.toOk0 rfl rfl (by decide)) .none (.some (SE.nm (i := 6) O.toOk0 rfl rfl (by decide))) (by lia)) (SE.callB O.toOk0 rfl W.tBytes (by decide) (by intro a q; cases q) rfl (.one (SE.listd (l := [.int _]) (.one (SE.sub_bytes SE.const_bytes (SE.binop (SE.binop (SE.nm (i := 3) O.toOk0 rfl rfl (by decide)) SE.const_int (op_div (by decide) (by decide))) SE.const_int (op_mod (by decide))) (by lia) (by show _ < ((16 : Nat) : Int); lia) (by decide) (fun _ _ => rfl)) rfl) (by simp)) rfl) (co_bytes_list (ns := [_]) O.handled (by intro n hn; simp only [List.mem_singleton] at hn; subst hn; exact u8_lt _) (by simp))) (op_add_bytes ?_)) (SE.cut_bytes (SE.nm (i := 1) O.toOk0 rfl rfl (by decide)) (.some (SE.binop (SE.nm (i := 6) O.toOk0 rfl rfl (by decide)) SE.const_int op_add)) .none (by lia)) (op_add_bytes ?_)) (i := 1) rfl (.inl rfl) (noMeth_of rfl) rfl ?_)
      · have := cut_len row none (some (pl : Int))
        simp [toB]; lia
      · have := cut_len row none (some (pl : Int))
        have h2 := cut_len row (some ((pl : Int) + 1)) none
        simp [toB]; lia
      · refine BX.nil (BX.nil (BX.nil (BX.nil (BX.nil (BX.nil (fin _ _ ?_ (.k (.k (.k (.d (.k (.k (.d (.k .nil))))))))))))))
        have := cut_len row none (some (pl : Int))
        have h2 := cut_len row (some ((pl : Int) + 1)) none
        simp [toB]; lia
    · exact BX.nil (BX.nil (BX.nil (BX.nil (BX.nil (BX.nil (fin row _ (by lia) (.k (.k (.k (.d (.k (.k (.k (.k .nil))))))))))))))
  refine BX.cons (BX1.ite (ST.cmp (SE.binop (SE.nm (i := 0) O.toOk0 rfl rfl (by decide)) SE.const_int (op_mod (by decide))) (TC.one SE.const_int cmp_eq rfl)) (fun _ => ?_) fun _ => ?_)
  · have hm : ∃ mo : List UInt8, mo.length = 4 ∧ mo = (if pt % 2 = 0 then [0, 0, 0, 0] else [32, 32, 32, 32]) := by
      split <;> exact ⟨_, rfl, rfl⟩
    obtain ⟨mo, hml, hme⟩ := hm
    refine BX.cons (BX1.assign_im O (SE.ifexp (b := (pt % 2 == 0)) (v := vy mo) (f := true) (ST.cmp (SE.binop (SE.nm (i := 3) O.toOk0 rfl rfl (by decide)) SE.const_int (op_mod (by decide))) (TC.one SE.const_int cmp_eq rfl)) (fun h => SE.im SE.const_bytes (by simp at h; rw [hme, if_pos (by lia)])) (fun h => SE.im SE.const_bytes (by simp at h; rw [hme, if_neg (by lia)]))) (i := 7) rfl (.inl rfl) (noMeth_of rfl) rfl ?_)
    have hr : ∃ r2 : List UInt8, r2.length ≤ 100 ∧ r2 = (if pt / 2 % 2 = 0 then mo ++ row else row ++ mo) := by
      refine ⟨_, ?_, rfl⟩
      split <;> (rw [List.length_append]; lia)
    obtain ⟨r2, hrl, hre⟩ := hr
    refine BX.cons (BX1.assign_im O (SE.ifexp (b := (pt / 2 % 2 == 0)) (v := vy r2) (f := true) (ST.cmp (SE.binop (SE.binop (SE.nm (i := 3) O.toOk0 rfl rfl (by decide)) SE.const_int (op_div (by decide) (by decide))) SE.const_int (op_mod (by decide))) (TC.one SE.const_int cmp_eq rfl)) (fun h => SE.im (SE.binop (SE.nm (i := 7) O.toOk0 rfl rfl (by decide)) (SE.nm (i := 1) O.toOk0 rfl rfl (by decide)) (op_add_bytes (by lia))) (by simp at h; rw [hre, if_pos (by lia)])) (fun h => SE.im (SE.binop (SE.nm (i := 1) O.toOk0 rfl rfl (by decide)) (SE.nm (i := 7) O.toOk0 rfl rfl (by decide)) (op_add_bytes (by lia))) (by simp at h; rw [hre, if_neg (by lia)]))) (i := 1) rfl (.inl rfl) (noMeth_of rfl) rfl ?_)
    exact BX.nil (BX.nil (BX.nil (BX.nil (BX.nil (BX.nil (fin r2 _ (by lia) (.k (.k (.k (.d (.k (.k (.k (.d .nil))))))))))))))
  refine BX.cons (BX1.ite (ST.cmp (SE.binop (SE.nm (i := 0) O.toOk0 rfl rfl (by decide)) SE.const_int (op_mod (by decide))) (TC.one SE.const_int cmp_eq rfl)) (fun _ => ?_) fun _ => ?_)
  · have hdummy : True := trivial
    have h4 : ∃ b : List UInt8, b.length ≤ 100 ∧ ([.bytes (cut row none (some (-1))), .bytes (cut row (some 1) none), .bytes ([60, 126] ++ row ++ [126, 62]), .bytes (row ++ [126, 62])] : List I)[(pt % 4).toNat]? = some (.bytes b) := by
      have c1 := cut_len row none (some (-1))
      have c2 := cut_len row (some 1) none
      have : pt % 4 = 0 ∨ pt % 4 = 1 ∨ pt % 4 = 2 ∨ pt % 4 = 3 := by lia
      rcases this with q | q | q | q <;> rw [q]
      · exact ⟨_, by lia, rfl⟩
      · exact ⟨_, by lia, rfl⟩
      · exact ⟨[60, 126] ++ row ++ [126, 62], by simp; lia, rfl⟩
      · exact ⟨row ++ [126, 62], by simp; lia, rfl⟩
    obtain ⟨b, hbl, hb⟩ := h4
    refine BX.cons (BX1.assign_im O (SE.sub_list (i := pt % 4) (SE.listd (l := [.bytes (cut row none (some (-1))), .bytes (cut row (some 1) none), .bytes ([60, 126] ++ row ++ [126, 62]), .bytes (row ++ [126, 62])]) (.cons (SE.cut_bytes (SE.nm (i := 1) O.toOk0 rfl rfl (by decide)) .none (.some (SE.neg SE.const_int)) (by lia)) (.three (SE.cut_bytes (SE.nm (i := 1) O.toOk0 rfl rfl (by decide)) (.some SE.const_int) .none (by lia)) rfl (SE.binop (SE.binop SE.const_bytes (SE.nm (i := 1) O.toOk0 rfl rfl (by decide)) (op_add_bytes (by simp; lia))) SE.const_bytes (op_add_bytes (by simp; lia))) rfl (SE.binop (SE.nm (i := 1) O.toOk0 rfl rfl (by decide)) SE.const_bytes (op_add_bytes (by simp; lia))) rfl) (fun _ => rfl)) (by simp)) (SE.binop (SE.nm (i := 3) O.toOk0 rfl rfl (by decide)) SE.const_int (op_mod (by decide))) (by lia) (by lia) hb (fun _ _ => rfl)) (i := 1) rfl (.inl rfl) (noMeth_of rfl) rfl ?_)
    exact BX.nil (BX.nil (BX.nil (BX.nil (BX.nil (BX.nil (BX.nil (fin b _ (by lia) (.k (.k (.k (.d (.k (.k (.k (.k .nil)))))))))))))))
  · refine BX.cons (BX1.assign_im O (SE.binop (SE.nm (i := 1) O.toOk0 rfl rfl (by decide)) (SE.callB O.toOk0 rfl W.tBytes (by decide) (by intro a q; cases q) rfl (.one (SE.im (v' := .list (((five (4437053124 - pt % 4437053125)).map (33 + ·)).map .int)) (SE.comp (cl := []) (caps := []) (vs := []) (pt := fun _ => true) (F := mI (33 + ·)) (items := (five (4437053124 - pt % 4437053125)).map .int) (f := true) rfl (by decide) rfl (by decide) rfl (.list O.handled (SE.call O rfl W.lFive (by decide) F5 (noStars_of rfl) rfl rfl (.one (SE.binop SE.const_int (SE.binop (SE.nm (i := 3) O.toOk0 rfl rfl (by decide)) SE.const_int (op_mod (by decide))) op_sub) rfl) .nil (Spec.mono (l' := 2) (S5 _) (by decide) fun _ h => h) rfl)) (fun _ => rfl) .none ?_ (by simp [five]) (fun _ _ _ => .nil) (fun L' v hv _ => ?_)) ?_) rfl) (co_bytes_list O.handled ?_ (by simp [five]))) (op_add_bytes (by simp [toB, five]; lia))) (i := 1) rfl (.inl rfl) (noMeth_of rfl) rfl ?_)
    · intro i hi v q
      obtain ⟨p, _, rfl⟩ := List.mem_map.mp hi
      cases q
    · obtain ⟨p, hp, rfl⟩ := List.mem_map.mp hv
      exact (SE.binop SE.const_int (SE.nm (i := 0) (compC_ok O.toOk0 rfl) rfl rfl (by decide)) op_add)
    · rw [filter_true]; simp [mI]
    · intro n hn
      obtain ⟨p, hp, rfl⟩ := List.mem_map.mp hn
      have := five_in _ p hp
      lia
    · exact BX.nil (BX.nil (BX.nil (BX.nil (BX.nil (BX.nil (BX.nil (fin _ _ (by simp [toB, five]; lia) (.k (.k (.k (.d (.k (.k (.k (.k .nil)))))))))))))))
end Mine
end
section
set_option maxRecDepth 100000
set_option maxHeartbeats 4000000
set_option linter.unusedVariables false
set_option linter.unusedSimpArgs false
namespace Mine
variable {G : Glo} {pm cd : Value}
noncomputable def pI : Option (List UInt8) → I
  | none => .none
  | some b => .bytes b
noncomputable def skO (po : Option (List UInt8)) : List UInt8 := po.getD [32, 9, 10, 13, 11]
noncomputable def dueP (row : List UInt8) (sk : List UInt8) (n : Nat) : List I := (List.range n).map fun (w : Nat) => f85 row ((w : Int) % 2 == 1) ((w : Int) / 2 == 1) sk
noncomputable def dueL (row sk : List UInt8) : List I := dueP row sk 4 ++ [f16 row, f64 row]
theorem dueL_len (row sk : List UInt8) : (dueL row sk).length = 6 := by simp [dueL, dueP]
noncomputable def plainI : I → Bool
  | .bytes _ => true
  | .str _ => true
  | .bool _ => true
  | .none => true
  | _ => false
theorem plain_nr {i : I} (h : plainI i = true) : ∀ v, i ≠ .raw v := fun v q => by subst q; cases h
theorem plain_ni {i : I} (h : plainI i = true) : ∀ v, i ≠ .int v := fun v q => by subst q; cases h
theorem dec85_plain (sp : Bool) : ∀ (n : Nat) (l o : List Int), plainI (dec85 sp n l o) = true := by
  intro n
  induction n using Nat.strongRecOn with
  | ind n ih =>
    intro l o
    match n, l with
    | 0, _ => rw [dec85]; rfl
    | m + 1, [] => rw [dec85]; rfl
    | m + 1, c :: r =>
      rw [dec85]
      split
      · exact ih m (by lia) _ _
      · split
        · exact ih m (by lia) _ _
        · split
          · rfl
          · split
            · rfl
            · exact ih (m + 1 - 5) (by lia) _ _
theorem f85_plain (t : List UInt8) (sp fr : Bool) (pa : List UInt8) : plainI (f85 t sp fr pa) = true := by
  unfold f85 body85
  split
  · split
    · rfl
    · exact dec85_plain ..
  · exact dec85_plain ..
theorem f16_plain (t : List UInt8) : plainI (f16 t) = true := by unfold f16; split <;> rfl
theorem f64_plain (t : List UInt8) : plainI (f64 t) = true := by
  unfold f64
  split
  · rfl
  · unfold end64
    split
    · rfl
    · split <;> rfl
theorem dueL_plain (row sk : List UInt8) : ∀ i ∈ dueL row sk, plainI i = true := fun i h => by
  rcases List.mem_append.mp h with h | h
  · obtain ⟨w, _, rfl⟩ := List.mem_map.mp h
    exact f85_plain ..
  · simp at h
    rcases h with rfl | rfl
    · exact f16_plain _
    · exact f64_plain _
theorem cmp_ne_same {C : Ctx} {i : I} (h : plainI i = true) : OpOk C (compareOp .NotEq) (.im i) (.im i) (vb false) := op_im (fun _ q => by cases q) fun s Q E x y rx ry hq => by
  cases i with
  | none =>
    obtain rfl : x = _ := rx
    obtain rfl : y = _ := ry
    exact SeqAt.RcNeAt.none_none C.prog C.w E Q (hq _ s.toks rfl)
  | bool b =>
    obtain rfl : x = _ := rx
    obtain rfl : y = _ := ry
    refine SeqAt.RcNeAt.bool_bool b b C.prog C.w E Q ?_
    rw [beq_self_eq_true]
    exact hq _ s.toks rfl
  | str b =>
    obtain ⟨t, rfl⟩ := rx; obtain ⟨u, rfl⟩ := ry
    refine SeqAt.RcNeAt.str_str b t b u C.prog C.w E Q ?_
    rw [beq_self_eq_true]
    exact hq _ s.toks rfl
  | bytes b =>
    obtain ⟨t, rfl⟩ := rx; obtain ⟨u, rfl⟩ := ry
    refine ne_bytes ?_
    rw [bne_self_eq_false]
    exact hq _ s.toks rfl
  | int b => cases h
  | raw b => cases h

/-- what the looking calls -/
structure LookSpecs (G : Glo) (lt : Nat) (row : List UInt8) (po : Option (List UInt8)) (tv : Nat → I) : Prop where
  a16 : FnAt G 175
  b16 : Spec G 3 175 [vy row] [] (fun o => o = .ret (vy (toB (e16 row))) true)
  a64 : FnAt G 160
  b64 : Spec G 3 160 [vy row] [] (fun o => o = .ret (vy (toB (B64 row))) true)
  l16 : FnAt G 205
  m16 : Spec G 1 205 [vy row] [] (fun o => o = .ret (vy (toB (e16 row))) true)
  l64 : FnAt G 210
  m64 : Spec G 2 210 [vy row] [] (fun o => o = .ret (vy (toB (e64 row ((row.length + 2) / 3)))) true)
  f85 : FnAt G 239
  g85 : ∀ (sp fr : Bool) (pa : List UInt8), Spec G 1 239 [vy row, vb sp, vb fr, vy pa] [] (fun o => o = .ret (.im (Mine.f85 row sp fr pa)) true)
  f16 : FnAt G 227
  g16 : Spec G 1 227 [vy row] [] (fun o => o = .ret (.im (Mine.f16 row)) true)
  f64 : FnAt G 234
  g64 : Spec G 2 234 [vy row] [] (fun o => o = .ret (.im (Mine.f64 row)) true)
  told : FnAt G 246
  gold : ∀ n : Nat, n < 6 → Spec G lt 246 [vi n, vy row, .im (pI po)] [] (fun o => o = .ret (.im (tv n)) true)
  same : toB (B64 row) = toB (e64 row ((row.length + 2) / 3))
  right : ∀ n : Nat, n < 6 → (dueL row (skO po)).getD n .none ≠ .none → tv n = (dueL row (skO po)).getD n .none

theorem sp_looked {lt : Nat} (hlt : 3 ≤ lt) (GO : G.Ok) (W : Gl G) (row : List UInt8) (po : Option (List UInt8)) (tv : Nat → I) (X : LookSpecs G lt row po tv)
    (F : FnOk G 253 (mkFd 40 "_law_looked" .none .none pm cd) (fB 40) ["row", "passed"] ["row", "passed", "sent", "skipped", "due", "which"]) : Spec G (lt + 1) 253 [vy row, .im (pI po)] [] (fun o => o = .ret (.list (dueL row (skO po))) true) := by
  refine Spec.of_body (vs' := [vy row, .im (pI po)]) GO F (show ∀ x ∈ (fS 40).names, x.2 ≠ .cell by decide) rfl (noMeths_im (l := [.bytes row, pI po])) (fun s ws kw _ h _ => ?_) fun A fs L O => ?_
  · obtain ⟨w, u, rfl, h1, h2⟩ := all2_two h
    exact ⟨[w, u], .cons h1 (.cons h2 .nil), .of_eq rfl⟩
  show BX _ [some (vy row), some (.im (pI po)), none, none, none, none] _ _
  refine BX.cons (BX1.assign_list O (i := 2) (l := [.bytes (toB (e16 row)), .bytes (toB (B64 row))]) (SE.listd (l := [.bytes (toB (e16 row)), .bytes (toB (B64 row))]) (.two (SE.call O rfl W.fE16 (by decide) X.a16 (noStars_of rfl) rfl rfl (.one (SE.nm (i := 0) O.toOk0 rfl rfl (by decide)) rfl) .nil (Spec.mono (l' := lt) X.b16 (by lia) fun _ h => h) rfl) rfl (SE.call O rfl W.fE64 (by decide) X.a64 (noStars_of rfl) rfl rfl (.one (SE.nm (i := 0) O.toOk0 rfl rfl (by decide)) rfl) .nil (Spec.mono (l' := lt) X.b64 (by lia) fun _ h => h) rfl) rfl) (by simp)) rfl (.inl rfl) (noMeth_of rfl) rfl ?_)
  show BX _ [some (vy row), some (.im (pI po)), some (.list [.bytes (toB (e16 row)), .bytes (toB (B64 row))]), none, none, none] _ _
  refine BX.cons (BX1.ite (b := false) (ST.eq (ST.cmp (SE.nl (i := 2) O.toOk0 rfl rfl (by decide)) (TC.one (SE.listd (l := [.bytes (toB (e16 row)), .bytes (toB (e64 row ((row.length + 2) / 3)))]) (.two (SE.call O rfl W.lE16 (by decide) X.l16 (noStars_of rfl) rfl rfl (.one (SE.nm (i := 0) O.toOk0 rfl rfl (by decide)) rfl) .nil (Spec.mono (l' := lt) X.m16 (by lia) fun _ h => h) rfl) rfl (SE.call O rfl W.lE64 (by decide) X.l64 (noStars_of rfl) rfl rfl (.one (SE.nm (i := 0) O.toOk0 rfl rfl (by decide)) rfl) .nil (Spec.mono (l' := lt) X.m64 (by lia) fun _ h => h) rfl) rfl) (by simp)) (cmp_ne_bytesl (xs := [toB (e16 row), toB (B64 row)]) (ys := [toB (e16 row), toB (e64 row ((row.length + 2) / 3))]) (by have := O.units; lia)) rfl)) (by rw [X.same]; simp)) (fun e => by cases e) fun _ => ?_)
  refine BX.nil (BX.cons (BX1.ite (b := false) (ST.eq (ST.or (TOr.cons (ST.not (ST.val (SE.callB O.toOk0 rfl W.bIs (by decide) (by intro a q; cases q) rfl (.two (SE.sub_list (i := 0) (SE.nl (i := 2) O.toOk0 rfl rfl (by decide)) SE.const_int (by lia) (by lia) rfl (fun _ _ => rfl)) rfl (SE.glob O.toOk0 rfl W.tBytes (by decide)) rfl) (co_isinst_bytes (by intro v q; cases q) (by intro v q; cases q))) tr_bool (fun _ _ => rfl))) fun _ => TOr.cons (ST.not (ST.val (SE.callB O.toOk0 rfl W.bIs (by decide) (by intro a q; cases q) rfl (.two (SE.sub_list (i := 1) (SE.nl (i := 2) O.toOk0 rfl rfl (by decide)) SE.const_int (by lia) (by lia) rfl (fun _ _ => rfl)) rfl (SE.glob O.toOk0 rfl W.tBytes (by decide)) rfl) (co_isinst_bytes (by intro v q; cases q) (by intro v q; cases q))) tr_bool (fun _ _ => rfl))) fun _ => TOr.nil)) rfl) (fun e => by cases e) fun _ => ?_))
  refine BX.nil (BX.cons (BX1.assign_im O (v := .bytes (skO po)) (fr := false) ?_ (i := 3) rfl (.inl rfl) (noMeth_of rfl) rfl ?_))
  · cases po with
    | none => exact SE.ifexp (b := true) (ST.eq (ST.cmp (SE.nm (i := 1) O.toOk0 rfl rfl (by decide)) (TC.one SE.const_none (cmp_is_none (by intro v q; cases q)) rfl)) rfl) (fun _ => SE.old SE.const_bytes) (fun e => by cases e)
    | some b => exact SE.ifexp (b := false) (ST.eq (ST.cmp (SE.nm (i := 1) O.toOk0 rfl rfl (by decide)) (TC.one SE.const_none (cmp_is_none (by intro v q; cases q)) rfl)) rfl) (fun e => by cases e) (fun _ => (SE.nm (i := 1) O.toOk0 rfl rfl (by decide)))
  refine BX.cons (BX1.assign_new O (l := []) (SE.listd (l := []) .nil (by decide)) (i := 4) rfl (.inl rfl) (noMeth_of rfl) rfl ?_)
  refine BX.cons (BX1.forg (i := 5) (fun n => [some (vy row), some (.im (pI po)), none, some (vy (skO po)), some (.own (dueP row (skO po) n)), none]) O rfl rfl (.of_none (.range1 O rfl W.tRange rfl (SE.im (v' := vi ((4 : Nat) : Int)) SE.const_int rfl) (by lia))) rfl (.inl rfl) (.k (.k (.d (.k (.k (.k .nil)))))) (fun n => noMeth_of rfl) (fun n v hv => ?_) ?_ (fun _ => rfl))
  · obtain ⟨hn, rfl⟩ := ups_get' hv
    rw [show (0 + (n : Int) * ((1 : Nat) : Int)) = (n : Int) by push_cast; lia]
    show BX _ [some (vy row), some (.im (pI po)), none, some (vy (skO po)), some (.own (dueP row (skO po) n)), some (vi n)] _ _
    refine BX.cons (BX1.append O (i := 4) rfl rfl (by decide) (SE.call O rfl W.lF85 (by decide) X.f85 (noStars_of rfl) rfl rfl (.cons (SE.nm (i := 0) O.toOk0 rfl rfl (by decide)) (.three (SE.cmp (SE.binop (SE.nm (i := 5) O.toOk0 rfl rfl (by decide)) SE.const_int (op_mod (by decide))) SE.const_int cmp_eq rfl) rfl (SE.cmp (SE.binop (SE.nm (i := 5) O.toOk0 rfl rfl (by decide)) SE.const_int (op_div (by decide) (by decide))) SE.const_int cmp_eq rfl) rfl (SE.nm (i := 3) O.toOk0 rfl rfl (by decide)) rfl) (fun _ => rfl)) .nil (Spec.mono (l' := lt) (X.g85 _ _ _) (by lia) fun _ h => h) rfl) rfl (by simp [dueP]; lia) rfl rfl ?_)
    refine BX.done (Γ' := [some (vy row), some (.im (pI po)), none, some (vy (skO po)), some (.own (dueP row (skO po) (n + 1))), none]) ?_ rfl
    have e : dueP row (skO po) (n + 1) = dueP row (skO po) n ++ [Mine.f85 row ((n : Int) % 2 == 1) ((n : Int) / 2 == 1) (skO po)] := by simp [dueP, List.range_succ]
    rw [e]
    exact .k (.k (.k (.k (.k (.d .nil)))))
  rw [show (ups 4 0 1).length = 4 from rfl]
  refine BX.cons (BX1.assign_new O (i := 4) (l := (dueL row (skO po))) (SE.binop (SE.no (i := 4) O.toOk0 rfl rfl (by decide)) (SE.listd (l := [Mine.f16 row, Mine.f64 row]) (.two (SE.call O rfl W.lF16 (by decide) X.f16 (noStars_of rfl) rfl rfl (.one (SE.nm (i := 0) O.toOk0 rfl rfl (by decide)) rfl) .nil (Spec.mono (l' := lt) X.g16 (by lia) fun _ h => h) rfl) rfl (SE.call O rfl W.lF64 (by decide) X.f64 (noStars_of rfl) rfl rfl (.one (SE.nm (i := 0) O.toOk0 rfl rfl (by decide)) rfl) .nil (Spec.mono (l' := lt) X.g64 (by lia) fun _ h => h) rfl) rfl) (by simp)) (op_add_lists (by simp [dueP]))) rfl (.inl rfl) (noMeth_of rfl) rfl ?_)
  have hdl := dueL_len row (skO po)
  refine BX.cons (BX1.forg (i := 5) (fun n => [some (vy row), some (.im (pI po)), none, none, some (.own (dueL row (skO po))), none]) O rfl rfl (.of_none (.range1 O rfl W.tRange rfl (SE.im (v' := vi ((6 : Nat) : Int)) SE.const_int rfl) (by lia))) rfl (.inl rfl) (.k (.k (.k (.d (.k (.k .nil)))))) (fun n => noMeth_of rfl) (fun n v hv => ?_) ?_ (fun _ => rfl))
  · obtain ⟨hn, rfl⟩ := ups_get' hv
    rw [show (0 + (n : Int) * ((1 : Nat) : Int)) = (n : Int) by push_cast; lia]
    show BX _ [some (vy row), some (.im (pI po)), none, none, some (.own (dueL row (skO po))), some (vi n)] _ _
    have hpl : plainI ((dueL row (skO po)).getD n .none) = true := by
      have : (dueL row (skO po)).getD n .none = (dueL row (skO po))[n] := by rw [List.getD_eq_getElem?_getD, List.getElem?_eq_getElem (by lia)]; rfl
      rw [this]; exact dueL_plain _ _ _ (List.getElem_mem _)
    refine BX.cons (BX1.ite (b := false) (ST.eq (ST.and (TAnd.cons (c := false) (ST.cmp (SE.sub_list (i := (n : Int)) (SE.no (i := 4) O.toOk0 rfl rfl (by decide)) (SE.nm (i := 5) O.toOk0 rfl rfl (by decide)) (by lia) (by lia) (x := (dueL row (skO po)).getD n .none) (by rw [Int.toNat_natCast, List.getD_eq_getElem?_getD, List.getElem?_eq_getElem (by lia)]; rfl) (fun _ _ => rfl)) (TC.one SE.const_none (cmp_isnot_none (plain_nr hpl)) rfl)) fun hb => TAnd.cons (b := false) (c := true) (ST.cmp (SE.im (v' := .im ((dueL row (skO po)).getD n .none)) (SE.call O rfl W.lTold (by decide) X.told (noStars_of rfl) rfl rfl (.three (SE.nm (i := 5) O.toOk0 rfl rfl (by decide)) rfl (SE.nm (i := 0) O.toOk0 rfl rfl (by decide)) rfl (SE.nm (i := 1) O.toOk0 rfl rfl (by decide)) rfl) .nil (X.gold n hn) rfl) (by rw [X.right n hn (fun q => by rw [q] at hb; cases hb)])) (TC.one (SE.sub_list (i := (n : Int)) (SE.no (i := 4) O.toOk0 rfl rfl (by decide)) (SE.nm (i := 5) O.toOk0 rfl rfl (by decide)) (by lia) (by lia) (x := (dueL row (skO po)).getD n .none) (by rw [Int.toNat_natCast, List.getD_eq_getElem?_getD, List.getElem?_eq_getElem (by lia)]; rfl) (fun _ _ => rfl)) (cmp_ne_same hpl) rfl)) (fun e => by cases e))) (by simp)) (fun e => by cases e) fun _ => ?_)
    exact BX.nil (BX.done (.k (.k (.k (.k (.k (.d .nil)))))) rfl)
  · exact BX.cons (BX1.ret_own O (i := 4) rfl rfl (by decide) rfl)
end Mine
end
section
set_option maxRecDepth 100000
set_option maxHeartbeats 4000000
set_option linter.unusedVariables false
set_option linter.unusedSimpArgs false
namespace Mine
variable {G : Glo} {pm cd : Value}
theorem map_mI (l : List Int) (f : Int → Int) : (l.map I.int).map (mI f) = (l.map f).map I.int := by rw [List.map_map, List.map_map]; rfl
noncomputable def vt : List UInt8 := [118, 126, 10]
noncomputable def stO (st : Int) : Option (List UInt8) := if st % 2 = 0 then none else some vt
/-- what law calls -/
structure LawSpecs (G : Glo) (lt : Nat) : Prop where
  a : FnAt G 253
  b : ∀ (row : List UInt8) (st : Int), row.length ≤ 16 → Spec G lt 253 [vy row, .im (pI (stO st))] [] (fun o => o = .ret (.list (dueL row (skO (stO st)))) true)
  c : FnAt G 258
  d : ∀ (deed : Int) (row : List UInt8) (st : Int), 0 ≤ deed → row.length ≤ 16 → Spec G lt 258 [vi deed, vy row, .list (dueL row (skO (stO st)))] [] Short

theorem sp_law {lt : Nat} (GO : G.Ok) (W : Gl G) (X : LawSpecs G lt)
    (F : FnOk G 263 (mkFd 42 "law" .none .none pm cd) (fB 42) ["script"] ["script", "numbers", "row", "step", "deed", "answers"]) (ns : List Int) (hl : ns.length ≤ 16777216) : Spec G (lt + 1) 263 [.list (ns.map .int)] [] (fun o => o = .ret (vb true) true) := by
  refine Spec.of_body (vs' := [.list (ns.map .int)]) GO F (show ∀ x ∈ (fS 42).names, x.2 ≠ .cell by decide) rfl (by intro v hv id j; simp at hv; subst hv; intro q; cases q) (bind1 fun _ => rfl) fun A fs L O => ?_
  show BX _ [some (.list (ns.map .int)), none, none, none, none, none] _ _
  refine BX.cons (BX1.assign_comp O (cl := []) (caps := []) (vs := []) (pt := fun _ => true) (F := mI (· % 1000000000000)) (items := (ns.take 4).map .int) (f := true) (i := 1) rfl rfl (by decide) rfl (by decide) rfl (.list O.handled (SE.im (SE.cut_list (SE.nl (i := 0) O.toOk0 rfl rfl (by decide)) .none (.some (SE.im (v' := vi ((4 : Nat) : Int)) SE.const_int rfl)) (by simp; lia)) (by rw [cut_to, List.map_take]))) (fun _ => rfl) .none (fun i hi v q => by obtain ⟨p, _, rfl⟩ := List.mem_map.mp hi; cases q) (by simp; lia) (fun _ _ _ => .nil) (fun L' v hv _ => ?_) rfl rfl (noMeth_of rfl) ?_)
  · obtain ⟨p, hp, rfl⟩ := List.mem_map.mp hv
    exact (SE.binop (SE.nm (i := 0) (compC_ok O.toOk0 rfl) rfl rfl (by decide)) SE.const_int (op_mod (by decide)))
  have e1 : (((ns.take 4).map I.int).filter (fun _ => true)).map (mI (· % 1000000000000)) = (((ns.take 4).map (· % 1000000000000)).map .int) := by rw [filter_true, map_mI]
  rw [e1]
  have hnu : ∀ x ∈ (ns.take 4).map (· % 1000000000000), 0 ≤ x := fun x hx => by
    obtain ⟨y, _, rfl⟩ := List.mem_map.mp hx
    exact Int.emod_nonneg _ (by decide)
  have hnl : ((ns.take 4).map (· % (1000000000000 : Int))).length ≤ 4 := by simp; lia
  change BX _ [some (.list (ns.map .int)), some (.own (((ns.take 4).map (· % 1000000000000)).map .int)), none, none, none, none] _ _
  generalize (ns.take 4).map (· % (1000000000000 : Int)) = nu at *
  refine BX.cons (BX1.assign_im O (v := .bytes ([0, 0, 0, 0, 32, 32, 32, 32] ++ toB ((nu.take 3).map (· % 256)))) (SE.binop SE.const_bytes (SE.callB O.toOk0 rfl W.tBytes (by decide) (by intro a q; cases q) rfl (.one (SE.im (v' := .list (((nu.take 3).map (· % 256)).map .int)) (SE.comp (cl := []) (caps := []) (vs := []) (pt := fun _ => true) (F := mI (· % 256)) (items := (nu.take 3).map .int) (f := true) rfl (by decide) rfl (by decide) rfl (.list O.handled (SE.im (SE.cut_list (SE.no (i := 1) O.toOk0 rfl rfl (by decide)) .none (.some (SE.im (v' := vi ((3 : Nat) : Int)) SE.const_int rfl)) (by simp; lia)) (by rw [cut_to, List.map_take]))) (fun _ => rfl) .none (fun i hi v q => by obtain ⟨p, _, rfl⟩ := List.mem_map.mp hi; cases q) (by simp; lia) (fun _ _ _ => .nil) (fun L' v hv _ => ?_)) ?_) rfl) (co_bytes_list O.handled ?_ (by simp; lia))) (op_add_bytes (by simp [toB]; lia))) (i := 2) rfl (.inl rfl) (noMeth_of rfl) rfl ?_)
  · obtain ⟨p, hp, rfl⟩ := List.mem_map.mp hv
    exact (SE.binop (SE.nm (i := 0) (compC_ok O.toOk0 rfl) rfl rfl (by decide)) SE.const_int (op_mod (by decide)))
  · rw [filter_true, map_mI]
  · intro n hn
    obtain ⟨p, _, rfl⟩ := List.mem_map.mp hn
    exact ⟨Int.emod_nonneg _ (by decide), Int.emod_lt_of_pos _ (by decide)⟩
  have hr0 : ([0, 0, 0, 0, 32, 32, 32, 32] ++ toB ((nu.take 3).map (· % 256))).length ≤ 16 := by simp [toB]; lia
  generalize [0, 0, 0, 0, 32, 32, 32, 32] ++ toB ((nu.take 3).map (· % 256)) = r0 at *
  refine BX.cons (BX1.assign_im O (SE.im (v' := vi ((nu.length % 2 : Nat) : Int)) (SE.binop (SE.im (v' := vi (nu.length : Int)) (SE.callB O.toOk0 rfl W.bLen (by decide) (by intro a q; cases q) rfl (.one (SE.no (i := 1) O.toOk0 rfl rfl (by decide)) rfl) (co_len_list (by simp; lia))) (by simp)) SE.const_int (op_mod (by decide))) (by show vi _ = vi _; congr 2)) (i := 3) rfl (.inl rfl) (noMeth_of rfl) rfl ?_)
  refine BX.cons (BX1.fors (i := 4) (s₀ := ((r0, ((nu.length % 2 : Nat) : Int)) : List UInt8 × Int)) (fun a => [some (.list (ns.map .int)), some (.own (nu.map .int)), some (vy a.1), some (vi a.2), none, none]) (fun _ a => a.1.length ≤ 16) O rfl rfl (.new O (l := (nu ++ [24, 2, 43, 27]).map .int) (SE.im (SE.binop (SE.no (i := 1) O.toOk0 rfl rfl (by decide)) (SE.listd (l := ([24, 2, 43, 27] : List Int).map .int) (.cons SE.const_int (.three SE.const_int rfl SE.const_int rfl SE.const_int rfl) (fun _ => rfl)) (by simp)) (op_add_lists (by simp; lia))) (by rw [List.map_append]))) rfl (.inl rfl) (Sub.refl _) hr0 (fun n => noMeth_of rfl) (fun n v a hv hR => ?_) (fun a hR => ?_) (fun _ => rfl))
  · rw [List.getElem?_map, Option.map_eq_some_iff] at hv
    obtain ⟨deed, hdd, rfl⟩ := hv
    have hd0 : 0 ≤ deed := by
      rcases List.mem_append.mp (List.mem_of_getElem? hdd) with q | q
      · exact hnu _ q
      · simp at q; lia
    obtain ⟨row, st⟩ := a
    simp only at hR
    show BX _ [some (.list (ns.map .int)), some (.own (nu.map .int)), some (vy row), some (vi st), some (vi deed), none] _ _
    refine BX.cons (BX1.assign_list O (i := 5) (SE.call O rfl W.lLooked (by decide) X.a (noStars_of rfl) rfl rfl (.two (SE.nm (i := 2) O.toOk0 rfl rfl (by decide)) rfl (SE.ifexp (b := decide (st % 2 = 0)) (v := .im (pI (stO st))) (f := false) (ST.eq (ST.cmp (SE.binop (SE.nm (i := 3) O.toOk0 rfl rfl (by decide)) SE.const_int (op_mod (by decide))) (TC.one SE.const_int cmp_eq rfl)) (by rw [Bool.eq_iff_iff]; simp)) (fun h => SE.old (SE.im SE.const_none (by simp at h; simp [stO, pI, h]))) (fun h => SE.old (SE.im SE.const_bytes (by simp at h; simp [stO, pI, h, vt])))) rfl) .nil (X.b row st hR) rfl) rfl (.inl rfl) (noMeth_of rfl) rfl ?_)
    refine BX.cons (BX1.ite (b := false) (ST.cmp (SE.nl (i := 5) O.toOk0 rfl rfl (by decide)) (TC.one SE.const_none cmp_is_none_list rfl)) (fun e => by cases e) fun _ => ?_)
    refine BX.nil (BX.cons (BX1.assignX (R := Short) O (SX.call O rfl W.lDone (by decide) X.c rfl rfl rfl (.three (SE.nm (i := 4) O.toOk0 rfl rfl (by decide)) rfl (SE.nm (i := 2) O.toOk0 rfl rfl (by decide)) rfl (SE.nl (i := 5) O.toOk0 rfl rfl (by decide)) rfl) .nil (X.d deed row st hd0 hR) rfl) (i := 2) rfl (.inl rfl) (noMeth_of rfl) rfl (fun v fr h => by obtain ⟨b, e, _⟩ := h; cases e; exact ⟨_, rfl⟩) (fun v fr h => ?_) (fun c as h => by obtain ⟨b, e, _⟩ := h; cases e)))
    obtain ⟨b, e, hb⟩ := h
    cases e
    refine BX.cons (BX1.assign_im O (SE.binop (SE.nm (i := 3) O.toOk0 rfl rfl (by decide)) SE.const_int op_add) (i := 3) rfl (.inl rfl) (noMeth_of rfl) rfl ?_)
    exact BX.done (Γ' := [some (.list (ns.map .int)), some (.own (nu.map .int)), some (vy b), some (vi (st + 1)), none, none]) (.k (.k (.k (.k (.d (.d .nil)))))) ⟨(b, st + 1), rfl, hb⟩
  · obtain ⟨row, st⟩ := a
    simp only at hR
    exact BX.cons (BX1.reti (i := .bool true) (SE.cmp (SE.call O rfl W.lLooked (by decide) X.a (noStars_of rfl) rfl rfl (.two (SE.nm (i := 2) O.toOk0 rfl rfl (by decide)) rfl (SE.ifexp (b := decide (st % 2 = 0)) (v := .im (pI (stO st))) (f := false) (ST.eq (ST.cmp (SE.binop (SE.nm (i := 3) O.toOk0 rfl rfl (by decide)) SE.const_int (op_mod (by decide))) (TC.one SE.const_int cmp_eq rfl)) (by rw [Bool.eq_iff_iff]; simp)) (fun h => SE.old (SE.im SE.const_none (by simp at h; simp [stO, pI, h]))) (fun h => SE.old (SE.im SE.const_bytes (by simp at h; simp [stO, pI, h, vt])))) rfl) .nil (X.b row st hR) rfl) SE.const_none cmp_isnot_none_list rfl) nr_bool rfl)
end Mine
end
section
set_option maxRecDepth 100000
set_option maxHeartbeats 4000000
set_option linter.unusedVariables false
namespace Mine
variable {G : Glo} {pm cd : Value}
noncomputable def A16 (t : List UInt8) (o : RO) : Prop := if t.all hexup && t.length % 2 == 0 then o = .ret (vy (toB (d16 t))) true else ∃ m, o = .exc (.ref 82) [m]
theorem sp_bd16 {kV : Value} {tk t2 : Tok} (GO : G.Ok) (W : Gl G) (hre : G.At "_twin_re_1" (.ref 64)) (h64 : G.b0.get? 64 = some (patO tk t2)) (h63 : G.b0.get? 63 = some tupO) (FD : FnAt G 72) (SD : ∀ b, Spec G 1 72 [vy b] [] (fun o => o = .ret (vy b) true)) (FA : FnAt G 152) (t : List UInt8) (hl : t.length ≤ 1000) (SA : t.all hexup = true → Spec G 2 152 [vy t] [] (A2bH t)) (D : G.b0.get? 176 = some { cls := .type "tuple", data := .seq #[.bool false] })
    (F : FnOk G 183 (mkFd 26 "b16decode" (.ref 176) kV pm cd) (fB 26) ["s", "casefold"] ["s", "casefold"]) : Spec G 3 183 [vy t] [] (A16 t) := by
  refine Spec.of_body (vs' := [vy t, vb false]) GO F (show ∀ x ∈ (fS 26).names, x.2 ≠ .cell by decide) rfl (noMeths_im (l := [.bytes t, .bool false])) (fun s ws kw hb h h2 => ?_) fun A fs L O => ?_
  · obtain ⟨w, rfl, h1⟩ := all2_one h
    cases h2
    exact ⟨[w, .bool false], .cons h1 (.cons rfl .nil), .of_defaults (T := 176) rfl (hb _ _ D) rfl rfl rfl⟩
  show BX _ [some (vy t), some (vb false)] _ _
  refine BX.cons (BX1.assign_im O (SE.call O rfl W.fDec (by decide) FD (noStars_of rfl) rfl rfl (.one (SE.nm (i := 0) O.toOk0 rfl rfl (by decide)) rfl) .nil (Spec.mono (l' := 2) (SD t) (by decide) fun _ h => h) rfl) (i := 0) rfl (.inl rfl) (noMeth_of rfl) rfl ?_)
  refine BX.cons (BX1.ite (b := false) (ST.val (SE.nm (i := 1) O.toOk0 rfl rfl (by decide)) tr_bool (fun _ _ => rfl)) (fun e => by cases e) fun _ => ?_)
  refine BX.nil (BX.cons (BX1.ite (ST.search O.toOk0 hre rfl h64 h63 (SE.nm (i := 0) O.toOk0 rfl rfl (by decide)) rfl rfl (by omega)) (fun h => ?_) fun h => ?_))
  · have hu : t.all hexup = false := by revert h; cases t.all hexup <;> simp
    refine BX.cons (BX1.raise_own O rfl W.cErr (by decide) W.oErr SE.const_str rfl ?_)
    show A16 t _
    unfold A16
    rw [hu]
    exact ⟨_, rfl⟩
  · have hu : t.all hexup = true := by revert h; cases t.all hexup <;> simp
    refine BX.nil (BX.cons (BX1.retX (SX.call O rfl W.fUnhex (by decide) FA rfl rfl rfl (.one (SE.nm (i := 0) O.toOk0 rfl rfl (by decide)) rfl) .nil (SA hu) rfl) (fun v fr h => ?_) fun cls args h => ?_))
    · rcases h with ⟨h1, h2⟩ | ⟨h1, m, h2⟩
      · cases h2; show A16 t _; unfold A16; rw [hu, h1]; rfl
      · cases h2
    · rcases h with ⟨h1, h2⟩ | ⟨h1, m, h2⟩
      · cases h2
      · cases h2; show A16 t _; unfold A16; rw [hu]; simp only [Bool.true_and]; rw [if_neg (by simpa using h1)]; exact ⟨_, rfl⟩
end Mine
end
section
set_option maxRecDepth 100000
set_option maxHeartbeats 4000000
set_option linter.unusedVariables false
namespace Mine
section
variable {C : Ctx} {k : Heap}
end
section
variable {C : Ctx} {Γ : Gam} {P : Out → Prop}
theorem exc_ext {h₀ h : Heap} {e : Addr} {cls : Value} {args : List I} (x : Exc C h₀ e cls args h) : Ext C.fs h₀ h := by
  obtain ⟨vs, ha, hs, y⟩ := x
  refine ⟨fun b o nb q => ?_, hs⟩
  have hb : (base C h₀).get? b = some o := hideAll_get _ q nb
  rcases y with ⟨hm, xm, fm, mk⟩ | ⟨t, hfl, htup, hnt⟩ | ⟨t, L, hL, hh, htup, hnt⟩
  · exact mk.keeps b o (xm.keep b o nb q)
  · exact hfl.1 b o hb
  · exact hh.1 b o hb

/-- an exception on its way, its flight at none -/
noncomputable def Fl (C : Ctx) (k : Heap) (e : Addr) (cls : Value) (args : List I) (h' : Heap) : Prop :=
  ∃ vs t, All2 IRep args vs ∧ k.UpToSlots h' ∧ Heap.FlyingW (base C k) C.fs e cls (.ref t) h' ∧ h'.TupAt t vs ∧ (base C k).get? t = none
theorem Fl.exc {h₀ h : Heap} {e : Addr} {cls : Value} {args : List I} (x : Fl C h₀ e cls args h) : Exc C h₀ e cls args h :=
  let ⟨vs, t, a, b, c, d, g⟩ := x; ⟨vs, a, b, .inr (.inl ⟨t, c, d, g⟩)⟩
theorem held_fl {s : Shared} {M : Model} {A : Around} {k : Heap} {e : Addr} {cls : Value} {args : List I} {Q : Unit → Shared → Prop} {E : Value → Shared → Prop} (x : Held C k e cls args s.heap) (h : ∀ h', Fl C k e cls args h' → Q () { s with heap := h' }) : wpAny M A (setFlight (.ref e) none) Q E s := by
  obtain ⟨vs, t, L, ha, hsl, hf, hh, htup, hnt⟩ := x
  exact wpAny_landsW hh fun h' f u => h h' ⟨vs, t, ha, hsl.trans u, f, htup.of_slots u, hnt⟩
theorem fl_fl {s : Shared} {M : Model} {A : Around} {k : Heap} {e : Addr} {cls : Value} {args : List I} {Q : Unit → Shared → Prop} {E : Value → Shared → Prop} (x : Fl C k e cls args s.heap) (h : ∀ h', Fl C k e cls args h' → Q () { s with heap := h' }) : wpAny M A (setFlight (.ref e) none) Q E s := by
  obtain ⟨vs, t, ha, hsl, ⟨f1, f2, f3, f4⟩, htup, hnt⟩ := x
  exact wpAny_setFlight_noneW f1 f3 f4.at fun h' k1 k2 k3 k4 => have u : s.heap.UpToSlots h' := fun b o hb hn => ⟨o.slots, k4 b o hb hn⟩; h h' ⟨vs, t, ha, hsl.trans u, ⟨k1, f2, k2, k3⟩, htup.of_slots u, hnt⟩
theorem fl_ext {k h h' : Heap} {e : Addr} {cls : Value} {args : List I} (x : Fl C k e cls args h) (y : Ext C.fs h h') : Fl C k e cls args h' := by
  obtain ⟨vs, t, ha, hsl, ⟨f1, f2, f3, f4⟩, htup, hnt⟩ := x
  obtain ⟨oe, ws, T, oT, ts, he, hcls, hd, h1, hnT, hTe, hT, hdT, h3⟩ := f4
  have off : ∀ b o, h.get? b = some o → (∃ vs, o.data = .fields vs) → b ∉ fa C.fs := fun b o hb hf hm => by
    obtain ⟨_, o', ho', hn⟩ := f3.mem hm
    rw [hb] at ho'; cases ho'
    obtain ⟨vs, q⟩ := hf
    exact hn _ q
  refine ⟨vs, t, ha, hsl.trans y.slots, ⟨fun b o q => ?_, f2, funFrames_slots y.slots f3, ⟨oe, ws, T, oT, ts, y.keep _ _ (off _ _ he ⟨_, hd⟩) he, hcls, hd, h1, hnT, hTe, y.keep _ _ (off _ _ hT ⟨_, hdT⟩) hT, hdT, h3⟩⟩, htup.of_slots y.slots, hnt⟩
  have nb : b ∉ fa C.fs := fun hm => by
    have := hideAll_none (h := k) _ hm
    unfold base at q
    rw [this] at q; cases q
  exact y.keep b o nb (f1 b o q)

/-- a try's body: when it raises, the names still read -/
noncomputable def TB (C : Ctx) (Γ : Gam) (b : List Stmt) (Pn : Gam → Prop) (R : Value → List I → Prop) : Prop :=
  ∀ (k : Heap) (s : Shared) (Q : Flow → Shared → Prop) (E : Value → Shared → Prop), St C k Γ s.heap →
    (∀ Γ', Pn Γ' → ∀ h' tk, St C k Γ' h' → Q .next { s with heap := h', toks := tk }) →
    (∀ cls args, R cls args → ∀ e h₀ h' tk, St C k Γ h₀ → Exc C h₀ e cls args h' → E (.ref e) { s with heap := h', toks := tk }) → wpAny C.M C.A (execs b C.ev) Q E s
theorem TB.ite {t : Expr} {b1 b2 : List Stmt} {pos : Pos} {b : Bool} {Pn : Gam → Prop} {R : Value → List I → Prop} (ht : ST C Γ t b) (h1 : b = true → TB C Γ b1 Pn R) (h2 : b = false → TB C Γ b2 Pn R) : TB C Γ [.If t b1 b2 pos] Pn R := fun k s Q E S hP hR => by
  refine wpAny_execs_cons (wpAny_If (ht s _ E S.inv fun h' tk x => ?_))
  have S' := S.ext' x
  cases b with
  | true => exact h1 rfl k ⟨h', s.gens, s.drawn, tk, s.os⟩ _ E S' (fun Γ' hp h'' tk' S'' => wpAny_execs_nil (hP Γ' hp h'' tk' S'')) hR
  | false => exact h2 rfl k ⟨h', s.gens, s.drawn, tk, s.os⟩ _ E S' (fun Γ' hp h'' tk' S'' => wpAny_execs_nil (hP Γ' hp h'' tk' S'')) hR
theorem TB.assignX {i : Nat} {x : Str} {px pos : Pos} {e : Expr} {R : RO → Prop} {Pn : Gam → Prop} {Re : Value → List I → Prop} (O : C.Ok) (he : SX C Γ e R) (hx : C.names[i]? = some x) (hl : isLocal C x) (hm : noMeth Γ i)
    (hs : swapsWith e (some (.Name x px)) pos.line C.ev = pure false) (hi : ∀ v fr, R (.ret v fr) → ∃ i, v = .im i) (h : ∀ v fr, R (.ret (.im v) fr) → Pn (Γ.set i (some (.im v)))) (hE : ∀ cls args, R (.exc cls args) → Re cls args) : TB C Γ [.Assign [.Name x px] e pos] Pn Re := fun k s Q E S hP hR => by
  refine wpAny_execs_cons ?_
  refine wpAny_Assign_Name (he s _ E S.inv (fun v fr hr w h' tk x' r f => ?_) fun cls args hr e h' tk y => hR _ _ (hE cls args hr) e s.heap h' tk S y) hs
  obtain ⟨v, rfl⟩ := hi v fr hr
  have S' := S.ext' x'
  obtain ⟨Ws, V⟩ := S'.vars
  refine store0 (s := ⟨h', s.gens, s.drawn, tk, s.os⟩) O S'.toSt0 hl fun h₂ tk₂ S₂ rx ro st => ?_
  have hi : i < Γ.length := by rw [S.len]; exact (List.getElem?_eq_some_iff.mp hx).1
  refine wpAny_execs_nil ?_
  refine hP _ (h v fr hr) h₂ tk₂ ⟨S₂, ⟨_, vars_set O V hx (fun j hj => get_set_ne hj) (get_set_self' hi) hm rx ro st r (fun q => by cases q) (fun l q => by cases q) (fun _ _ q => by cases q)⟩, by rw [List.length_set]; exact S.len⟩

/-- the exception as a handler sees it -/
noncomputable def FE (C : Ctx) (e : Addr) (cls : Value) (args : List I) (h : Heap) : Prop :=
  ∃ vs t, All2 IRep args vs ∧ e ∉ fa C.fs ∧ (∃ o ws, h.get? e = some o ∧ o.cls = cls ∧ o.data = .fields ws ∧ ws[0]? = some (.ref t)) ∧ h.TupAt t vs
theorem Fl.fe {k h : Heap} {e : Addr} {cls : Value} {args : List I} (x : Fl C k e cls args h) : FE C e cls args h := by
  obtain ⟨vs, t, ha, hsl, ⟨f1, f2, f3, f4⟩, htup, hnt⟩ := x
  obtain ⟨oe, ws, T, oT, ts, he, hcls, hd, h1, hnT, hTe, hT, hdT, h3⟩ := f4
  refine ⟨vs, t, ha, fun hm => ?_, ⟨oe, ws, he, hcls.1, hd, hcls.2⟩, htup⟩
  obtain ⟨_, o', ho', hn⟩ := f3.mem hm
  rw [he] at ho'; cases ho'
  exact hn _ hd
theorem FE.ext {h h' : Heap} {e : Addr} {cls : Value} {args : List I} (x : FE C e cls args h) (y : Ext C.fs h h') : FE C e cls args h' := by
  obtain ⟨vs, t, ha, hn, ⟨o, ws, he, hc, hd, h0⟩, ht⟩ := x
  exact ⟨vs, t, ha, hn, ⟨o, ws, y.keep _ _ hn he, hc, hd, h0⟩, ht.of_slots y.slots⟩
theorem FE.still {h h' : Heap} {e : Addr} {cls : Value} {args : List I} (x : FE C e cls args h) (st : ∀ b o, Still o → h.get? b = some o → h'.get? b = some o) : FE C e cls args h' := by
  obtain ⟨vs, t, ha, hn, ⟨o, ws, he, hc, hd, h0⟩, ⟨o2, n, hto, htc, htd⟩⟩ := x
  exact ⟨vs, t, ha, hn, ⟨o, ws, st _ _ (.inr ⟨_, hd⟩) he, hc, hd, h0⟩, ⟨o2, n, st _ _ (.inl ⟨_, _, htd⟩) hto, htc, htd⟩⟩

/-- what an except clause for ValueError takes -/
noncomputable def Catches (C : Ctx) (cls : Value) : Prop := ∀ (A : Around) (E : Value → Shared → Prop) (Q : Bool → Shared → Prop) (s : Shared) (e : Addr), C.b0.StaysIn s.heap → (∃ ob, s.heap.get? e = some ob ∧ ob.cls = cls) → Q true s → wpAny C.M A (excMatches (.ref e) (.type "ValueError")) Q E s

theorem catches_own {a : Addr} (h : OwnErr C.toGlo a) : Catches C (.ref a) := fun A E Q s e hb he hq => by
  obtain ⟨nm, q, N, bs, bm, hdct, sn, sub, ab, col, dd, k0, k1, k2, k3, k5, B, newId, initId, mN, F, hC, hn, hni, hbm⟩ := h
  obtain ⟨ob, ho, hc⟩ := he
  exact wpAny_excMatches_sub_type (hb _ _ hC) ho hc (by rw [isSubtype_type]; kernel_rfl) (by rw [isSubtype_type]; kernel_rfl) (by rw [hbm]; exact hq)
theorem catches_self : Catches C (.type "ValueError") := fun A E Q s e hb he hq => by
  obtain ⟨ob, ho, hc⟩ := he
  exact wpAny_excMatches_type (X := "ValueError") (b := true) ⟨ob, ho, hc⟩ (by rw [isSubtype_type]; kernel_rfl) (by rw [isSubtype_type]; kernel_rfl) (by rw [isSubtype_type]; kernel_rfl) hq

/-- the handler's one answer -/
noncomputable def HX (C : Ctx) (Γ : Gam) (e : Addr) (cls : Value) (args : List I) (re : Expr) (P : Out → Prop) : Prop :=
  ∀ (s : Shared) (Q : Value → Shared → Prop) (E : Value → Shared → Prop), Inv C Γ s.heap → FE C e cls args s.heap →
    (∀ i, (∀ v, i ≠ .raw v) → P (.ret (.im i) true) → ∀ w h' tk, Ext C.fs s.heap h' → IRep i w → Q w { s with heap := h', toks := tk }) → wpAny C.M (C.A.mark (some (.ref e))) (eval re C.ev) Q E s

theorem BX1.tryas {i : Nat} {n : Str} {b : List Stmt} {px rpos hpos pos : Pos} {re : Expr} {Pn : Gam → Prop} {Re : Value → List I → Prop} {outer : List Env} (O : C.Ok) (hfs : C.fs = C.ev :: outer) (hf : C.ev.frame = some C.ev.locals)
    (hk : C.ev.kindOf "ValueError" = some .globalImplicit) (hv : C.Glob "ValueError" (.type "ValueError")) (hx : C.names[i]? = some n) (hloc : C.ev.kindOf n = some .local) (hm : noMeth Γ i)
    (hB : TB C Γ b Pn Re) (next : ∀ Γ', Pn Γ' → P (.next Γ')) (caught : ∀ cls args, Re cls args → Catches C cls)
    (suite : ∀ cls args, Re cls args → ∀ e, HX C (Γ.set i (some (.im (.raw (.ref e))))) e cls args re P) :
    BX1 C Γ (.Try b [.ExceptHandler (some (.Name "ValueError" px)) (some n) [.Return (some re) rpos] hpos] [] [] pos) P := fun k s Q E S hP => by
  refine wpAny_Try_except (hB k s _ _ S (fun Γ' hp h' tk S' => wpAny_execs_nil (hP _ (next Γ' hp) h' tk S')) fun cls args hr e h₀ h' tk S₀ x => ?_)
  refine exc_noted (s := ⟨h', s.gens, s.drawn, tk, s.os⟩) O hfs hf x fun h1 hh => ?_
  refine held_fl (s := ⟨h1, s.gens, s.drawn, tk, s.os⟩) hh fun h2 f2 => ?_
  have S2 : St C k Γ h2 := S₀.ext' (exc_ext f2.exc)
  have hob : ∃ ob, h2.get? e = some ob ∧ ob.cls = cls := f2.fe.elim fun vs z => z.elim fun t z => z.2.2.1.elim fun o z => z.elim fun ws z => ⟨o, z.1, z.2.1⟩
  have hs2 : C.b0.StaysIn h2 := S2.inv.base
  have suit : ∀ (R : Result → Shared → Prop), (∀ i, (∀ v, i ≠ .raw v) → P (.ret (.im i) true) → ∀ w h3 tk3, (∃ Γ', St C k Γ' h3) → IRep i w → R (.ok (.ret w)) ⟨h3, s.gens, s.drawn, tk3, s.os⟩) →
      codeAny C.M (C.A.mark (some (.ref e))) (.handlers (.ref e) [.ExceptHandler none (some n) [.Return (some re) rpos] hpos] C.ev) R ⟨h2, s.gens, s.drawn, tk, s.os⟩ := fun R hR => by
    refine codeAny_handlers_suite_as (fl_fl (s := ⟨h2, s.gens, s.drawn, tk, s.os⟩) f2 fun h3 f3 => ?_)
    have S3 : St C k Γ h3 := S₀.ext' (exc_ext f3.exc)
    obtain ⟨Ws, V⟩ := S3.vars
    refine store0' (s := ⟨h3, s.gens, s.drawn, tk, s.os⟩) O S3.toSt0 (.inl hloc) fun h4 tk4 S4 rx ro st => ?_
    have hi : i < Γ.length := by rw [S3.len]; exact (List.getElem?_eq_some_iff.mp hx).1
    have S4' : St C k (Γ.set i (some (.im (.raw (.ref e))))) h4 := ⟨S4, ⟨_, vars_set O V hx (fun j hj => get_set_ne hj) (get_set_self' hi) hm rx ro st rfl (fun q => by cases q) (fun l q => by cases q) (fun _ _ q => by cases q)⟩, by rw [List.length_set]; exact S3.len⟩
    refine wpAny_execs_cons (wpAny_Return_some (suite cls args hr e ⟨h4, s.gens, s.drawn, tk4, s.os⟩ _ _ S4'.inv (f3.fe.still st) fun j nr hp w h5 tk5 x5 r5 => ?_))
    exact hR j nr hp w h5 tk5 ⟨_, S4'.ext' x5⟩ r5
  refine wpAny_handleBy_cons (codeAny_handlers_test ?_) (by intro q; cases q)
  have hg := ns_stays hs2 O.hg
  have hb := ns_stays hs2 O.hb
  refine Calls.Name_function_global O.kind hk ?_ (by decide)
  have big : codeAny C.M (C.A.mark (some (.ref e))) (.handlers (.ref e) [.ExceptHandler none (some n) [.Return (some re) rpos] hpos] C.ev) (fun r s₂ => match r with
          | .ok f => wpAny C.M C.A (do bindName C.ev n .none; unbindBehindTheSuite C.ev n hpos) (fun _ s₃ => Q f s₃) E s₂
          | .error x => cameBackBy C.M C.A C.ev E x s₂) ⟨h2, s.gens, s.drawn, tk, s.os⟩ := by
    refine suit _ fun j nr hp w h5 tk5 hS5 r5 => ?_
    obtain ⟨Γ', S5⟩ := hS5
    obtain ⟨m, hn, hkL, hLf⟩ := S5.loc
    refine wpAny_nameGoes (s := ⟨h5, s.gens, s.drawn, tk5, s.os⟩) hloc hn (by rw [O.kind]; rfl) fun h6 m6 hn6 hs6 => ?_
    refine hP _ hp w h6 _ ⟨fun b o nb q => (hs6.2 b fun z => nb (z ▸ hLf)).trans (S5.ext.keep b o nb q), fun b o q nf => ?_⟩ ?_ r5 fun _ => ⟨fun a q => ?_, fun a q => ?_⟩
    · obtain ⟨sl, q'⟩ := S5.ext.slots b o q nf
      refine ⟨sl, (hs6.2 b fun z => ?_).trans q'⟩
      rw [z, hkL] at q; cases q
    · refine funFrames_same (fun b nb => hs6.2 b nb) ?_ S5.frames
      obtain ⟨o, es, ep, ho, hd, _⟩ := hn6
      exact ⟨o, ho, fun vs q => by rw [hd] at q; cases q⟩
    · subst q; cases j <;> simp [IRep] at r5; exact absurd rfl (nr _)
    · subst q; cases j <;> simp [IRep] at r5; exact absurd rfl (nr _)
  rcases hv with hv | ⟨hn, hv⟩
  · exact Calls.loadGlobal_global (by rw [O.globals]; exact hg) hv (caught cls args hr _ _ _ ⟨h2, s.gens, s.drawn, tk, s.os⟩ e hs2 hob big)
  · exact Calls.loadGlobal_builtin (by rw [O.globals]; exact hg) hn (by rw [O.builtins]; exact hb) hv (caught cls args hr _ _ _ ⟨h2, s.gens, s.drawn, tk, s.os⟩ e hs2 hob big)
end
end Mine
end
section
set_option maxRecDepth 100000
set_option maxHeartbeats 4000000
set_option linter.unusedVariables false
namespace Mine
section
variable {C : Ctx} {Γ : Gam} {P : Out → Prop}
theorem HX.told {e : Addr} {cls : Value} {args : List I} {px px2 px3 cp pos pos2 pos3 pos4 : Pos} {n : Int} (O : C.Ok) (hi : Γ.length = 5) (h0 : Γ[0]? = some (some (vi n))) (hn0 : C.names[0]? = some ("which" : Str)) (hn4 : C.names[4]? = some ("error_v" : Str))
    (hk : C.ev.kindOf "str" = some .globalImplicit) (hv : C.Glob "str" (.type "str"))
    (h1 : n < 4 → ∃ m, cls = .type "ValueError" ∧ args = [.str m] ∧ P (.ret (.im (.str m)) true)) (h2 : ¬ n < 4 → P (.ret (.im (.bool false)) true)) :
    HX C (Γ.set 4 (some (.im (.raw (.ref e))))) e cls args (.IfExp (.Compare (.Name "which" px) [.Lt] [.Constant (.int 4) 0 pos] pos2) (.Call (.Name "str" px2) [.Name "error_v" px3] [] cp) (.Constant (.bool false) 0 pos3) pos4) P := fun s Q E I F h => by
  let C' : Ctx := { C with A := C.A.mark (some (.ref e)) }
  have O' : C'.Ok0 := ⟨O.glo, O.kind, O.globals, O.builtins⟩
  have I' : Inv C' (Γ.set 4 (some (.im (.raw (.ref e))))) s.heap := ⟨I.base, I.frames, I.vars, I.owns⟩
  show wpAny C'.M C'.A (eval _ C'.ev) Q E s
  have hw : (Γ.set 4 (some (V.im (.raw (.ref e)))))[0]? = some (some (vi n)) := by rw [List.getElem?_set_ne (by decide)]; exact h0
  have he : (Γ.set 4 (some (V.im (.raw (.ref e)))))[4]? = some (some (.im (.raw (.ref e)))) := by rw [List.getElem?_set_self (by lia)]
  refine wpAny_IfExp ((ST.cmp (SE.nm (C := C') (i := 0) O' hn0 hw (by decide)) (TC.one SE.const_int cmp_lt rfl)) s _ E I' fun h₁ t₁ x₁ => ?_)
  have I₁ := I'.ext x₁
  have F₁ := F.ext (show Ext C.fs s.heap h₁ from x₁)
  by_cases hlt : n < 4
  · rw [decide_eq_true hlt]
    obtain ⟨m, rfl, rfl, hp⟩ := h1 hlt
    show wpAny C'.M C'.A (eval (.Name "str" px2) C'.ev >>= fun f => callWith cp f [] (backTo cp (starEach [.Name "error_v" px3] C'.ev)) (backToKw cp (keywordEach [] C'.ev))) Q E _
    refine wpAny_bind (SE.glob (Γ := Γ.set 4 (some (.im (.raw (.ref e))))) O' hk hv (by decide) ⟨h₁, s.gens, s.drawn, t₁, s.os⟩ _ E I₁ fun w h₂ t₂ x₂ r₂ _ => ?_)
    obtain rfl : w = .type "str" := r₂
    have I₂ := I₁.ext x₂
    have F₂ := F₁.ext (show Ext C.fs h₁ h₂ from x₂)
    refine callWith_ok (C := C') (s := ⟨h₂, s.gens, s.drawn, t₂, s.os⟩) (noStars_of rfl) rfl rfl (.one (SE.nm (C := C') (i := 4) O' hn4 he (by decide)) rfl) SKs.nil I₂ (fun h' hb => looks_machine (by intro a q; cases q)) fun ws kw h₃ t₃ x₃ r₃ _ => ?_
    have F₃ := F₂.ext (show Ext C.fs h₂ h₃ from x₃)
    cases r₃ with
    | cons rv r₃ =>
      cases r₃
      obtain rfl := (rv : _ = _)
      obtain ⟨vs, t, ha, hne, ⟨o, ws, ho, hc, hd, hz⟩, ht⟩ := F₃
      obtain ⟨v, rfl, hv'⟩ := all2_one ha
      obtain ⟨u, rfl⟩ := hv'
      refine PySem.P.str_of_exc_one PySem.F.excStr_ValueError ?_ ⟨o, ws, ho, hc, hd, hz⟩ ht ?_
      · have := O.units
        show C.A.units + 2 < cLine
        lia
      · exact h _ (fun v q => by cases q) hp _ h₃ t₃ ((x₁.trans x₂).trans x₃) ⟨u, rfl⟩
  · rw [decide_eq_false hlt]
    refine SE.const_bool (C := C') (Γ := Γ.set 4 (some (.im (.raw (.ref e))))) ⟨h₁, s.gens, s.drawn, t₁, s.os⟩ Q E I₁ fun w h₂ t₂ x₂ r₂ _ => ?_
    exact h _ (fun v q => by cases q) (h2 hlt) w h₂ t₂ (x₁.trans x₂) r₂
end
end Mine
end
section
set_option maxRecDepth 100000
set_option maxHeartbeats 4000000
set_option linter.unusedVariables false
namespace Mine
variable {G : Glo} {pm cd : Value}
/-- what a told value says of a call's end -/
noncomputable def AI (a : I) (o : RO) : Prop := (∃ b, a = .bytes b ∧ o = .ret (vy b) true) ∨ (∃ m, a = .str m ∧ o = .exc (.type "ValueError") [.str m])
noncomputable def kwP : Option (List UInt8) → List (Str × V)
  | none => []
  | some p => [("ignorechars", vy p)]
noncomputable def t64 (row : List UInt8) : I := match A64 row with
  | none => .bool false
  | some b => .bytes (toB b)
theorem sp_told {lt : Nat} (GO : G.Ok) (W : Gl G) (n : Int) (hn : 0 ≤ n ∧ n < 6) (row : List UInt8) (po : Option (List UInt8)) (tv : I)
    (F16 : FnAt G 183) (S16 : Spec G lt 183 [vy row] [] (A16 row)) (F64 : FnAt G 168) (S64 : Spec G lt 168 [vy row] [("validate", vb true)] (A2b row))
    (F85 : FnAt G 191) (S85 : n < 4 → Spec G lt 191 [vy row] (("foldspaces", vb (n % 2 == 1)) :: ("adobe", vb (n / 2 == 1)) :: kwP po) (AI tv)) (t4 : n = 4 → tv = f16 row) (t5 : n = 5 → tv = t64 row)
    (F : FnOk G 246 (mkFd 39 "_law_told" .none .none pm cd) (fB 39) ["which", "row", "passed"] ["which", "row", "passed", "told", "error_v"]) : Spec G (lt + 1) 246 [vi n, vy row, .im (pI po)] [] (fun o => o = .ret (.im tv) true) := by
  refine Spec.of_body (vs' := [vi n, vy row, .im (pI po)]) GO F (show ∀ x ∈ (fS 39).names, x.2 ≠ .cell by decide) rfl (noMeths_im (l := [.int n, .bytes row, pI po])) (fun s ws kw _ h h2 => ?_) fun A fs L O => ?_
  · obtain ⟨w1, w2, w3, rfl, r1, r2, r3⟩ := all2_three h
    exact ⟨_, .cons r1 (.cons r2 (.cons r3 .nil)), .of_eq rfl⟩
  show BX _ [some (vi n), some (vy row), some (.im (pI po)), none, none] _ _
  refine BX.cons (BX1.tryas (i := 4) (Pn := fun Γ' => ∃ b, tv = .bytes b ∧ Γ' = [some (vi n), some (vy row), some (.im (pI po)), some (vy b), none])
    (Re := fun cls args => (n < 4 → ∃ m, cls = .type "ValueError" ∧ args = [.str m] ∧ tv = .str m) ∧ (¬ n < 4 → tv = .bool false) ∧ (cls = .type "ValueError" ∨ cls = .ref 82))
    O rfl rfl rfl W.vErr rfl rfl (noMeth_of rfl) ?_ ?_ ?_ ?_)
  · refine TB.ite (ST.cmp (SE.nm (i := 0) O.toOk0 rfl rfl (by decide)) (TC.one SE.const_int cmp_eq rfl)) (fun h => ?_) fun h => ?_
    · simp only [beq_iff_eq] at h
      have q : tv = f16 row := t4 h
      refine TB.assignX (i := 3) O (SX.call O rfl W.fD16 (by decide) F16 rfl rfl rfl (.one (SE.nm (i := 1) O.toOk0 rfl rfl (by decide)) rfl) .nil S16 rfl) rfl (.inl rfl) (noMeth_of rfl) rfl (fun v fr r => ?_) (fun v fr r => ?_) fun cls args r => ?_
      · unfold A16 at r; split at r
        · cases r; exact ⟨_, rfl⟩
        · obtain ⟨m, r⟩ := r; cases r
      · unfold A16 at r; split at r
        · cases r; rename_i hc; exact ⟨_, by rw [q]; unfold f16; rw [if_pos hc], rfl⟩
        · obtain ⟨m, r⟩ := r; cases r
      · unfold A16 at r; split at r
        · cases r
        · obtain ⟨m, r⟩ := r; cases r; rename_i hc; exact ⟨fun hl => by lia, fun _ => by rw [q]; unfold f16; rw [if_neg hc], .inr rfl⟩
    simp only [beq_eq_false_iff_ne, ne_eq] at h
    refine TB.ite (ST.cmp (SE.nm (i := 0) O.toOk0 rfl rfl (by decide)) (TC.one SE.const_int cmp_eq rfl)) (fun h5 => ?_) fun h5 => ?_
    · simp only [beq_iff_eq] at h5
      have q : tv = t64 row := t5 h5
      refine TB.assignX (i := 3) O (SX.call (kvs := [vb true]) O rfl W.fD64 (by decide) F64 rfl rfl rfl (.one (SE.nm (i := 1) O.toOk0 rfl rfl (by decide)) rfl) (.cons SE.const_bool .nil) S64 rfl) rfl (.inl rfl) (noMeth_of rfl) rfl (fun v fr r => ?_) (fun v fr r => ?_) fun cls args r => ?_
      · unfold A2b at r; split at r
        · obtain ⟨m, r⟩ := r; cases r
        · cases r; exact ⟨_, rfl⟩
      · unfold A2b at r; split at r
        · obtain ⟨m, r⟩ := r; cases r
        · cases r; rename_i b hb; exact ⟨_, by rw [q]; unfold t64; rw [hb], rfl⟩
      · unfold A2b at r; split at r
        · obtain ⟨m, r⟩ := r; cases r; rename_i hb; exact ⟨fun hl => by lia, fun _ => by rw [q]; unfold t64; rw [hb], .inr rfl⟩
        · cases r
    · simp only [beq_eq_false_iff_ne, ne_eq] at h5
      have hlt : n < 4 := by lia
      cases po with
      | none =>
        refine TB.ite (b := true) (ST.eq (ST.cmp (SE.nm (i := 2) O.toOk0 rfl rfl (by decide)) (TC.one SE.const_none (cmp_is_none (by intro v q; cases q)) rfl)) rfl) (fun _ => ?_) (fun e => by cases e)
        refine TB.assignX (i := 3) O (SX.call (kvs := [vb (n % 2 == 1), vb (n / 2 == 1)]) O rfl W.fA85 (by decide) F85 rfl rfl rfl (.one (SE.nm (i := 1) O.toOk0 rfl rfl (by decide)) rfl) (.cons (SE.cmp (SE.binop (SE.nm (i := 0) O.toOk0 rfl rfl (by decide)) SE.const_int (op_mod (by decide))) SE.const_int cmp_eq rfl) (.cons (SE.cmp (SE.binop (SE.nm (i := 0) O.toOk0 rfl rfl (by decide)) SE.const_int (op_div (by decide) (by decide))) SE.const_int cmp_eq rfl) .nil)) (S85 hlt) rfl) rfl (.inl rfl) (noMeth_of rfl) rfl (fun v fr r => ?_) (fun v fr r => ?_) fun cls args r => ?_
        · rcases r with ⟨b, hb, r⟩ | ⟨m, hm, r⟩
          · cases r; exact ⟨_, rfl⟩
          · cases r
        · rcases r with ⟨b, hb, r⟩ | ⟨m, hm, r⟩
          · cases r; exact ⟨b, hb, rfl⟩
          · cases r
        · rcases r with ⟨b, hb, r⟩ | ⟨m, hm, r⟩
          · cases r
          · cases r; exact ⟨fun _ => ⟨m, rfl, rfl, hm⟩, fun q => absurd hlt q, .inl rfl⟩
      | some p =>
        refine TB.ite (b := false) (ST.eq (ST.cmp (SE.nm (i := 2) O.toOk0 rfl rfl (by decide)) (TC.one SE.const_none (cmp_is_none (by intro v q; cases q)) rfl)) rfl) (fun e => by cases e) (fun _ => ?_)
        refine TB.assignX (i := 3) O (SX.call (kvs := [vb (n % 2 == 1), vb (n / 2 == 1), vy p]) O rfl W.fA85 (by decide) F85 rfl rfl rfl (.one (SE.nm (i := 1) O.toOk0 rfl rfl (by decide)) rfl) (.cons (SE.cmp (SE.binop (SE.nm (i := 0) O.toOk0 rfl rfl (by decide)) SE.const_int (op_mod (by decide))) SE.const_int cmp_eq rfl) (.cons (SE.cmp (SE.binop (SE.nm (i := 0) O.toOk0 rfl rfl (by decide)) SE.const_int (op_div (by decide) (by decide))) SE.const_int cmp_eq rfl) (.cons (SE.nm (i := 2) O.toOk0 rfl rfl (by decide)) .nil))) (S85 hlt) rfl) rfl (.inl rfl) (noMeth_of rfl) rfl (fun v fr r => ?_) (fun v fr r => ?_) fun cls args r => ?_
        · rcases r with ⟨b, hb, r⟩ | ⟨m, hm, r⟩
          · cases r; exact ⟨_, rfl⟩
          · cases r
        · rcases r with ⟨b, hb, r⟩ | ⟨m, hm, r⟩
          · cases r; exact ⟨b, hb, rfl⟩
          · cases r
        · rcases r with ⟨b, hb, r⟩ | ⟨m, hm, r⟩
          · cases r
          · cases r; exact ⟨fun _ => ⟨m, rfl, rfl, hm⟩, fun q => absurd hlt q, .inl rfl⟩
  · rintro Γ' ⟨b, hb, rfl⟩
    show BX _ [some (vi n), some (vy row), some (.im (pI po)), some (vy b), none] _ _
    exact BX.cons (BX1.reti (SE.ifexp (b := true) (ST.val (SE.callB O.toOk0 rfl W.bIs (by decide) (by intro a q; cases q) rfl (.two (SE.nm (i := 3) O.toOk0 rfl rfl (by decide)) rfl (SE.glob O.toOk0 rfl W.tBytes (by decide)) rfl) (co_isinst_bytes (i := .bytes b) (by intro v q; cases q) (by intro v q; cases q))) tr_bool (fun _ _ => rfl)) (fun _ => SE.nm (i := 3) O.toOk0 rfl rfl (by decide)) (fun e => by cases e)) nr_bytes (by show _ = _; rw [hb]))
  · rintro cls args ⟨_, _, rfl | rfl⟩
    · exact catches_self
    · exact catches_own W.oErr
  · intro cls args hr e
    refine HX.told O rfl rfl rfl rfl rfl W.tStr (fun hlt => ?_) fun hlt => ?_
    · obtain ⟨m, h1, h2, h3⟩ := hr.1 hlt
      exact ⟨m, h1, h2, by show _ = _; rw [h3]⟩
    · show _ = _
      rw [hr.2.1 hlt]
end Mine
end
section
set_option maxRecDepth 100000
set_option maxHeartbeats 4000000
set_option linter.unusedVariables false
namespace Mine
open Builtin in
noncomputable def fitsE (b sub : Array UInt8) (atEnd : Bool) : Bool :=
  let (lo, hi) := Bytes.window b.size none none
  if hi - lo < sub.size then false
    else if atEnd then b.extract (hi.toNat - sub.size) hi.toNat == sub
    else b.extract lo.toNat (lo.toNat + sub.size) == sub
open Builtin in
theorem ends_road (b c : Array UInt8) (t u : Tok) : «bytes.endswith» ⟨[.bytes b t, .bytes c u], []⟩ = ret (.bool (fitsE b c true)) := by first | rfl | kernel_rfl
open Builtin in
theorem starts_road (b c : Array UInt8) (t u : Tok) : «bytes.startswith» ⟨[.bytes b t, .bytes c u], []⟩ = ret (.bool (fitsE b c false)) := by first | rfl | kernel_rfl
theorem fits_end (b c : List UInt8) : fitsE b.toArray c.toArray true = (decide (c.length ≤ b.length) && (b.drop (b.length - c.length) == c)) := by
  unfold fitsE Builtin.Bytes.window
  simp only [Option.getD_none, List.size_toArray, Int.lt_irrefl, if_false, if_true]
  rw [if_neg (show ¬ ((b.length : Int) < 0) by lia), Int.min_self]
  by_cases h : c.length ≤ b.length
  · rw [if_neg (by lia), decide_eq_true h, Bool.true_and]
    simp only [Int.toNat_natCast, List.extract_toArray, List.extract_eq_take_drop]
    rw [List.take_of_length_le (by rw [List.length_drop]; lia)]
    rw [Bool.eq_iff_iff]; simp
  · rw [if_pos (by lia), decide_eq_false h, Bool.false_and]
theorem fits_start (b c : List UInt8) : fitsE b.toArray c.toArray false = (decide (c.length ≤ b.length) && (b.take c.length == c)) := by
  unfold fitsE Builtin.Bytes.window
  simp only [Option.getD_none, List.size_toArray, Int.lt_irrefl, if_false, Bool.false_eq_true]
  rw [if_neg (show ¬ ((b.length : Int) < 0) by lia), Int.min_self]
  by_cases h : c.length ≤ b.length
  · rw [if_neg (by lia), decide_eq_true h, Bool.true_and]
    simp only [Int.toNat_zero, Nat.zero_add, List.extract_toArray, List.extract_eq_take_drop, List.drop_zero, Nat.sub_zero]
    rw [Bool.eq_iff_iff]; simp
  · rw [if_pos (by lia), decide_eq_false h, Bool.false_and]
end Mine
end
section
set_option maxRecDepth 100000
set_option maxHeartbeats 4000000
set_option linter.unusedVariables false
namespace Mine
open Builtin Builtin.Str
theorem pchar (n : Int) (u : Tok) (h0 : 0 ≤ n) (h1 : n < 256) : percentChar (.int n u) = pure n.toNat := by
  have e : percentChar (.int n u) = (do if n < 0 || n > 0x10FFFF then rule "str.__mod__.c-out-of-range"; raiseError "OverflowError" "%c arg not in range(0x110000)"
                                        pure n.toNat) := by first | rfl | kernel_rfl
  rw [e]
  have hc : (decide (n < 0) || decide (n > 1114111)) = false := by
    rw [decide_eq_false (by omega), decide_eq_false (by omega)]; rfl
  rw [hc]; rfl
theorem fmtC_eq : ("Non-Ascii85 digit found: %c" : Str) = ⟨#[78, 111, 110, 45, 65, 115, 99, 105, 105, 56, 53, 32, 100, 105, 103, 105, 116, 32, 102, 111, 117, 110, 100, 58, 32, 37, 99]⟩ := by decide +kernel
theorem mod_c (n : Int) (t u : Tok) (h0 : 0 ≤ n) (h1 : n < 256) : Meets («str.__mod__» ⟨[.str ⟨#[78, 111, 110, 45, 65, 115, 99, 105, 105, 56, 53, 32, 100, 105, 103, 105, 116, 32, 102, 111, 117, 110, 100, 58, 32, 37, 99]⟩ t, .int n u], []⟩) (fun _ R s => ∀ t' k, R (.ok (.ret (.str (("Non-Ascii85 digit found: " : Str) ++ (⟨#[n.toNat]⟩ : Str)) t'))) { s with toks := k }) := by
  apply KPc.meets_of
  intro _ _ _ _ _ _ _
  rw [KPc.entry_is]
  unfold Builtin.Str.percentFormat
  refine wpAny_bind (wpAny_isInstance (typeIs_int _ _ _) F.sub_int_tuple ?_)
  refine wpAny_bind (wpAny_of_eq (a := none) rfl ?_)
  refine wpAny_bind (wpAny_of_eq (KPc.fills _ _) ?_)
  kpc_if
  refine wpAny_bind (wpAny_pure ?_)
  refine wpAny_bind ?_
  rw [KPc.range_list]
  refine KPc.start ?_
  intro _ _
  refine KPc.turn ?_
  kpc_check
  repeat kpc_if
  refine wpAny_pure ?_
  kpc_piece
  refine KPc.turn ?_
  kpc_check
  repeat kpc_if
  refine wpAny_bind ?_
  refine wpAny_holding ?_
  repeat kpc_if
  refine wpAny_bind (wpAny_of_eq (pchar n u h0 h1) ?_)
  refine wpAny_pure ?_
  refine wpAny_pure ?_
  refine KPc.after_str (y := (⟨#[n.toNat]⟩ : Str)) (K := 1) (by kpc_g) (Nat.le_refl 1) (by kpc_obj) ?_
  intro _ _
  kpc_turns
end Mine
end
section
set_option maxRecDepth 100000
set_option maxHeartbeats 4000000
set_option linter.unusedVariables false
namespace Mine
open Builtin Builtin.Str
theorem fmtR_eq : ("Ascii85 encoded byte sequences must end with {!r}" : Str) = ⟨#[65, 115, 99, 105, 105, 56, 53, 32, 101, 110, 99, 111, 100, 101, 100, 32, 98, 121, 116, 101, 32, 115, 101, 113, 117, 101, 110, 99, 101, 115, 32, 109, 117, 115, 116, 32, 101, 110, 100, 32, 119, 105, 116, 104, 32, 123, 33, 114, 125]⟩ := by decide +kernel
theorem slot_bytes_repr : Slot "bytes" "__repr__" "bytes.__repr__" :=
  .of (owner := "bytes") (n := "__repr__") (by rw [typeLookup_type, builtinLookup_eq_fast]; kernel_rfl) (by decide +kernel) (by decide +kernel) (by decide +kernel)
    (by first | exact .inl (by decide +kernel) | exact .inr (by decide +kernel)) (by rw [isSubtype_type]; kernel_rfl)
theorem entry_bytes_repr : entryFor table "bytes.__repr__" = some Builtin.«bytes.__repr__» := entryFor_of_tree (by kernel_rfl)
theorem args_bytes_repr (a : Value) : argsOk "bytes.__repr__" ⟨[a], []⟩ := by unfold argsOk; kernel_rfl
theorem repr_road (u : Tok) : «bytes.__repr__» ⟨[.bytes #[126, 62] u], []⟩ = (Bytes.literalAsked #[126, 62] >>= fun x => retStr x) := by first | rfl | kernel_rfl
theorem format_road (F : Str) (t : Tok) (v : Value) : «str.format» ⟨[.str F t, v], []⟩ = (do
   let byName (k : Str) : Sem Value := match ([] : List (Str × Value)).lookup k with
    | some v => pure v
    | none => do rule "str.format.no-such-keyword"; raiseNew (← newExc (.type "KeyError") [← mkStr k])
   let (w, _) ← buildString "str.format" (some #[v]) byName 2 F.cps.toList (some (.str F t)) .unset
   w.finish "str.format") := by first | rfl | kernel_rfl
theorem mk_lit : nextMarkup [65, 115, 99, 105, 105, 56, 53, 32, 101, 110, 99, 111, 100, 101, 100, 32, 98, 121, 116, 101, 32, 115, 101, 113, 117, 101, 110, 99, 101, 115, 32, 109, 117, 115, 116, 32, 101, 110, 100, 32, 119, 105, 116, 104, 32, 123, 33, 114, 125] = .ok ([65, 115, 99, 105, 105, 56, 53, 32, 101, 110, 99, 111, 100, 101, 100, 32, 98, 121, 116, 101, 32, 115, 101, 113, 117, 101, 110, 99, 101, 115, 32, 109, 117, 115, 116, 32, 101, 110, 100, 32, 119, 105, 116, 104, 32], some { name := [], conversion := some 114 }, []) := by first | rfl | kernel_rfl
theorem fld (id : String) (v : Value) (bn : Str → Sem Value) : fieldObject id (some #[v]) bn [] .unset = pure (v, .auto 1) := by first | rfl | kernel_rfl
theorem gives_repr (u : Tok) : Gives («bytes.__repr__» ⟨[.bytes #[126, 62] u], []⟩) (.str ⟨#[98, 39, 126, 62, 39]⟩) := by
  refine .of_wp fun M A E s Q hq => ?_
  rw [repr_road]
  refine wpAny_bind (wpAny_of_eq (a := ⟨#[98, 39, 126, 62, 39]⟩) (by first | rfl | kernel_rfl) ?_)
  exact wpAny_bind (wpAny_mkStr (wpAny_pure ⟨_, rfl, hq.2⟩) hq.1)
theorem fmt_of (x : Str) (t : Tok) : formatOf (.str x t) ⟨#[]⟩ = pure (.str x t) := by first | rfl | kernel_rfl
theorem format_r (t u : Tok) (prog : Program) (w : World) (A : Around) (s : Shared) (Q : PySem.Fin → Shared → Prop) (E : Value → Shared → Prop) (h : ∀ t' k, Q (.done (.ret (.str "Ascii85 encoded byte sequences must end with b'~>'" t'))) { s with toks := k }) : wpAny (model prog w) A («str.format» ⟨[.str ⟨#[65, 115, 99, 105, 105, 56, 53, 32, 101, 110, 99, 111, 100, 101, 100, 32, 98, 121, 116, 101, 32, 115, 101, 113, 117, 101, 110, 99, 101, 115, 32, 109, 117, 115, 116, 32, 101, 110, 100, 32, 119, 105, 116, 104, 32, 123, 33, 114, 125]⟩ t, .bytes #[126, 62] u], []⟩) Q E s := by
  rw [format_road]
  refine wpAny_bind ?_
  unfold buildString
  dsimp only
  rw [KPc.range_list]
  refine wpAny_bind ?_
  refine KPc.turn ?_
  kpc_if
  kpc_if
  rw [mk_lit]
  dsimp only
  rw [fld]
  refine wpAny_bind (wpAny_pure ?_)
  refine wpAny_bind (wpAny_holding ?_)
  show wpAny _ _ (pyReprObj (Value.bytes #[126, 62] u)) _ _ _
  refine wpAny_pyReprObj_gives (x := ⟨#[98, 39, 126, 62, 39]⟩) (typeIs_bytes _ _ _) slot_bytes_repr entry_bytes_repr (args_bytes_repr _) (gives_repr u) ?_
  kpc_if
  refine wpAny_bind (wpAny_pure ?_)
  refine wpAny_bind (wpAny_holding ?_)
  refine wpAny_of_eq (fmt_of _ _) ?_
  refine wpAny_bind (wpAny_of_eq (a := some ⟨#[98, 39, 126, 62, 39]⟩) rfl ?_)
  refine wpAny_pure ?_
  refine KPc.turn ?_
  kpc_if
  refine wpAny_pure ?_
  refine wpAny_pure ?_
  refine KPc.finish_ok (T := "Ascii85 encoded byte sequences must end with b'~>'") (N := 100) ⟨KPc.obj_none (by first | rfl | kernel_rfl), (show (50 : Nat) ≤ 100 by decide), by first | rfl | kernel_rfl, by decide +kernel⟩ (by decide) rfl ?_
  exact fun t' k => h t' k
end Mine
end
section
set_option maxRecDepth 100000
set_option maxHeartbeats 4000000
set_option linter.unusedVariables false
namespace Mine
namespace B
theorem mro_struct : mroOf (.type "_struct.Struct") = pure [.type "_struct.Struct", .type "object"] := by rw [mroOf_type]; kernel_rfl
theorem lookup_struct_new : typeLookup (.type "_struct.Struct") "__new__" = pure (some (.builtin "_struct.Struct.__new__")) := by rw [typeLookup_type, builtinLookup_eq_fast]; kernel_rfl
theorem slot_struct_init : Slot "_struct.Struct" "__init__" "_struct.Struct.__init__" :=
  .of (owner := "_struct.Struct") (n := "__init__") (by rw [typeLookup_type, builtinLookup_eq_fast]; kernel_rfl) (by decide +kernel) (by decide +kernel) (by decide +kernel)
    (by first | exact .inl (by decide +kernel) | exact .inr (by decide +kernel)) (by rw [isSubtype_type]; kernel_rfl)
theorem called_struct : TypeCalled "_struct.Struct" "_struct.Struct.__new__" "_struct.Struct.__init__" :=
  ⟨by decide +kernel, by decide +kernel, ⟨_, _, mro_struct⟩, madeBy_type mro_struct lookup_struct_new (by decide +kernel), by decide +kernel, by rw [isSubtype_type]; kernel_rfl, slot_struct_init⟩
theorem typeCall_struct (a : Value) : checkTypeCall "_struct.Struct" ⟨[a], []⟩ = pure () := by first | rfl | kernel_rfl
theorem newCall_struct (a : Value) : checkBuiltinCall "_struct.Struct.__new__" ⟨[.type "_struct.Struct", a], []⟩ = pure () := by first | rfl | kernel_rfl
theorem entry_struct_new : entryFor table "_struct.Struct.__new__" = some Builtin.«_struct.Struct.__new__» := entryFor_of_tree (by kernel_rfl)
theorem entry_struct_init : entryFor table "_struct.Struct.__init__" = some Builtin.«_struct.Struct.__init__» := entryFor_of_tree (by kernel_rfl)
theorem plain_struct_new : plainId "_struct.Struct.__new__" = true := by decide +kernel
theorem args_struct_init (a b : Value) : argsOk "_struct.Struct.__init__" ⟨[a, b], []⟩ := by unfold argsOk; kernel_rfl
theorem sub_struct : isSubtype (.type "_struct.Struct") (.type "_struct.Struct") = pure true := by rw [isSubtype_type]; kernel_rfl
open Builtin in
theorem parse_I : Struct.parse #[33, 73] = pure { bigEndian := true, native := false, codes := [⟨'I', 1, 0, 4⟩], size := 4, items := 1 } := by first | rfl | kernel_rfl
open Builtin in
theorem fbytes (t : Tok) : Struct.formatBytes (.str ⟨#[33, 73]⟩ t) = pure #[33, 73] := by first | rfl | kernel_rfl
end B
noncomputable abbrev structO (v : Value) : Obj := { cls := .type "_struct.Struct", data := .fields #[v] }
section
variable {prog : Program} {w : World} {A : Around} {E : Value → Shared → Prop} {s : Shared}
theorem code_struct_new (a : Value) {Q₁ : Value → Shared → Prop}
    (h : Q₁ (.ref s.heap.objs.size) { s with heap := s.heap.push (structO .none) }) :
    codeAny (model prog w) A (.call (.builtin "_struct.Struct.__new__") ⟨[.type "_struct.Struct", a], []⟩) (wants Q₁ E) s := by
  refine codeAny_of_tree ?_
  show wpAny _ A.in1 (do checkBuiltinCall "_struct.Struct.__new__" ⟨[.type "_struct.Struct", a], []⟩; again (.builtin "_struct.Struct.__new__" ⟨[.type "_struct.Struct", a], []⟩)) _ _ s
  refine wpAny_bind (wpAny_of_eq (B.newCall_struct a) (wpAny_pure ⟨plainId_quiet B.plain_struct_new _, codeAny_builtin B.entry_struct_new ?_⟩))
  rw [Around.under_plainId B.plain_struct_new _]
  have hsub := B.sub_struct
  unfold Builtin.«_struct.Struct.__new__»
  dsimp only
  refine wpAny_bind (m := isType _) (wpAny_of_eq (a := true) rfl ?_)
  simp only [Bool.not_true, Bool.false_eq_true, if_false]
  refine wpAny_bind (wpAny_of_eq hsub ?_)
  simp only [Bool.not_true, Bool.false_eq_true, if_false]
  refine wpAny_bind (wpAny_newObj_type (wpAny_pure ?_))
  exact h
theorem under_way {v : Value} {Q : Bool → Shared → Prop} (hg : A.guards = some []) (h : Q false s) : wpAny (model prog w) A (Builtin.Struct.packUnderWay v) Q E s := by
  unfold Builtin.Struct.packUnderWay
  refine wpAny_stackAny_false hg (fun c p hc => ?_) (fun c hc => by cases hc) h
  unfold Builtin.Struct.packUnderWay.match_1
  cases c with
  | builtin id args =>
    have h1 : id ≠ "_struct.Struct.pack" := fun q => absurd (show guardIds.contains "_struct.Struct.pack" = false from q ▸ hc) (by decide)
    have h2 : id ≠ "_struct.pack_into.held" := fun q => absurd (show guardIds.contains "_struct.pack_into.held" = false from q ▸ hc) (by decide)
    exact (dif_neg h1).trans (dif_neg h2)
  | _ => rfl
theorem call_struct {t : Tok} {Q : Value → Shared → Prop} (hg : A.guards = some []) (h : ∀ h' tk u, (∀ b o, s.heap.get? b = some o → h'.get? b = some o) → s.heap.get? s.heap.objs.size = none → h'.get? s.heap.objs.size = some (structO (.bytes #[33, 73] u)) → Q (.ref s.heap.objs.size) { s with heap := h', toks := tk }) :
    wpAny (model prog w) A (call (.type "_struct.Struct") [.str ⟨#[33, 73]⟩ t]) Q E s := by
  refine callType_codes (Q₁ := fun obj s₁ => obj = .ref s.heap.objs.size ∧ s₁ = { s with heap := s.heap.push (structO .none) }) B.called_struct (B.typeCall_struct _) B.entry_struct_init (code_struct_new _ ⟨rfl, rfl⟩) fun obj s₁ h₁ => ?_
  obtain ⟨rfl, rfl⟩ := h₁
  have hS : (s.heap.push (structO .none)).get? s.heap.objs.size = some (structO .none) := Heap.get?_push_size _ rfl
  refine ⟨⟨_, hS, rfl⟩, B.args_struct_init _ _, ?_⟩
  unfold Builtin.«_struct.Struct.__init__»
  dsimp only
  refine wpAny_bind (wpAny_of_eq (a := [some (.str ⟨#[33, 73]⟩ t)]) (by first | rfl | kernel_rfl) ?_)
  dsimp only
  refine wpAny_bind (under_way hg ?_)
  simp only [Bool.false_eq_true, if_false]
  refine wpAny_bind (wpAny_of_eq (B.fbytes t) ?_)
  refine wpAny_bind (wpAny_of_eq B.parse_I ?_)
  refine wpAny_bind (wpAny_mkBytes ?_ (by rw [sizeLine_eq]; decide))
  refine wpAny_bind (wpAny_setField hS rfl (by decide) ?_)
  refine wpAny_pure ⟨rfl, h _ _ s.toks (fun b o e => ?_) (Heap.get?_none_of_le (Nat.le_refl _)) ?_⟩
  · rw [Heap.get?_update_other _ _ (Ne.symm (Nat.ne_of_lt (Heap.lt_size e)))]
    exact Heap.get?_push_of_some _ e
  · rw [Heap.get?_update_self _ hS rfl]; rfl
end
end Mine
end
section
set_option maxRecDepth 100000
set_option maxHeartbeats 4000000
set_option linter.unusedVariables false
namespace Mine
namespace B
theorem slot_struct_ga : Slot "_struct.Struct" "__getattribute__" "_struct.Struct.__getattribute__" :=
  .of (owner := "_struct.Struct") (n := "__getattribute__") (by rw [typeLookup_type, builtinLookup_eq_fast]; kernel_rfl) (by decide +kernel) (by decide +kernel) (by decide +kernel)
    (by first | exact .inl (by decide +kernel) | exact .inr (by decide +kernel)) (by rw [isSubtype_type]; kernel_rfl)
theorem entry_struct_ga : entryFor table "_struct.Struct.__getattribute__" = some Builtin.«object.__getattribute__» :=
  entryFor_alias (id' := "object.__getattribute__") (by kernel_rfl) (by first | rfl | decide +kernel) (by decide +kernel) (by kernel_rfl)
theorem args_struct_ga (a b : Value) : argsOk "_struct.Struct.__getattribute__" ⟨[a, b], []⟩ := by unfold argsOk; kernel_rfl
theorem look_pack : typeLookup (.type "_struct.Struct") "pack" = pure (some (.builtin "_struct.Struct.pack")) := by rw [typeLookup_type, builtinLookup_eq_fast]; kernel_rfl
theorem type_pack : typeOf (.builtin "_struct.Struct.pack") = pure (.type "method_descriptor") := by show builtinType _ = _; rw [builtinType_eq_fast]; kernel_rfl
theorem own_pack : (kfb_private% "ownerAndName") "_struct.Struct.pack" = ("_struct.Struct", "pack") := by first | decide +kernel | kernel_rfl
theorem told_pack : Manifest.toldItsClass.contains "_struct.Struct.pack" = false := by decide +kernel
theorem noga_struct : typeLookup (.type "_struct.Struct") "__getattr__" = pure none := by rw [typeLookup_type, builtinLookup_eq_fast]; kernel_rfl
end B
section
variable {prog : Program} {w : World} {A : Around} {E : Value → Shared → Prop} {h : Heap} {g : Array GenState} {d : Drawn} {t : Nat} {os : OsState} {a : Addr}
theorem md_getS {P : PySem.Fin → Shared → Prop} (hT : (⟨h, g, d, t, os⟩ : Shared).TypeIs (.ref a) "_struct.Struct")
    (hq : P (.done (.ret (.ref h.objs.size))) ⟨h.push (boundM "_struct.Struct.pack" (.ref a)), g, d, t, os⟩) : wpAny (model prog w) A (Builtin.«method_descriptor.__get__» ⟨[.builtin "_struct.Struct.pack", .ref a, .type "_struct.Struct"], []⟩) P E ⟨h, g, d, t, os⟩ := by
  unfold Builtin.«method_descriptor.__get__»
  refine wpAny_bind (wpAny_of_eq (a := (.builtin "_struct.Struct.pack", some (.ref a), some (.type "_struct.Struct"))) (by first | rfl | kernel_rfl) ?_)
  dsimp only
  rw [if_neg (by rw [B.told_pack]; exact Bool.false_ne_true)]
  first | refine wpAny_pure ?_ | skip
  show wpAny _ _ ((kfb_private% "checkInstance") (.builtin "_struct.Struct.pack") (.ref a) >>= fun _ => (newFields "builtin_function_or_method" [.builtin "_struct.Struct.pack", .ref a] >>= fun v => ret v)) _ _ _
  refine wpAny_bind ?_
  show wpAny _ _ ((kfb_private% "nameAndClass") (.builtin "_struct.Struct.pack") >>= fun p => _) _ _ _
  refine wpAny_bind ?_
  have hn : (kfb_private% "nameAndClass") (.builtin "_struct.Struct.pack") = pure ((Str.ofString "pack"), Value.type "_struct.Struct") := by
    show (match (kfb_private% "ownerAndName") "_struct.Struct.pack" with | (owner, name) => (pure ((Str.ofString name), Value.type owner) : Sem (Str × Value))) = _
    rw [B.own_pack]
  rw [hn]
  refine wpAny_pure ?_
  dsimp only
  refine wpAny_bind (wpAny_isInstance (b := true) hT (by rw [isSubtype_type]; kernel_rfl) ?_)
  refine wpAny_pure ?_
  exact wpAny_bind (wpAny_newObj_type (wpAny_pure hq))
theorem ga_struct {v : Value} {tk : Tok} {Q : PySem.Fin → Shared → Prop} (hx : h.get? a = some (structO v)) (hq : Q (.done (.ret (.ref h.objs.size))) ⟨h.push (boundM "_struct.Struct.pack" (.ref a)), g, d, t, os⟩) :
    wpAny (model prog w) A (Builtin.«object.__getattribute__» ⟨[.ref a, .str "pack" tk], []⟩) Q E ⟨h, g, d, t, os⟩ := by
  have hT : (⟨h, g, d, t, os⟩ : Shared).TypeIs (.ref a) "_struct.Struct" := ⟨_, hx, rfl⟩
  have f4 := B.look_pack
  have f5 := B.type_pack
  have f6 := B.slot_md_get.lookup
  have f7 := B.md_no_set
  have f8 := B.md_no_del
  have hname : (["__module__", "__name__", "__qualname__", "__doc__", "__annotations__"] : List Str).contains "pack" = false := by decide +kernel
  unfold Builtin.«object.__getattribute__»
  repeat (any_goals (first | assumption | wp_step))
  try simp only [hname, Bool.false_eq_true, if_false]
  repeat (any_goals (first | assumption | wp_step))
  have hT5 : (⟨h, g, d, t, os⟩ : Shared).TypeIs (.builtin "_struct.Struct.pack") "method_descriptor" := f5
  refine codeAny_call_builtin B.slot_md_get.plain B.entry_md_get (B.slot_md_get.check _ _ _ _ _ _ _ _ hT5 (B.args_md_get _ _ _) ?_)
  refine md_getS hT ?_
  repeat (any_goals (first | assumption | wp_step))
theorem getAttr_pack {v : Value} {Q : Value → Shared → Prop} (hx : h.get? a = some (structO v)) (hq : Q (.ref h.objs.size) ⟨h.push (boundM "_struct.Struct.pack" (.ref a)), g, d, t + 1, os⟩) :
    wpAny (model prog w) A (getAttr (.ref a) "pack" true) Q E ⟨h, g, d, t, os⟩ := by
  have hT : ∀ tk', (⟨h, g, d, tk', os⟩ : Shared).TypeIs (.ref a) "_struct.Struct" := fun _ => ⟨_, hx, rfl⟩
  have f3 := B.slot_struct_ga.lookup
  have f4' := B.slot_struct_ga.bind (.ref a)
  have f9 := B.noga_struct
  unfold getAttr getAttrBy
  repeat (any_goals (first | assumption | exact hT _ | ((with_reducible show wpAny _ _ (call (Value.builtin "_struct.Struct.__getattribute__") _ _) _ _ _); refine wpAny_call (codeAny_call_builtin B.slot_struct_ga.plain B.entry_struct_ga (B.slot_struct_ga.check _ _ _ _ _ _ _ _ (hT _) (B.args_struct_ga _ _) (ga_struct hx ?_)))) | wp_step))
end
end Mine
end
section
set_option maxRecDepth 100000
set_option maxHeartbeats 4000000
set_option linter.unusedVariables false
namespace Mine
namespace B
theorem kind_pack : builtinKind "_struct.Struct.pack" = some .method := by decide +kernel
noncomputable def sigP : Manifest.Signature := ⟨.positional, "Struct.pack", "pack", .self, [⟨"values", .varPos, false⟩]⟩
theorem sig_pack : Manifest.signature? "_struct.Struct.pack" = some sigP := by first | rfl | kernel_rfl | decide +kernel
theorem chk_pack1 (x y : Value) : Bind.checkArgs "_struct.Struct.pack" { sigP with full := Bind.lastOf "_struct.Struct.pack" } ⟨[x, y], []⟩ = pure () := by first | rfl | kernel_rfl
theorem chk_pack2 (x y : Value) : Bind.checkArgs "_struct.Struct.pack" { sigP with full := s!"{Bind.lastOf "_struct.Struct"}.{Bind.lastOf "_struct.Struct.pack"}" } ⟨[x, y], []⟩ = pure () := by first | rfl | kernel_rfl
theorem entry_pack : entryFor table "_struct.Struct.pack" = some Builtin.«_struct.Struct.pack» := entryFor_of_tree (by kernel_rfl)
end B
section
variable {prog : Program} {w : World} {A : Around} {E : Value → Shared → Prop} {s : Shared} {a q : Addr}
theorem cb_pack {x v : Value} {Q : Unit → Shared → Prop} (hx : s.heap.get? a = some (structO v)) (h : Q () s) : wpAny (model prog w) A (checkBoundCall "_struct.Struct.pack" ⟨[.ref a, x], []⟩) Q E s := by
  have hT : s.TypeIs (.ref a) "_struct.Struct" := ⟨_, hx, rfl⟩
  unfold checkBoundCall
  rw [B.sig_pack]
  dsimp only
  rw [B.kind_pack]
  dsimp only
  rw [if_neg (by decide)]
  refine wpAny_bind (wpAny_isInstance (b := false) hT (by rw [isSubtype_type]; kernel_rfl) ?_)
  by_cases hv : (Manifest.varargsMethods.contains "_struct.Struct.pack" || false) = true
  · rw [if_pos hv]
    exact wpAny_of_eq (B.chk_pack1 _ _) h
  rw [if_neg hv]
  have hi : wpAny (model prog w) A (isType (.ref a)) (fun b s' => b = false ∧ s' = s) E s := by
    repeat (any_goals (first | assumption | wp_step))
    exact ⟨rfl, rfl⟩
  refine wpAny_bind (wpAny_mono hi (fun b s' hb => ?_) fun _ _ e => e)
  obtain ⟨rfl, rfl⟩ := hb
  rw [if_neg (by decide)]
  refine wpAny_bind (wpAny_typeOf hT ?_)
  dsimp only
  exact wpAny_of_eq (B.chk_pack2 _ _) h
open Builtin Builtin.Struct
noncomputable def fmtI : Format := { bigEndian := true, native := false, codes := [⟨'I', 1, 0, 4⟩], size := 4, items := 1 }
theorem pack_body {n : Int} {t u : Tok} {Q : PySem.Fin → Shared → Prop} (hx : s.heap.get? a = some (structO (.bytes #[33, 73] u)))
    (h : wpAny (model prog w) A (Struct.packed "_struct.Struct.pack" "pack" fmtI [.int n t]) Q E s) : wpAny (model prog w) A («_struct.Struct.pack» ⟨[.ref a, .int n t], []⟩) Q E s := by
  unfold «_struct.Struct.pack»
  refine wpAny_bind (wpAny_pure ?_)
  dsimp only
  unfold structFormat
  refine wpAny_bind (wpAny_bind (wpAny_field hx rfl rfl ?_))
  rw [if_neg (by intro q; cases q)]
  refine wpAny_bind (wpAny_of_eq (a := #[33, 73]) (by first | rfl | kernel_rfl) ?_)
  refine wpAny_bind (wpAny_of_eq B.parse_I ?_)
  exact wpAny_pure h
noncomputable def u32 (n : Int) : List UInt8 := [(n.toNat / 256 ^ 3 % 256).toUInt8, (n.toNat / 256 ^ 2 % 256).toUInt8, (n.toNat / 256 ^ 1 % 256).toUInt8, (n.toNat / 256 ^ 0 % 256).toUInt8]
theorem int_bytes {n : Int} (h0 : 0 ≤ n) (h1 : n < 4294967296) : intBytes true 4 n = (u32 n).toArray := by
  have e : (n % 2 ^ (8 * 4)).toNat = n.toNat := by
    rw [Int.emod_eq_of_lt h0 (show n < 2 ^ (8 * 4) from h1)]
  unfold intBytes
  rw [e]
  show (Builtin.Memoryview.toLittleEndian 4 n.toNat).reverse = _
  unfold Builtin.Memoryview.toLittleEndian
  rw [show List.range 4 = [0, 1, 2, 3] from rfl]
  simp [u32]
theorem packed_ok {n : Int} {t : Tok} {Q : PySem.Fin → Shared → Prop} (h0 : 0 ≤ n) (h1 : n < 4294967296) (h : ∀ u k, Q (.done (.ret (.bytes (u32 n).toArray u))) { s with toks := k }) :
    wpAny (model prog w) A (Struct.packed "_struct.Struct.pack" "pack" fmtI [.int n t]) Q E s := by
  unfold Struct.packed Struct.packEach fmtI
  dsimp only
  rw [if_neg (by show ¬ ((1 : Nat) != 1) = true; decide)]
  rw [if_neg (by decide)]
  refine wpAny_bind ?_
  refine wpAny_bind ?_
  rw [List.forIn_cons]
  refine wpAny_bind ?_
  rw [if_neg (by decide)]
  rw [if_neg (by decide)]
  rw [KPc.range_list]
  refine wpAny_bind ?_
  refine KPc.turn ?_
  dsimp only
  refine wpAny_bind ?_
  refine wpAny_mono (Q := fun b s' => b = (u32 n).toArray ∧ s' = s) ?_ (fun b s' hb => ?_) (fun _ _ e => e)
  · wp_delta
    refine wpAny_bind (wpAny_of_eq (a := .ok n) (by first | rfl | kernel_rfl) ?_)
    dsimp only
    refine wpAny_bind (wpAny_pure ?_)
    rw [if_neg (by
      simp only [Bool.or_eq_true, decide_eq_true_eq]
      show ¬ (n < 0 ∨ n > 4294967296 - 1)
      lia)]
    refine wpAny_pure ⟨?_, rfl⟩
    exact int_bytes h0 h1
  · obtain ⟨rfl, rfl⟩ := hb
    refine wpAny_bind (wpAny_pure (wpAny_pure ?_))
    dsimp only
    refine wpAny_pure (wpAny_pure ?_)
    refine wpAny_pure (wpAny_pure ?_)
    show wpAny _ _ (mkBytes (u32 n).toArray >>= fun v => ret v) _ _ _
    exact wpAny_bind (wpAny_mkBytes (wpAny_pure (h _ _)) (by rw [sizeLine_eq]; simp [u32]))
theorem plainExc_struct : PlainExc "struct.error" :=
  ⟨fun args => by first | rfl | kernel_rfl, by decide +kernel⟩
theorem packed_err {n : Int} {t : Tok} {Q : PySem.Fin → Shared → Prop} (hh : A.handled = none) (h1 : 4294967296 ≤ n) (h : ∀ h' tk e, Heap.NewExc s.heap h' e "struct.error" → E (.ref e) { s with heap := h', toks := tk }) :
    wpAny (model prog w) A (Struct.packed "_struct.Struct.pack" "pack" fmtI [.int n t]) Q E s := by
  unfold Struct.packed Struct.packEach fmtI
  dsimp only
  rw [if_neg (by show ¬ ((1 : Nat) != 1) = true; decide)]
  rw [if_neg (by decide)]
  refine wpAny_bind ?_
  refine wpAny_bind ?_
  rw [List.forIn_cons]
  refine wpAny_bind ?_
  rw [if_neg (by decide)]
  rw [if_neg (by decide)]
  rw [KPc.range_list]
  refine wpAny_bind ?_
  refine KPc.turn ?_
  dsimp only
  refine wpAny_bind ?_
  wp_delta
  refine wpAny_bind (wpAny_of_eq (a := .ok n) (by first | rfl | kernel_rfl) ?_)
  dsimp only
  refine wpAny_bind (wpAny_pure ?_)
  rw [if_pos (by
      simp only [Bool.or_eq_true, decide_eq_true_eq]
      show n < 0 ∨ n > 4294967296 - 1
      lia)]
  refine wpAny_bind (wpAny_rule (wpAny_bind ?_))
  unfold structError
  exact wpAny_raiseErrorMade plainExc_struct hh h (by decide +kernel)
end
end Mine
end
section
set_option maxRecDepth 100000
set_option maxHeartbeats 4000000
set_option linter.unusedVariables false
namespace Mine
namespace B
theorem slot_ends : Slot "bytes" "endswith" "bytes.endswith" :=
  .of (owner := "bytes") (n := "endswith") (by rw [typeLookup_type, builtinLookup_eq_fast]; kernel_rfl) (by decide +kernel) (by decide +kernel) (by decide +kernel)
    (by first | exact .inl (by decide +kernel) | exact .inr (by decide +kernel)) (by rw [isSubtype_type]; kernel_rfl)
theorem type_ends : typeOf (.builtin "bytes.endswith") = pure (.type "method_descriptor") := by show builtinType _ = _; rw [builtinType_eq_fast]; kernel_rfl
theorem entry_ends : entryFor table "bytes.endswith" = some Builtin.«bytes.endswith» := entryFor_of_tree (by kernel_rfl)
theorem args_ends (a b : Value) : argsOk "bytes.endswith" ⟨[a, b], []⟩ := by unfold argsOk; kernel_rfl
theorem slot_starts : Slot "bytes" "startswith" "bytes.startswith" :=
  .of (owner := "bytes") (n := "startswith") (by rw [typeLookup_type, builtinLookup_eq_fast]; kernel_rfl) (by decide +kernel) (by decide +kernel) (by decide +kernel)
    (by first | exact .inl (by decide +kernel) | exact .inr (by decide +kernel)) (by rw [isSubtype_type]; kernel_rfl)
theorem type_starts : typeOf (.builtin "bytes.startswith") = pure (.type "method_descriptor") := by show builtinType _ = _; rw [builtinType_eq_fast]; kernel_rfl
theorem entry_starts : entryFor table "bytes.startswith" = some Builtin.«bytes.startswith» := entryFor_of_tree (by kernel_rfl)
theorem args_starts (a b : Value) : argsOk "bytes.startswith" ⟨[a, b], []⟩ := by unfold argsOk; kernel_rfl
end B
section
variable {C : Ctx} {Γ : Gam}
noncomputable def endsB (b c : List UInt8) : Bool := decide (c.length ≤ b.length) && (b.drop (b.length - c.length) == c)
noncomputable def startsB (b c : List UInt8) : Bool := decide (c.length ≤ b.length) && (b.take c.length == c)
theorem co_ends {b c : List UInt8} : CallOk C (.builtin "bytes.endswith") [vy b, vy c] (vb (endsB b c)) true := co_im2 (fun _ q => by cases q) fun s Q E x y rx ry h => by
  obtain ⟨t, rfl⟩ := rx; obtain ⟨u, rfl⟩ := ry
  refine wpAny_call (codeAny_call_builtin B.slot_ends.plain B.entry_ends (B.slot_ends.check _ _ _ _ _ _ _ _ (typeIs_bytes _ _ _) (B.args_ends _ _) ?_))
  rw [ends_road, fits_end]
  exact wpAny_pure (h _ s.heap s.toks (fun _ _ e => e) rfl)
theorem co_starts {b c : List UInt8} : CallOk C (.builtin "bytes.startswith") [vy b, vy c] (vb (startsB b c)) true := co_im2 (fun _ q => by cases q) fun s Q E x y rx ry h => by
  obtain ⟨t, rfl⟩ := rx; obtain ⟨u, rfl⟩ := ry
  refine wpAny_call (codeAny_call_builtin B.slot_starts.plain B.entry_starts (B.slot_starts.check _ _ _ _ _ _ _ _ (typeIs_bytes _ _ _) (B.args_starts _ _) ?_))
  rw [starts_road, fits_start]
  exact wpAny_pure (h _ s.heap s.toks (fun _ _ e => e) rfl)
noncomputable def endT : Str := "Ascii85 encoded byte sequences must end with b'~>'"
theorem co_format : CallOk C (.builtin "str.format") [vs' "Ascii85 encoded byte sequences must end with {!r}", vy [126, 62]] (vs' endT) true := co_im2 (fun _ q => by cases q) fun s Q E x y rx ry h => by
  obtain ⟨t, rfl⟩ := rx; obtain ⟨u, rfl⟩ := ry
  refine wpAny_call (codeAny_call_builtin PySem.F.slot_str_format_m.plain PySem.F.entry_str_format_m (PySem.F.slot_str_format_m.check _ _ _ _ _ _ _ _ (typeIs_str _ _ _) (PySem.F.args_str_format_m_2 _ _) ?_))
  rw [fmtR_eq]
  exact format_r _ _ _ _ _ _ _ _ fun t' k => h _ s.heap k (fun _ _ e => e) ⟨t', rfl⟩
theorem op_modc {n : Int} (h0 : 0 ≤ n) (h1 : n < 256) : OpOk C (binaryOp .Mod) (vs' "Non-Ascii85 digit found: %c") (vi n) (vs' (("Non-Ascii85 digit found: " : Str) ++ (⟨#[n.toNat]⟩ : Str))) := op_im (fun _ q => by cases q) fun s Q E x y rx ry h => by
  obtain ⟨t, rfl⟩ := rx; obtain ⟨u, rfl⟩ := ry
  have hd : n.natAbs.log2 < 1920 := shown (N := 2 ^ 1920) (by lia) (by lia) (Int.le_refl _)
  rw [fmtC_eq]
  exact KPc.mod_lit (hX := rfl) hd (fun _ _ => mod_c n _ _ h0 h1) fun t' k => h _ k ⟨t', rfl⟩
theorem tr_list {l : List I} (hb : l.length ≤ 1099511627776) : TrOk C (.list l) (!l.isEmpty) := fun s Q E x r h => by
  obtain ⟨a, vs, rfl, hl, hr⟩ := r
  refine wpAny_truthy_list hl (by have := hr.length; simp; lia) ?_
  have : (!(vs.toArray).isEmpty) = (!l.isEmpty) := by
    have hq := hr.length
    cases l <;> cases vs <;> simp at hq ⊢
  rw [this]
  exact h _
end
end Mine
end
section
set_option maxRecDepth 100000
set_option maxHeartbeats 4000000
set_option linter.unusedVariables false
namespace Mine
open Builtin Builtin.Bytes
theorem take_nx {α : Type} {l : List α} {n : Nat} {c : α} (h : l[n]? = some c) : l.take (n + 1) = l.take n ++ [c] := by
  rw [List.take_add_one, h]; rfl
theorem take_bytes (id : String) (b : Array UInt8) (t : Tok) : takeBufferQuiet? id (.bytes b t) 0 = pure (some (b, none)) := by first | rfl | kernel_rfl
theorem join_road (sep : Array UInt8) (t : Tok) (v : Value) : «bytes.join» ⟨[.bytes sep t, v], []⟩ = joinM .bytes ⟨[.bytes sep t, v], []⟩ := rfl
section
variable {prog : Program} {w : World} {A : Around} {E : Value → Shared → Prop} {s : Shared}
theorem for_range {β : Type} {n : Nat} {f : Nat → β → Sem (ForInStep β)} {Q : β → Shared → Prop} (st : Nat → β) (hf : ∀ i, i < n → ∀ (P : ForInStep β → Shared → Prop), P (.yield (st (i + 1))) s → wpAny (model prog w) A (f i (st i)) P E s) (h : Q (st n) s) :
    wpAny (model prog w) A (forIn [:n] (st 0) f) Q E s := by
  rw [KPc.range_list]
  have key : ∀ m i, i + m = n → wpAny (model prog w) A (forIn (List.range' i m 1) (st i) f) Q E s := by
    intro m
    induction m with
    | zero => intro i e; obtain rfl : i = n := by lia
              exact wpAny_pure h
    | succ m ih =>
      intro i e
      rw [List.range'_succ]
      exact KPc.turn (hf i (by lia) _ (ih (i + 1) (by lia)))
  exact key n 0 (by lia)
theorem joined_nil (l : List (Array UInt8)) : joined #[] l = (l.map (·.toList)).flatten.toArray := by
  have key : ∀ (l : List (Array UInt8)) (n : Nat) (acc : Array UInt8), (l.zipIdx n).foldl (fun out (p : Array UInt8 × Nat) => match p with | (p, i) => (if i > 0 then out ++ #[] else out) ++ p) acc = acc ++ (l.map (·.toList)).flatten.toArray := by
    intro l
    induction l with
    | nil => intro n acc; simp
    | cons c l ih =>
      intro n acc
      rw [List.zipIdx_cons, List.foldl_cons, ih]
      have hq : (if n > 0 then acc ++ #[] else acc) = acc := by split <;> simp
      show (if n > 0 then acc ++ #[] else acc) ++ c ++ _ = _
      rw [hq, List.map_cons, List.flatten_cons]
      apply Array.ext'
      simp
  have := key l 0 #[]
  rw [Array.empty_append] at this
  exact this
theorem let_go_all {l : List (Value × Option Value)} {keep : List Value} {Q : Unit → Shared → Prop} (hn : ∀ p ∈ l, p.2 = none) (h : Q () s) : wpAny (model prog w) A (joinLetGo l keep) Q E s := by
  induction l with
  | nil => exact wpAny_pure h
  | cons p l ih =>
    obtain ⟨x, o⟩ := p
    obtain rfl : o = none := hn (x, o) (by simp)
    unfold joinLetGo
    dsimp only
    exact wpAny_bind (wpAny_letGo (ih fun p hp => hn p (by simp [hp])))
theorem parts_size (l : List (Array UInt8)) : ∀ n : Nat, l.foldl (fun a (x : Array UInt8) => a + x.size) n = n + (l.map (·.toList)).flatten.length := by
  induction l with
  | nil => intro n; simp
  | cons c l ih => intro n; rw [List.foldl_cons, ih]; simp; lia
theorem join_fin {t : Tok} {bs : List (List UInt8)} {parts : Array (Array UInt8)} {taken : List (Value × Option Value)} {P : PySem.Fin → Shared → Prop} (hz : bs.flatten.length ≤ 1000000) (hp : parts.toList = bs.map (·.toArray)) (ht : ∀ p ∈ taken, p.2 = none) (hP : ∀ u k, P (.done (.ret (.bytes bs.flatten.toArray u))) { s with toks := k }) :
      wpAny (model prog w) A (do
        let sep ← payload (.bytes #[] t)
        if tooLong (parts.foldl (· + ·.size) (sep.size * (parts.size - 1))) then unsupported s!"{s!"{Kind.bytes.name}.join"}:memory"
        let result ← Kind.new .bytes (joined sep parts.toList)
        holding (result :: taken.flatMap fun (y, u) => y :: u.toList) point
        joinLetGo taken [result]
        ret result) P E s := by
  have hfl : ((bs.map (·.toArray)).map (·.toList)).flatten = bs.flatten := by
    rw [List.map_map]
    congr 1
    conv => rhs; rw [← List.map_id bs]
    apply List.map_congr_left
    intro x _
    rfl
  refine wpAny_bind (wpAny_of_eq (a := #[]) (by first | rfl | kernel_rfl) ?_)
  dsimp only
  have hsz : parts.foldl (fun (a : Nat) (x : Array UInt8) => a + x.size) ((#[] : Array UInt8).size * (parts.size - 1)) = bs.flatten.length := by
    rw [← Array.foldl_toList, hp, parts_size, hfl]
    simp
  rw [if_neg (by
    show ¬ (tooLong (parts.foldl (fun (a : Nat) (x : Array UInt8) => a + x.size) ((#[] : Array UInt8).size * (parts.size - 1))) = true)
    rw [hsz]
    unfold tooLong
    rw [sizeLine_eq]
    exact fun q => absurd (of_decide_eq_true q) (by lia))]
  rw [joined_nil, hp, hfl]
  refine wpAny_bind ?_
  show wpAny _ _ (mkBytes bs.flatten.toArray) _ _ _
  refine wpAny_mkBytes ?_ (by rw [sizeLine_eq]; simp at hz ⊢; lia)
  refine wpAny_bind (wpAny_holding (wpAny_point ?_))
  exact wpAny_bind (let_go_all ht (wpAny_pure (hP _ _)))
theorem join_wp {a : Addr} {t : Tok} {vs : List Value} {bs : List (List UInt8)} {Q : PySem.Fin → Shared → Prop} (hl : s.heap.IsList a vs.toArray) (hv : All2 IRep (bs.map .bytes) vs) (hz : bs.flatten.length ≤ 1000000)
    (h : ∀ u k, Q (.done (.ret (.bytes bs.flatten.toArray u))) { s with toks := k }) : wpAny (model prog w) A (joinM .bytes ⟨[.bytes #[] t, .ref a], []⟩) Q E s := by
  obtain ⟨o, ho, hc, n, hd⟩ := hl
  unfold joinM
  refine wpAny_bind (wpAny_pure ?_)
  refine wpAny_ite (KPc.ite_yes (by decide) ?_)
  unfold joinItems
  refine wpAny_bind (wpAny_bind (wpAny_typeOf (T := "list") ⟨o, ho, hc⟩ ?_))
  refine wpAny_ite (KPc.ite_yes (by decide) ?_)
  refine wpAny_pure ?_
  have hseq : ∀ {P : Option (Array Value) → Shared → Prop} {E : Value → Shared → Prop}, P (some vs.toArray) s → wpAny (model prog w) A (seqItems? (.ref a)) P E s := fun hp => by
    unfold seqItems?
    dsimp only
    refine wpAny_bind (wpAny_load ho ?_)
    rw [hd]
    exact wpAny_pure hp
  refine wpAny_bind (hseq ?_)
  refine wpAny_ite (KPc.ite_yes (by decide) ?_)
  have step : ∀ i, i < vs.length → ∃ b u, bs[i]? = some b ∧ vs[i]? = some (.bytes b.toArray u) := fun i hi => by
    have hlen := hv.length
    rw [List.length_map] at hlen
    obtain ⟨w, hw, r⟩ := hv.get (k := i) (a := .bytes (bs[i]'(by lia))) (by simp [show i < bs.length by lia])
    obtain ⟨u, rfl⟩ := r
    exact ⟨bs[i]'(by lia), u, by simp [show i < bs.length by lia], hw⟩
  have allb : ∀ x ∈ vs, x.onHeap = false := fun x hx => by
    obtain ⟨i, hi, rfl⟩ := List.getElem_of_mem hx
    obtain ⟨b, u, _, e⟩ := step i hi
    have : vs[i] = .bytes b.toArray u := by
      have := List.getElem?_eq_getElem hi
      rw [this] at e
      exact Option.some.inj e
    rw [this]; rfl
  rcases vs with _ | ⟨v, _ | ⟨v2, r⟩⟩
  · rcases bs with _ | ⟨b, br⟩
    · refine wpAny_bind (for_range (n := 0) (fun _ => (#[], [])) (fun i hi => by lia) ?_)
      exact join_fin hz rfl (by simp) h
    · cases hv
  · obtain ⟨b, u, hb, hvv⟩ := step 0 (by simp)
    have hbs : bs = [b] := by
      have hlen := hv.length
      rcases bs with _ | ⟨b0, _ | ⟨b1, br⟩⟩
      · simp at hb
      · simp at hb; rw [hb]
      · simp at hlen
    subst hbs
    simp at hvv
    subst hvv
    refine wpAny_bind (wpAny_typeOf (T := "bytes") (v := .bytes b.toArray u) rfl ?_)
    refine wpAny_ite (KPc.ite_yes (by decide) ?_)
    refine wpAny_bind (wpAny_rule ?_)
    have := h u s.toks
    rw [List.flatten_cons, List.flatten_nil, List.append_nil] at this
    exact wpAny_pure this
  · refine wpAny_bind (for_range (n := (v :: v2 :: r).toArray.size) (fun i => (((bs.take i).map (·.toArray)).toArray, ((v :: v2 :: r).take i).map fun x => (x, none))) (fun i hi P hP => ?_) ?_)
    · obtain ⟨b, u, hb, hvv⟩ := step i (by simpa using hi)
      refine wpAny_bind (hseq ?_)
      dsimp only
      rw [if_neg (by
        have hany : ((((v :: v2 :: r).take i).map fun x => ((x, none) : Value × Option Value)).any fun x => x.1.onHeap) = false := by
          rw [List.any_eq_false]
          intro p hp
          obtain ⟨x, hx, rfl⟩ := List.mem_map.mp hp
          rw [allb x (List.mem_of_mem_take hx)]
          exact Bool.false_ne_true
        show ¬ ((false || _) = true)
        rw [Bool.false_or]
        show ¬ ((((v :: v2 :: r).take i).map fun x => ((x, none) : Value × Option Value)).any fun x => x.1.onHeap) = true
        rw [hany]
        exact Bool.false_ne_true)]
      have hg : (v :: v2 :: r).toArray.getD i Value.none = .bytes b.toArray u := by
        rw [Array.getD_eq_getD_getElem?]
        simp [hvv]
      rw [hg, take_bytes]
      refine wpAny_bind (wpAny_holding (wpAny_pure ?_))
      dsimp only
      refine wpAny_bind (hseq ?_)
      dsimp only
      refine wpAny_ite (KPc.ite_no (by simp) ?_)
      refine wpAny_pure ?_
      have e1 : (((bs.take i).map (·.toArray)).toArray).push b.toArray = ((bs.take (i + 1)).map (·.toArray)).toArray := by
        rw [take_nx hb]; simp
      have e2 : (((v :: v2 :: r).take i).map fun x => ((x, none) : Value × Option Value)) ++ [(.bytes b.toArray u, none)] = ((v :: v2 :: r).take (i + 1)).map fun x => (x, none) := by
        rw [take_nx hvv]; simp
      rw [e1, e2]
      exact hP
    · refine join_fin hz ?_ (fun p hp => ?_) h
      · have hlen := hv.length
        simp only [List.length_map] at hlen
        simp only [List.size_toArray]
        rw [← hlen, List.take_length]
      · obtain ⟨x, _, rfl⟩ := List.mem_map.mp hp
        rfl
end
end Mine
end
section
set_option maxRecDepth 100000
set_option maxHeartbeats 4000000
namespace Mine
variable {pm cd : Value}
theorem for_next {M : Model} {A : Around} {E : Value → Shared → Prop} {s : Shared} {α β : Type} {l : List α} {x : α} {b : β} {f : α → β → Sem (ForInStep β)} {Q : β → Shared → Prop}
    (h : wpAny M A (f x b) (fun r s' => match r with | .done b' => Q b' s' | .yield b' => wpAny M A (forIn l b' f) Q E s') E s) : wpAny M A (forIn (x :: l) b f) Q E s := by
  rw [List.forIn_cons]
  exact wpAny_bind (wpAny_mono h (fun r s' hr => by cases r with
    | done b' => exact wpAny_pure hr
    | yield b' => exact hr) fun _ _ e => e)
theorem kwb {s : Shared} {m : Str → Option Value} (w f a v : Value) (hn : s.heap.Ns 184 m) (hv : m "ignorechars" = some v) : BindsTo s (mkFd 29 "a85decode" .none (.ref 184) pm cd) ⟨[w], [(("foldspaces" : Str), f), (("adobe" : Str), a)]⟩ [(("b" : Str), w), (("foldspaces" : Str), f), (("adobe" : Str), a), (("ignorechars" : Str), v)] := fun M A E Q hq => by
  unfold bindArgs
  refine wpAny_bind (wpAny_of_eq (a := ([(("b" : Str), w), (("foldspaces" : Str), f), (("adobe" : Str), a)], [])) rfl ?_)
  refine wpAny_bind (wpAny_of_eq (a := none) (by first | rfl | kernel_rfl) ?_)
  refine wpAny_ite (KPc.ite_no (by first | decide | (intro q; cases q)) ?_)
  refine wpAny_ite (KPc.ite_no (by first | decide | (intro q; cases q)) ?_)
  refine wpAny_bind (wpAny_of_eq (a := [(("b" : Str), w), (("foldspaces" : Str), f), (("adobe" : Str), a)]) (by first | rfl | kernel_rfl) ?_)
  refine wpAny_bind ?_
  show wpAny M A (forIn [("foldspaces" : Str), ("adobe" : Str), ("ignorechars" : Str)] _ _) _ E s
  refine for_next ?_
  refine wpAny_of_eq (a := .yield ([(("b" : Str), w), (("foldspaces" : Str), f), (("adobe" : Str), a)], [])) (by first | rfl | kernel_rfl) ?_
  refine for_next ?_
  refine wpAny_of_eq (a := .yield ([(("b" : Str), w), (("foldspaces" : Str), f), (("adobe" : Str), a)], [])) (by first | rfl | kernel_rfl) ?_
  refine for_next ?_
  show wpAny M A (nsGet 184 "ignorechars" >>= _) _ E s
  refine wpAny_bind (wpAny_nsGet hn ?_)
  rw [hv]
  refine wpAny_pure ?_
  refine wpAny_pure ?_
  refine wpAny_ite (KPc.ite_no (by first | decide | (intro q; cases q)) ?_)
  refine wpAny_of_eq (a := [(("b" : Str), w), (("foldspaces" : Str), f), (("adobe" : Str), a), (("ignorechars" : Str), v)]) (by first | rfl | kernel_rfl) hq
end Mine
end
section
set_option maxRecDepth 100000
set_option maxHeartbeats 4000000
set_option linter.unusedVariables false
namespace Mine
section
variable {C : Ctx} {k : Heap}

theorem base_stays {h : Heap} (x : Ext C.fs k h) : (base C k).StaysIn h := fun b o q => x.keep b o (fun hmem => by
  have := hideAll_none (h := k) _ hmem
  unfold base at q
  rw [this] at q; cases q) (of_hideAll _ q)
theorem b0_base {h : Heap} (hb : C.b0.StaysIn k) (hl : h.FunFrames C.b0 C.fs) : C.b0.StaysIn (base C k) := fun b o e => hideAll_get _ (hb b o e) (off_frames hl e)
theorem frames_back {b0 B h : Heap} (hb : b0.StaysIn B) : ∀ {l : List Env}, h.FunFrames B l → h.FunFrames b0 l
  | [], _ => trivial
  | env :: l, ⟨hk, ⟨L, o, hf, hn, ho, hd⟩, hr⟩ => ⟨hk, ⟨L, o, hf, (by
      cases q : b0.get? L with
      | none => rfl
      | some o' => rw [hb _ _ q] at hn; cases hn), ho, hd⟩, frames_back hb hr⟩

/-- an exception of a built-in class, noted in the frame at hand, its context none -/
structure Now (C : Ctx) (k : Heap) (X : String) (e : Addr) (h : Heap) : Prop where
  stays : (base C k).StaysIn h
  frames : h.FunFrames (base C k) C.fs
  slots : k.UpToSlots h
  new : (base C k).get? e = none
  there : ∃ ob t T oT ts, h.get? e = some ob ∧ ob.cls = .type X ∧ ob.data = .fields #[t, .ref T, .none, .none, .bool false, .none] ∧ (base C k).get? T = none ∧ T ≠ e ∧ h.get? T = some oT ∧ oT.data = .fields ts ∧ 3 < ts.size

theorem now_flight {M : Model} {A : Around} {s : Shared} {X : String} {e : Addr} {Q : Unit → Shared → Prop} {E : Value → Shared → Prop} (x : Now C k X e s.heap) (h : ∀ h', Now C k X e h' → Q () { s with heap := h' }) : wpAny M A (setFlight (.ref e) none) Q E s := by
  obtain ⟨x1, x2, x3, x4, ob, t, T, oT, ts, he, hcls, hd, hnT, hTe, hT, hdT, h3⟩ := x
  have other : ∀ b, b ≠ T → (s.heap.update T (Obj.mapFields (·.setIfInBounds 3 ((none : Option Addr).elim Value.none fun f => rawInt f)))).get? b = s.heap.get? b := fun b hb => Heap.get?_update_other _ _ (Ne.symm hb)
  have noRecord : ∀ b o, s.heap.get? b = some o → (∀ vs, o.data ≠ .fields vs) → b ≠ T := fun b o hb hnf q => by
    rw [q, hT] at hb; cases hb; exact hnf ts hdT
  unfold setFlight
  refine wpAny_bind (wpAny_field he hd (x := .ref T) rfl ?_)
  rw [if_pos (show (Value.ref T != Value.none) = true from by simp)]
  refine wpAny_setField hT hdT h3 (h _ ⟨fun b o q => (other b fun z => by rw [z, hnT] at q; cases q).trans (x1 b o q), ?_, fun b o q n => ?_, x4, ob, t, T, _, _, (other e (Ne.symm hTe)).trans he, hcls, hd, hnT, hTe, Heap.get?_update_self _ hT (Obj.isFreed_of_fields (Obj.data_mapFields hdT _)), Obj.data_mapFields hdT _, by simpa using h3⟩)
  · exact x2.of_keeps fun b o hb hnf => ⟨o, (other b (noRecord b o hb hnf)).trans hb, rfl⟩
  · obtain ⟨sl, z⟩ := x3 b o q n
    exact ⟨sl, (other b (noRecord b _ z n)).trans z⟩

theorem now_noted {M : Model} {A : Around} {s : Shared} {X : String} {e L : Addr} {outer : List Env} {hm : Heap} {Q : Unit → Shared → Prop} {E : Value → Shared → Prop} (hA : A.frames = some C.fs) (hfs : C.fs = C.ev :: outer) (hf : C.ev.frame = some L) (xm : Ext C.fs k hm) (hl : hm.FunFrames C.b0 C.fs) (mk : Heap.NewExc hm s.heap e X)
    (h : ∀ h', Now C k X e h' → Q () { s with heap := h' }) : wpAny M A (noteFrame (.ref e) C.ev) Q E s := by
  obtain ⟨mk1, mk2, ob, t, he, hcls, hd⟩ := mk
  have st : (base C k).StaysIn hm := base_stays xm
  have hlb : hm.FunFrames (base C k) C.fs := frames_on hl fun b hb => hideAll_none _ hb
  have hls : s.heap.FunFrames (base C k) (C.ev :: outer) := hfs ▸ (hlb.of_keeps fun b o hb _ => ⟨o, mk1 b o hb, rfl⟩)
  have hen : (base C k).get? e = none := fresh_of_stays st mk2
  have hene : e ∉ (C.ev :: outer).filterMap (·.frame) := fun hmem => by
    obtain ⟨_, o, ho, hnf⟩ := hls.mem hmem
    rw [he] at ho; cases ho; exact hnf _ hd
  unfold noteFrame
  simp only [hf]
  refine wpAny_bind (wpAny_field he hd (x := Value.none) rfl ?_)
  rw [if_neg (show ¬ ((Value.none != Value.none) = true) from by decide)]
  refine wpAny_bind (wpAny_frameOf_fun (hfs ▸ hA) hls hf fun h₁ hs₁ => ?_)
  refine wpAny_bind (wpAny_entryPlaceOf fun pl hpl => ?_)
  unfold EntryCells.newEntry newFields
  refine wpAny_bind (wpAny_newObj_type ?_ (hpl.sizeOk5 _ _ _ _ _))
  have he₁ : h₁.get? e = some ob := (hs₁.2.1 e hene).trans he
  have kb₁ : (base C k).StaysIn h₁ := fun b o hbo => (hs₁.2.1 b fun hmem => by rw [(hls.mem hmem).1] at hbo; cases hbo).trans (mk1 b o (st b o hbo))
  generalize hnew : ({ cls := Value.type "traceback", dict := none, data := Data.fields ([Value.none, Value.ref L, Value.none, rawInt L, Value.none] ++ (if pl.isEmpty then List.replicate 6 Value.none else pl)).toArray } : Obj) = ot
  have hTd : ∃ ts, ot.data = .fields ts ∧ 3 < ts.size := by
    subst hnew
    exact ⟨_, rfl, by simp⟩
  have hfree : ot.isFreed = false := by subst hnew; rfl
  have he₂ := Heap.get?_push_of_some (h := h₁) ot he₁
  refine wpAny_setField he₂ hd (show 1 < 6 by decide) (h _ ?_)
  have hTe : h₁.objs.size ≠ e := Nat.ne_of_gt (Heap.lt_size he₁)
  have hd₃ := Obj.data_mapFields hd (·.setIfInBounds 1 (Value.ref h₁.objs.size))
  have he₃ := Heap.get?_update_self (Obj.mapFields (·.setIfInBounds 1 (Value.ref h₁.objs.size))) he₂ (Obj.isFreed_of_fields hd₃)
  have hT₃ := (Heap.get?_update_other (h₁.push ot) (Obj.mapFields (·.setIfInBounds 1 (Value.ref h₁.objs.size))) (Ne.symm hTe)).trans (Heap.get?_push_size h₁ hfree)
  have keep : ∀ b o, b ≠ e → h₁.get? b = some o → ((h₁.push ot).update e (Obj.mapFields (·.setIfInBounds 1 (Value.ref h₁.objs.size)))).get? b = some o := fun b o hbe hb => by
    rw [Heap.get?_update_other _ _ (Ne.symm hbe)]
    exact Heap.get?_push_of_some _ hb
  have noRecord : ∀ b o, s.heap.get? b = some o → (∀ vs, o.data ≠ .fields vs) → b ≠ e := fun b o hb hnf q => by
    rw [q, he] at hb; cases hb; exact hnf _ hd
  obtain ⟨ts, htd, ht3⟩ := hTd
  refine ⟨fun b o hbo => keep b o (fun q => by rw [q, hen] at hbo; cases hbo) (kb₁ b o hbo), ?_, fun b o hb hnf => ?_, hen, _, t, h₁.objs.size, ot, ts, he₃, (Obj.cls_mapFields _ _).trans hcls, hd₃, kb₁.fresh, hTe, hT₃, htd, ht3⟩
  · rw [hfs]
    refine hls.of_keeps fun b o hb hnf => ?_
    obtain ⟨sl, hs⟩ := hs₁.2.2 b o hb
    exact ⟨_, keep b _ (noRecord b o hb hnf) hs, rfl⟩
  · obtain ⟨sl, z⟩ := xm.slots b o hb hnf
    have z2 := mk1 b _ z
    obtain ⟨sl2, hs⟩ := hs₁.2.2 b _ z2
    exact ⟨sl2, keep b _ (noRecord b _ z2 hnf) hs⟩

theorem entry_unchain : entryFor table "proto.unchain" = some Builtin.«proto.unchain» := entryFor_of_tree (by kernel_rfl)
theorem isType_no {M : Model} {A : Around} {s : Shared} {e : Addr} {ob : Obj} {vs : Array Value} {Q : Bool → Shared → Prop} {E : Value → Shared → Prop} (he : s.heap.get? e = some ob) (hd : ob.data = .fields vs) (h : Q false s) : wpAny M A (isType (.ref e)) Q E s := by
  simp only [isType, loadHead]
  refine wpAny_bind (wpAny_loadPart he ?_)
  rw [hd]; exact wpAny_pure h

/-- raise ValueError(msg) from None, in a handler -/
theorem raise_none {s : Shared} {X : String} {e L : Addr} {outer : List Env} {msg : Str} {np cpos cp npos rpos : Pos} {kk kn} {Q : Flow → Shared → Prop} {E : Value → Shared → Prop} {hm : Heap} (O : C.Ok) (hfs : C.fs = C.ev :: outer) (hf : C.ev.frame = some L) (hk : C.ev.kindOf "ValueError" = some .globalImplicit) (hv : C.Glob "ValueError" (.type "ValueError"))
    (hb : C.b0.StaysIn k) (hl : hm.FunFrames C.b0 C.fs) (x : Now C k X e s.heap) (hE : ∀ e2 h' tk, Exc C k e2 (.type "ValueError") [.str msg] h' → E (.ref e2) { s with heap := h', toks := tk }) :
    wpAny C.M (C.A.mark (some (.ref e))) (exec (.Raise (some (.Call (.Name "ValueError" np) [.Constant (.str msg) kk cpos] [] cp)) (some (.Constant .none kn npos)) rpos) C.ev) Q (notedBy C.M (C.A.mark (some (.ref e))) C.ev (cameBackBy C.M C.A C.ev E)) s := by
  let C' : Ctx := { C with A := C.A.mark (some (.ref e)) }
  have O' : C'.Ok0 := ⟨O.glo, O.kind, O.globals, O.builtins⟩
  have bb := b0_base hb hl
  have I' : Inv C' [] s.heap := ⟨fun b o q => x.stays b o (bb b o q), frames_back bb x.frames, fun i y v _ h => by simp at h, fun i y v _ h => by simp at h⟩
  rw [arm_exec_Raise]
  refine wpAny_bind (wpAny_standAt ?_)
  unfold raiseStmt
  show wpAny C'.M C'.A _ Q (notedBy C'.M C'.A C'.ev (cameBackBy C.M C.A C.ev E)) s
  refine wpAny_bind (wpAny_bind (wpAny_Call_ofName (SE.glob (C := C') (Γ := []) O' hk hv (by decide) s _ _ I' fun w h₀ t₀ x₀ r₀ _ => ?_)))
  obtain rfl : w = .type "ValueError" := r₀
  have I₀ := I'.ext x₀
  refine callWith_excType (stars_plain (noStars_of rfl) _ _) ?_
  refine evalArgs_one (C := C') (Γ := []) (s := ⟨h₀, s.gens, s.drawn, t₀, s.os⟩) SE.const_str rfl I₀ fun w h₁ t₁ x₁ r₁ => ?_
  obtain ⟨u, rfl⟩ := r₁
  have I₁ := I₀.ext x₁
  have xx : Ext C.fs s.heap h₁ := x₀.trans x₁
  refine wpAny_call_exc PySem.F.excCall_ValueError (hrest := by rw [sizeLine_eq]; simp) fun h₂ e2 mk => ?_
  obtain ⟨mk1, mk2, t2, he2, ht2n, ht2⟩ := mk
  refine wpAny_bind (wpAny_standAt (wpAny_pure ?_))
  dsimp only [Option.map, evalOpt]
  refine wpAny_bind (wpAny_holding (wpAny_bind (wpAny_pure (wpAny_bind (wpAny_standAt (wpAny_pure ?_))))))
  refine wpAny_bind (wpAny_pure ?_)
  refine wpAny_bind (wpAny_holding ?_)
  unfold excFromValue isExcClass
  refine wpAny_bind (wpAny_bind (isType_no he2 rfl ?_))
  refine wpAny_ite (KPc.ite_no (by decide) ?_)
  refine wpAny_pure ?_
  refine wpAny_ite (KPc.ite_no (by decide) ?_)
  refine wpAny_bind (wpAny_isInstance (T := "ValueError") ⟨_, he2, rfl⟩ PySem.F.excRaise_ValueError.isExc ?_)
  refine wpAny_ite (KPc.ite_yes rfl ?_)
  refine wpAny_pure ?_
  refine wpAny_ite (KPc.ite_yes (by first | rfl | decide | simp) ?_)
  refine wpAny_bind (wpAny_pure ?_)
  refine wpAny_bind (wpAny_setField he2 rfl (show 3 < 6 by decide) ?_)
  have he3 := Heap.get?_update_self (Obj.mapFields (·.setIfInBounds 3 Value.none)) he2 rfl
  refine wpAny_bind (wpAny_setField he3 rfl (show 4 < 6 by decide) ?_)
  have he4 := Heap.get?_update_self (Obj.mapFields (·.setIfInBounds 4 (Value.bool true))) he3 rfl
  refine wpAny_bind (isType_no he4 rfl ?_)
  refine wpAny_ite (KPc.ite_no (by decide) ?_)
  unfold raisedInstance
  refine wpAny_bind (wpAny_bind (wpAny_typeOf (T := "ValueError") ⟨_, he4, rfl⟩ (wpAny_bind (m := typeOf (.type "ValueError")) (wpAny_pure ?_))))
  refine wpAny_ite (KPc.ite_yes PySem.F.excRaise_ValueError.plainMeta ?_)
  refine wpAny_pure ?_
  unfold setFlight
  refine wpAny_bind (wpAny_bind (wpAny_field he4 rfl (x := Value.none) rfl ?_))
  refine wpAny_ite (KPc.ite_no (by decide) ?_)
  refine wpAny_pure ?_
  unfold raiseNew
  refine wpAny_bind (wpAny_handled ?_)
  have hhd : C'.A.handled = some (.ref e) := rfl
  rw [hhd]
  dsimp only
  obtain ⟨y1, y2, y3, y4, ob, tv, T, oT, ts, hee, hcls, hde, hnT, hTe, hT, hdT, h3⟩ := x
  have hen : e ∉ fa C.fs := fun hmem => by
    obtain ⟨_, o, ho, hn⟩ := y2.mem hmem
    rw [hee] at ho; cases ho; exact hn _ hde
  have hne : e ≠ e2 := fun z => by
    have q := xx.keep e ob hen hee
    rw [z, mk2] at q; cases q
  rw [if_pos (by simpa using hne)]
  have oth : ∀ b, b ≠ e2 → ((h₂.update e2 (Obj.mapFields (·.setIfInBounds 3 Value.none))).update e2 (Obj.mapFields (·.setIfInBounds 4 (Value.bool true)))).get? b = h₂.get? b := fun b hb => by
    rw [Heap.get?_update_other _ _ (Ne.symm hb), Heap.get?_update_other _ _ (Ne.symm hb)]
  have he5 := (oth e hne).trans (mk1 e ob (xx.keep e ob hen hee))
  refine wpAny_bind (wpAny_holding (wpAny_runValue (codeAny_builtin entry_unchain ?_)))
  unfold Builtin.«proto.unchain»
  dsimp only
  refine wpAny_bind (wpAny_field he5 hde (x := Value.none) rfl ?_)
  simp only [beq_self_eq_true, if_true]
  refine wpAny_bind (wpAny_pure (wpAny_pure ?_))
  dsimp only
  refine wpAny_bind ?_
  show wpAny _ _ (setField (.ref e2) 2 (.ref e)) _ _ _
  refine wpAny_setField he4 rfl (show 2 < 6 by decide) (wpAny_throw ?_)
  have he6 := Heap.get?_update_self (Obj.mapFields (·.setIfInBounds 2 (Value.ref e))) he4 rfl
  have oth6 : ∀ b, b ≠ e2 → (((h₂.update e2 (Obj.mapFields (·.setIfInBounds 3 Value.none))).update e2 (Obj.mapFields (·.setIfInBounds 4 (Value.bool true)))).update e2 (Obj.mapFields (·.setIfInBounds 2 (Value.ref e)))).get? b = h₂.get? b := fun b hb => by
    rw [Heap.get?_update_other _ _ (Ne.symm hb), oth b hb]
  generalize (((h₂.update e2 (Obj.mapFields (·.setIfInBounds 3 Value.none))).update e2 (Obj.mapFields (·.setIfInBounds 4 (Value.bool true)))).update e2 (Obj.mapFields (·.setIfInBounds 2 (Value.ref e)))) = hF at he6 oth6 ⊢
  have nb : ∀ b o, (base C k).get? b = some o → b ∉ fa C.fs := fun b o q hmem => by
    have z := hideAll_none (h := k) _ hmem
    unfold base at q
    rw [z] at q; cases q
  have st1 : (base C k).StaysIn h₁ := fun b o q => xx.keep b o (nb b o q) (y1 b o q)
  have hb2 : (base C k).get? e2 = none := fresh_of_stays st1 mk2
  have hbt : (base C k).get? t2 = none := fresh_of_stays st1 ht2n
  have nr : ∀ b o, h₂.get? b = some o → (∀ vs, o.data ≠ .fields vs) → b ≠ e2 := fun b o q n z => by
    rw [z, he2] at q; cases q; exact n _ rfl
  have stF : (base C k).StaysIn hF := fun b o q => (oth6 b fun z => by rw [z, hb2] at q; cases q).trans (mk1 b o (st1 b o q))
  have frF : hF.FunFrames (base C k) C.fs := ((funFrames_slots xx.slots y2).of_keeps fun b o q _ => ⟨o, mk1 b o q, rfl⟩).of_keeps fun b o q n => ⟨o, (oth6 b (nr b o q n)).trans q, rfl⟩
  have ht6 : hF.get? t2 = some { cls := .type "tuple", data := .seq #[.str msg u] } := (oth6 t2 fun z => by
    rw [z, he2] at ht2
    exact absurd (congrArg Obj.cls (Option.some.inj ht2)) (by simp)).trans ht2
  have slF : k.UpToSlots hF := fun b o q n => by
    obtain ⟨s1, q1⟩ := y3 b o q n
    obtain ⟨s2, q2⟩ := xx.slots b _ q1 n
    have q3 := mk1 b _ q2
    exact ⟨s2, (oth6 b (nr b _ q3 n)).trans q3⟩
  have hfr : C'.A.frames = some (C.ev :: outer) := by rw [← hfs]; exact O.frames
  unfold notedBy noteFrame
  have hf' : C'.ev.frame = some L := hf
  simp only [hf']
  refine wpAny_bind (wpAny_field he6 rfl (x := Value.none) rfl ?_)
  rw [if_neg (show ¬ ((Value.none != Value.none) = true) from by decide)]
  refine wpAny_entryW (base := base C k) (a0 := .ref t2) hfr (hfs ▸ frF) hf he6 stF hb2 rfl (show 1 < 6 by decide) rfl fun h' hN => ?_
  obtain ⟨k1, k2, k3, k4⟩ := hN
  have hh : Held C k e2 (.type "ValueError") [.str msg] h' := ⟨[.str msg u], t2, L, .cons ⟨u, rfl⟩ .nil, slF.trans k4, hf, ⟨k1, hb2, hfs ▸ k2, k3⟩, Heap.TupAt.of_slots ⟨_, _, ht6, rfl, rfl⟩ k4, hbt⟩
  exact held_back (s := ⟨h', s.gens, s.drawn, t₁, s.os⟩) hh fun h'' hh' => hE e2 h'' t₁ hh'.exc
end

section
variable {C : Ctx} {Γ : Gam} {P : Out → Prop}

/-- a block that raises an exception of a built-in class, made by a built-in -/
noncomputable def RS (C : Ctx) (Γ : Gam) (X : String) (b : List Stmt) : Prop :=
  ∀ (k : Heap) (s : Shared) (Q : Flow → Shared → Prop) (E : Value → Shared → Prop), St C k Γ s.heap →
    (∀ e hm h' tk, Ext C.fs k hm → hm.FunFrames C.b0 C.fs → Heap.NewExc hm h' e X → E (.ref e) { s with heap := h', toks := tk }) → wpAny C.M C.A (execs b C.ev) Q E s

theorem Now.ob {k : Heap} {X : String} {e : Addr} {h : Heap} (x : Now C k X e h) : ∃ ob, h.get? e = some ob ∧ ob.cls = .type X := by
  obtain ⟨_, _, _, _, ob, t, T, oT, ts, he, hc, _⟩ := x
  exact ⟨ob, he, hc⟩

/-- try: .. except error: raise ValueError(msg) from None, where the body raises error -/
theorem BX1.tryover {b : List Stmt} {X : String} {xn : Str} {px np cpos cp npos rpos hpos pos : Pos} {kk kn} {msg : Str} {outer : List Env} (O : C.Ok) (hfs : C.fs = C.ev :: outer) (hf : C.ev.frame = some C.ev.locals)
    (hxk : C.ev.kindOf xn = some .globalImplicit) (hxv : C.Glob xn (.type X)) (hxd : (xn == ("__debug__" : Str)) = false) (hk : C.ev.kindOf "ValueError" = some .globalImplicit) (hv : C.Glob "ValueError" (.type "ValueError"))
    (f1 : isSubtype (.type X) (.type "BaseException") = pure true) (f2 : isSubtype (.type ((Manifest.find? X).elim "type" fun x => x.metatype)) (.type "tuple") = pure false) (f3 : isSubtype (.type X) (.type X) = pure true)
    (hB : RS C Γ X b) (h : P (.exc (.type "ValueError") [.str msg])) :
    BX1 C Γ (.Try b [.ExceptHandler (some (.Name xn px)) none [.Raise (some (.Call (.Name "ValueError" np) [.Constant (.str msg) kk cpos] [] cp)) (some (.Constant .none kn npos)) rpos] hpos] [] [] pos) P := fun k s Q E S hP => by
  refine wpAny_Try_except (hB k s _ _ S fun e hm h' tk xm fm mk => ?_)
  refine now_noted (s := ⟨h', s.gens, s.drawn, tk, s.os⟩) O.frames hfs hf xm fm mk fun h1 n1 => ?_
  refine now_flight (s := ⟨h1, s.gens, s.drawn, tk, s.os⟩) n1 fun h2 n2 => ?_
  have bb := b0_base S.baseK fm
  have hs2 : C.b0.StaysIn h2 := fun b o q => n2.stays b o (bb b o q)
  refine wpAny_handleBy_cons (codeAny_handlers_test ?_) (by intro q; cases q)
  have hg := ns_stays hs2 O.hg
  have hb := ns_stays hs2 O.hb
  refine Calls.Name_function_global O.kind hxk ?_ hxd
  have big : codeAny C.M (C.A.mark (some (.ref e))) (.handlers (.ref e) [.ExceptHandler none none [.Raise (some (.Call (.Name "ValueError" np) [.Constant (.str msg) kk cpos] [] cp)) (some (.Constant .none kn npos)) rpos] hpos] C.ev) (fun r s₂ => match r with
          | .ok f => Q f s₂
          | .error x => cameBackBy C.M C.A C.ev E x s₂) ⟨h2, s.gens, s.drawn, tk, s.os⟩ := by
    refine codeAny_handlers_suite (now_flight (s := ⟨h2, s.gens, s.drawn, tk, s.os⟩) n2 fun h3 n3 => ?_)
    refine wpAny_execs_cons ?_
    exact raise_none (s := ⟨h3, s.gens, s.drawn, tk, s.os⟩) O hfs hf hk hv S.baseK fm n3 fun e2 h4 tk4 x => hP _ h e2 h4 tk4 x
  have fin : wpAny C.M (C.A.mark (some (.ref e))) (excMatches (.ref e) (.type X)) (fun b s₂ => match (Except.ok (if b then Flow.brk else Flow.next) : Result) with
      | .ok .brk => codeAny C.M (C.A.mark (some (.ref e))) (.handlers (.ref e) [.ExceptHandler none none [.Raise (some (.Call (.Name "ValueError" np) [.Constant (.str msg) kk cpos] [] cp)) (some (.Constant .none kn npos)) rpos] hpos] C.ev) (fun r s₂ => match r with
          | .ok f => Q f s₂
          | .error x => cameBackBy C.M C.A C.ev E x s₂) s₂
      | .ok _ => wpAny C.M C.A (handleBy (.ref e) C.ev []) Q E s₂
      | .error x => cameBackBy C.M C.A C.ev E x s₂) (notedBy C.M (C.A.mark (some (.ref e))) C.ev fun x s₂ => cameBackBy C.M C.A C.ev E x s₂) ⟨h2, s.gens, s.drawn, tk, s.os⟩ := by
    obtain ⟨ob, he, hc⟩ := n2.ob
    exact wpAny_excMatches_type (X := X) (b := true) ⟨ob, he, hc⟩ f1 f2 f3 big
  rcases hxv with hxv | ⟨hn, hxv⟩
  · exact Calls.loadGlobal_global (by rw [O.globals]; exact hg) hxv fin
  · exact Calls.loadGlobal_builtin (by rw [O.globals]; exact hg) hn (by rw [O.builtins]; exact hb) hxv fin

/-- a try whose body raises nothing -/
theorem BX1.tryok {b : List Stmt} {h₀ : ExceptHandler} {hs : List ExceptHandler} {pos : Pos} (hB : BX C Γ b (fun o => ∃ Γ', o = .next Γ' ∧ P (.next Γ'))) : BX1 C Γ (.Try b (h₀ :: hs) [] [] pos) P := fun k s Q E S hP => by
  refine wpAny_Try_except (hB k s _ _ S fun o ho => ?_)
  obtain ⟨Γ', rfl, hp⟩ := ho
  exact fun h' tk S' => wpAny_execs_nil (hP _ hp h' tk S')
end
end Mine
end
section
set_option maxRecDepth 100000
set_option maxHeartbeats 4000000
set_option linter.unusedVariables false
namespace Mine
namespace B
theorem slot_join : Slot "bytes" "join" "bytes.join" :=
  .of (owner := "bytes") (n := "join") (by rw [typeLookup_type, builtinLookup_eq_fast]; kernel_rfl) (by decide +kernel) (by decide +kernel) (by decide +kernel)
    (by first | exact .inl (by decide +kernel) | exact .inr (by decide +kernel)) (by rw [isSubtype_type]; kernel_rfl)
theorem type_join : typeOf (.builtin "bytes.join") = pure (.type "method_descriptor") := by show builtinType _ = _; rw [builtinType_eq_fast]; kernel_rfl
theorem entry_join : entryFor table "bytes.join" = some Builtin.«bytes.join» := entryFor_of_tree (by kernel_rfl)
theorem args_join (a b : Value) : argsOk "bytes.join" ⟨[a, b], []⟩ := by unfold argsOk; kernel_rfl
end B
section
variable {prog : Program} {w : World} {A : Around} {E : Value → Shared → Prop} {s : Shared} {a q : Addr}
theorem call_pack {n : Int} {t u : Tok} {Q : Value → Shared → Prop} (ho : s.heap.get? q = some (boundM "_struct.Struct.pack" (.ref a))) (hx : s.heap.get? a = some (structO (.bytes #[33, 73] u)))
    (h : ∀ A' : Around, A'.handled = A.handled → wpAny (model prog w) A' (Builtin.Struct.packed "_struct.Struct.pack" "pack" fmtI [.int n t]) (fun fin s' => ∃ v, fin = .done (.ret v) ∧ Q v s') E s) : wpAny (model prog w) A (call (.ref q) [.int n t]) Q E s := by
  refine wpAny_call (codeAny_of_tree ?_)
  show wpAny _ _ (callAny (.ref q) _) _ _ _
  unfold callAny
  refine wpAny_bind (wpAny_load ho ?_)
  unfold boundM
  dsimp only
  rw [if_pos (by decide), show (#[Value.builtin "_struct.Struct.pack", Value.ref a] : Array Value)[0]? = some (.builtin "_struct.Struct.pack") from rfl, show (#[Value.builtin "_struct.Struct.pack", Value.ref a] : Array Value)[1]? = some (.ref a) from rfl]
  dsimp only
  rw [if_pos (by decide)]
  refine wpAny_bind (cb_pack hx ?_)
  refine wpAny_bind (wpAny_pure (wpAny_pure ⟨Code.quiet_builtin _ (by decide +kernel), codeAny_builtin B.entry_pack ?_⟩))
  refine wpAny_mono (pack_body hx (h _ rfl)) (fun fin s' hf => ?_) fun _ _ e => e
  obtain ⟨v, rfl, hv⟩ := hf
  exact hv
end
section
variable {C : Ctx} {Γ : Gam} {P : Out → Prop}
theorem co_join {bs : List (List UInt8)} (hz : bs.flatten.length ≤ 1000000) : CallOk C (.builtin "bytes.join") [vy [], .list (bs.map .bytes)] (vy bs.flatten) true := co_im2 (fun _ q => by cases q) fun s Q E x y rx ry h => by
  obtain ⟨t, rfl⟩ := rx
  obtain ⟨a, vs, rfl, hl, hr⟩ := ry
  refine wpAny_call (codeAny_call_builtin B.slot_join.plain B.entry_join (B.slot_join.check _ _ _ _ _ _ _ _ (typeIs_bytes _ _ _) (B.args_join _ _) ?_))
  exact join_wp hl hr hz fun u k => h _ s.heap k (fun _ _ e => e) ⟨u, rfl⟩

/-- the module's heap bears a Struct('!I') at a and its bound pack at q -/
structure PackAt (G : Glo) (q a : Addr) : Prop where
  bound : G.b0.get? q = some (boundM "_struct.Struct.pack" (.ref a))
  obj : ∃ u, G.b0.get? a = some (structO (.bytes #[33, 73] u))

theorem pack_any {i : Nat} {x : Str} {px cp : Pos} {q a : Addr} {n : Int} {e : Expr} {f : Bool} {s : Shared} {Q : Value → Shared → Prop} {E : Value → Shared → Prop} (O : C.Ok0) (K : PackAt C.toGlo q a) (hx : C.names[i]? = some x) (hv : Γ[i]? = some (some (.im (.raw (.ref q))))) (hd : (x == ("__debug__" : Str)) = false)
    (he : SE C Γ e (vi n) f) (hst : isStar e = false) (I : Inv C Γ s.heap)
    (h : ∀ h' tk t, Ext C.fs s.heap h' → ∀ A' : Around, A'.handled = C.A.handled → wpAny C.M A' (Builtin.Struct.packed "_struct.Struct.pack" "pack" fmtI [.int n t]) (fun fin s' => ∃ v, fin = .done (.ret v) ∧ Q v s') E { s with heap := h', toks := tk }) :
    wpAny C.M C.A (eval (.Call (.Name x px) [e] [] cp) C.ev) Q E s := by
  show wpAny C.M C.A (eval (.Name x px) C.ev >>= fun f => callWith cp f [] (backTo cp (starEach [e] C.ev)) (backToKw cp (keywordEach [] C.ev))) Q E s
  refine wpAny_bind (SE.name (v := .im (.raw (.ref q))) (i := i) O hx hv hd s _ E I fun w h₀ t₀ x₀ r₀ _ => ?_)
  obtain rfl : w = .ref q := r₀
  have I₀ := I.ext x₀
  refine callWith_ok (s := ⟨h₀, s.gens, s.drawn, t₀, s.os⟩) (noStars_of (by simp [hst])) rfl rfl (.one he hst) SKs.nil I₀ (fun h' hb => ⟨.machine, .inr (.inl rfl), looks_bound (hb _ _ K.bound) rfl rfl⟩) fun ws kw h₁ t₁ x₁ r₁ r₂ => ?_
  have I₁ := I₀.ext x₁
  cases r₁ with
  | cons rv r₁ =>
    cases r₁
    obtain ⟨t, rfl⟩ := rv
    obtain ⟨u, hu⟩ := K.obj
    exact call_pack (s := ⟨h₁, s.gens, s.drawn, t₁, s.os⟩) (I₁.base _ _ K.bound) (I₁.base _ _ hu) fun A' hA => h h₁ t₁ t (x₀.trans x₁) A' hA

theorem SE.pack {i : Nat} {x : Str} {px cp : Pos} {q a : Addr} {n : Int} {e : Expr} {f : Bool} (O : C.Ok0) (K : PackAt C.toGlo q a) (hx : C.names[i]? = some x) (hv : Γ[i]? = some (some (.im (.raw (.ref q))))) (hd : (x == ("__debug__" : Str)) = false)
    (he : SE C Γ e (vi n) f) (hst : isStar e = false) (h0 : 0 ≤ n) (h1 : n < 4294967296) : SE C Γ (.Call (.Name x px) [e] [] cp) (vy (u32 n)) true := fun s Q E I h =>
  pack_any O K hx hv hd he hst I fun h' tk t x A' hA => packed_ok h0 h1 fun u k => ⟨_, rfl, h _ h' k x ⟨u, rfl⟩ fun _ a e => by cases e⟩

/-- dapp(packI(n)) where n is too big -/
theorem RS.pack {i j : Nat} {x y : Str} {px py cp cp2 pos : Pos} {q a : Addr} {n : Int} {e : Expr} {f : Bool} {id : String} {jj : Nat} (O : C.Ok) (K : PackAt C.toGlo q a) (hx : C.names[i]? = some x) (hv : Γ[i]? = some (some (.im (.raw (.ref q))))) (hd : (x == ("__debug__" : Str)) = false)
    (hy : C.names[j]? = some y) (hm : Γ[j]? = some (some (.meth id jj))) (hdy : (y == ("__debug__" : Str)) = false) (hi : interactive C.ev = false)
    (he : SE C Γ e (vi n) f) (hst : isStar e = false) (h1 : 4294967296 ≤ n) : RS C Γ "struct.error" [.Expr (.Call (.Name y py) [.Call (.Name x px) [e] [] cp] [] cp2) pos] := fun k s Q E S hE => by
  obtain ⟨Ws, X⟩ := S.vars
  obtain ⟨r, _⟩ := X.reads j y _ hy hm
  refine wpAny_execs_cons (wpAny_Expr ?_ hi)
  show wpAny C.M C.A (eval (.Name y py) C.ev >>= fun f => callWith cp2 f [] (backTo cp2 (starEach [.Call (.Name x px) [e] [] cp] C.ev)) (backToKw cp2 (keywordEach [] C.ev))) _ E s
  refine wpAny_bind (name_any (h := s.heap) O.toOk0 r hdy ?_)
  unfold callWith
  refine wpAny_bind (wpAny_holding ?_)
  have key : wpAny C.M C.A (eval (.Call (.Name x px) [e] [] cp) C.ev) (fun _ _ => False) E s := by
    refine pack_any O.toOk0 K hx hv hd he hst S.inv fun h' tk t xx A' hA => ?_
    refine packed_err (hA.trans O.handled) h1 fun h2 tk2 e2 mk => ?_
    exact hE e2 h' h2 tk2 (S.ext.trans xx) (funFrames_slots xx.slots S.frames) mk
  show wpAny C.M C.A (evalArgs _ true [(false, eval (.Call (.Name x px) [e] [] cp) C.ev)] []) _ E s
  exact Calls.evalArgs_plain (Calls.spliced_cons (wpAny_mono key (fun _ _ q => q.elim) fun _ _ e => e))
end
end Mine
end
section
set_option maxRecDepth 100000
set_option maxHeartbeats 4000000
set_option linter.unusedVariables false
namespace Mine
section
variable {C : Ctx} {Γ : Gam} {P : Out → Prop}

theorem Vars.setIm {k h h' : Heap} {Γ : Gam} {i : Nat} {x : Str} {v : I} {w : Value} (O : C.Ok) (S : St C k Γ h) (hx : C.names[i]? = some x) (hm : noMeth Γ i) (S₂ : St0 C k h') (rx : Reads C.ev h' x w) (ro : ∀ y u, y ≠ x → Reads C.ev h y u → Reads C.ev h' y u) (st : ∀ b o, Still o → h.get? b = some o → h'.get? b = some o) (r : IRep v w) : St C k (Γ.set i (some (.im v))) h' := by
  obtain ⟨Ws, V⟩ := S.vars
  have hi : i < Γ.length := by rw [S.len]; exact (List.getElem?_eq_some_iff.mp hx).1
  exact ⟨S₂, ⟨_, vars_set O V hx (fun j hj => get_set_ne hj) (get_set_self' hi) hm rx ro st r (fun q => by cases q) (fun l q => by cases q) (fun _ _ q => by cases q)⟩, by rw [List.length_set]; exact S.len⟩

/-- a walk over items that the block may hold as its own -/
noncomputable def IO (C : Ctx) (Γ : Gam) (e : Expr) (items : List I) : Prop :=
  ∀ (k : Heap) (s : Shared) (Q : Value → Shared → Prop) (E : Value → Shared → Prop), St C k Γ s.heap →
    (∀ (J : Addr) (fp : List Addr) (T : Nat → Heap → Prop) h' tk, Ext C.fs s.heap h' → Walks C.prog C.w C.A J fp [J] items.length (fun i v => ∃ x, items[i]? = some x ∧ IRep x v) T → T 0 h' → s.heap.get? J = none →
      (∀ i h, T i h → ∃ o vs, h.get? J = some o ∧ o.data = .fields vs ∧ o.cls ≠ .type "builtin_function_or_method") →
      (∀ i h h₂, T i h → (∀ o, h.get? J = some o → h₂.get? J = some o) → (∀ b ∈ fp, b ≠ J → ∀ o, h.get? b = some o → ∃ sl, h₂.get? b = some { o with slots := sl }) → T i h₂) →
      (∀ b ∈ fp, b ≠ J → b ∉ fa C.fs ∧ ∃ o, h'.get? b = some o ∧ Still o) →
      Q (.ref J) { s with heap := h', toks := tk }) →
    wpAny C.M C.A (eval e C.ev) (fun x s₁ => wpAny C.M C.A (pyIter x) Q E s₁) E s

theorem IO.own {i : Nat} {x : Str} {pos : Pos} {l : List I} (O : C.Ok) (hx : C.names[i]? = some x) (hv : Γ[i]? = some (some (.own l))) (hd : (x == ("__debug__" : Str)) = false) : IO C Γ (.Name x pos) l := fun k s Q E S h => by
  obtain ⟨Ws, X⟩ := S.vars
  obtain ⟨r, _⟩ := X.reads i x _ hx hv
  obtain ⟨a, vs, n, ea, ho, hr, hk, hf⟩ := own_at X hx hv
  refine name_any (h := s.heap) O.toOk0 r hd ?_
  rw [ea]
  have hl : s.heap.IsList a vs.toArray := ⟨_, ho, rfl, n, rfl⟩
  have hne : a ≠ s.heap.objs.size := Nat.ne_of_lt (Heap.lt_size ho)
  refine wpAny_pyIter_list hl ?_
  refine h s.heap.objs.size [s.heap.objs.size, a] _ _ s.toks ((Ext.refl ..).push _) (Walks.conv' (Walks.list O.handled s.heap.objs.size a hne vs.toArray) (by simpa using hr.length.symm) ?_) ⟨⟨_, Heap.get?_push_size _ rfl, rfl, rfl⟩, hl.push _⟩ (Heap.get?_none_of_le (Nat.le_refl _)) ?_ ?_ ?_
  · intro i v hv
    have hv' : vs[i]? = some v := by simpa using hv
    have hi : i < l.length := by rw [hr.length]; exact (List.getElem?_eq_some_iff.mp hv').1
    obtain ⟨w, hw, rr⟩ := hr.get (k := i) (a := l[i]) (by simp [hi])
    rw [hv'] at hw; cases hw
    exact ⟨l[i], by simp [hi], rr⟩
  · rintro i h ⟨⟨o, ho, hc, hd⟩, _⟩
    exact ⟨o, _, ho, hd, by rw [hc]; simp⟩
  · exact fun i h h₂ t hJ hf => list_stable t hne hJ hf
  · intro b hb nb
    rcases List.mem_cons.mp hb with e | hb
    · exact absurd e nb
    · obtain rfl := List.mem_singleton.mp hb
      exact ⟨hf, _, Heap.get?_push_of_some _ ho, .inl ⟨_, _, rfl⟩⟩

theorem setNone {k h : Heap} {Γ : Gam} {i : Nat} (S : St C k Γ h) : St C k (Γ.set i none) h :=
  S.forget (by rw [List.length_set]) fun a v q => by
    by_cases e : a = i
    · subst e
      have := get_set_self q
      cases this
    · rwa [get_set_ne e] at q

/-- a for over any walk (a list of the block's own, too) whose body is one assignment to one name -/
theorem BX1.forA {i j : Nat} {x y : Str} {px py apos pos : Pos} {e e2 : Expr} {items : List I} {outer : List Env} {f : Bool} (g : Nat → I) (O : C.Ok) (hfs : C.fs = C.ev :: outer) (hfr : C.ev.frame = some C.ev.locals)
    (he : IO C Γ e items) (hx : C.names[i]? = some x) (hl : isLocal C x) (hy : C.names[j]? = some y) (hly : isLocal C y) (hij : i ≠ j) (h0 : Γ[j]? = some (some (.im (g 0)))) (hmi : noMeth Γ i) (hmj : noMeth Γ j)
    (turn : ∀ n v, items[n]? = some v → SE C ((Γ.set j (some (.im (g n)))).set i (some (.im v))) e2 (.im (g (n + 1))) f)
    (hs2 : swapsWith e2 (some (.Name y py)) apos.line C.ev = pure false)
    (done : P (.next ((Γ.set j (some (.im (g items.length)))).set i none))) (hs : ∀ x, foldedSetIterable e C.ev x = pure x) : BX1 C Γ (.For (.Name x px) e [.Assign [.Name y py] e2 apos] [] pos) P := fun k s Q E S hP => by
  refine wpAny_For (he k s _ E S fun J fp T h₁ t₁ x₁ W T₀ hJ hT hst hfp => ?_) hs
  have S₁ := S.ext' x₁
  obtain ⟨kJ, Jf⟩ := gone S.ext S.frames hJ
  have nomi : ∀ n, noMeth ((Γ.set j (some (.im (g n)))).set i none) i := fun n a id q => by
    by_cases e1 : a = i
    · subst e1
      have := get_set_self q
      cases this
    · rw [get_set_ne e1] at q
      by_cases e2 : a = j
      · subst e2
        have := get_set_self q
        cases this
      · rw [get_set_ne e2] at q
        exact hmi a id q
  have nomj : ∀ n v, noMeth ((Γ.set j (some (.im (g n)))).set i (some (.im v))) j := fun n v a id q => by
    by_cases e1 : a = i
    · subst e1
      have := get_set_self q
      cases this
    · rw [get_set_ne e1] at q
      by_cases e2 : a = j
      · subst e2
        have := get_set_self q
        cases this
      · rw [get_set_ne e2] at q
        exact hmj a id q
  have hjl : j < Γ.length := (List.getElem?_eq_some_iff.mp h0).1
  have fpE : ∀ (ha hb : Heap), Ext C.fs ha hb → (∀ b ∈ fp, b ≠ J → ∃ o, ha.get? b = some o ∧ Still o) → ∀ b ∈ fp, b ≠ J → ∃ o, hb.get? b = some o ∧ Still o := fun ha hb xx hh b hm nb => by
    obtain ⟨o, ho, ss⟩ := hh b hm nb
    exact ⟨o, xx.keep b o (hfp b hm nb).1 ho, ss⟩
  have tE : ∀ (m : Nat) (ha hb : Heap), T m ha → Ext C.fs ha hb → T m hb := fun m ha hb t xx => hst m ha hb t (fun o q => xx.keep J o Jf q) fun b hm nb o q => ⟨o.slots, xx.keep b o (hfp b hm nb).1 q⟩
  have tS : ∀ (m : Nat) (ha hb : Heap), T m ha → (∀ b ∈ fp, b ≠ J → ∃ o, ha.get? b = some o ∧ Still o) → (∀ b o, Still o → ha.get? b = some o → hb.get? b = some o) → T m hb ∧ ∀ b ∈ fp, b ≠ J → ∃ o, hb.get? b = some o ∧ Still o := fun m ha hb t hh st => by
    refine ⟨hst m ha hb t (fun o q => ?_) fun b hm nb o q => ?_, fun b hm nb => ?_⟩
    · obtain ⟨oJ, ws, q1, q2, _⟩ := hT m ha t
      rw [q1] at q; cases q
      exact st J _ (.inr ⟨ws, q2⟩) q1
    · obtain ⟨o', q1, ss⟩ := hh b hm nb
      have e : o' = o := Option.some.inj (q1.symm.trans q)
      rw [e] at ss
      exact ⟨o.slots, st b o ss q⟩
    · obtain ⟨o', q1, ss⟩ := hh b hm nb
      exact ⟨o', st b _ ss q1, ss⟩
  have start : Γ.set j (some (.im (g 0))) = Γ := by
    apply List.ext_getElem?
    intro a
    by_cases e : a = j
    · subst e
      rw [get_set_self' hjl, h0]
    · rw [get_set_ne e]
  refine codeAny_forLoop (R := fun r s' => match r with | .ok f => Q f s' | .error e => cameBackBy C.M C.A C.ev E e s')
    (fun n s' => ∃ m h' tk, n = items.length + 1 - m ∧ m ≤ items.length ∧ s' = { s with heap := h', toks := tk } ∧ St C k ((Γ.set j (some (.im (g m)))).set i none) h' ∧ T m h' ∧ ∀ b ∈ fp, b ≠ J → ∃ o, h'.get? b = some o ∧ Still o) ?_ (items.length + 1) ⟨0, h₁, t₁, rfl, Nat.zero_le _, rfl, (by rw [start]; exact setNone S₁), T₀, fun b hm nb => (hfp b hm nb).2⟩
  rintro n s' ⟨m, h', tk, rfl, hmle, rfl, S', hT', hfp'⟩
  obtain ⟨oI, wsI, hoI, hdI, hcI⟩ := hT m h' hT'
  by_cases hlt : m < items.length
  · refine W.item m _ _ _ hlt hT' fun v h₂ tk₂ hv hT₂ hk₂ => ?_
    obtain ⟨u, hu, hr⟩ := hv
    have S₃ : St C k ((Γ.set j (some (.im (g m)))).set i none) h₂ := S'.touch hoI hdI hcI kJ fun b o nb e => hk₂ b o (by simpa using nb) e
    have fp₂ : ∀ b ∈ fp, b ≠ J → ∃ o, h₂.get? b = some o ∧ Still o := fun b hm nb => by
      obtain ⟨o, ho, ss⟩ := hfp' b hm nb
      exact ⟨o, hk₂ b o (by simpa using nb) ho, ss⟩
    refine wpAny_assign_Name ?_
    refine store0 (s := ⟨h₂, s.gens, s.drawn, tk₂, s.os⟩) O S₃.toSt0 hl fun h₃ tk₃ S₄ rx ro st => ?_
    have S₅ := Vars.setIm O S₃ hx (nomi m) S₄ rx ro st hr
    rw [List.set_set] at S₅
    obtain ⟨hT₃, fp₃⟩ := tS (m + 1) h₂ h₃ hT₂ fp₂ st
    refine wpAny_execs_cons (wpAny_Assign_Name (turn m u hu ⟨h₃, s.gens, s.drawn, tk₃, s.os⟩ _ _ S₅.inv fun w h₄ tk₄ x₄ r₄ _ => ?_) hs2)
    have S₆ := S₅.ext' x₄
    refine store0 (s := ⟨h₄, s.gens, s.drawn, tk₄, s.os⟩) O S₆.toSt0 hly fun h₅ tk₅ S₇ rx5 ro5 st5 => ?_
    have S₈ := Vars.setIm O S₆ hy (nomj m u) S₇ rx5 ro5 st5 r₄
    obtain ⟨hT₅, fp₅⟩ := tS (m + 1) h₄ h₅ (tE _ _ _ hT₃ x₄) (fpE _ _ x₄ fp₃) st5
    refine wpAny_execs_nil ⟨items.length + 1 - (m + 1), by lia, m + 1, h₅, tk₅, rfl, hlt, rfl, ?_, hT₅, fp₅⟩
    have e9 : ((((Γ.set j (some (.im (g m)))).set i (some (.im u))).set j (some (.im (g (m + 1))))).set i none) = ((Γ.set j (some (.im (g (m + 1))))).set i none) := by
      rw [List.set_comm _ _ hij, List.set_set, List.set_set]
    rw [← e9]
    exact setNone S₈
  · have hme : m = items.length := by lia
    subst hme
    refine W.done _ _ _ hT' fun h₂ tk₂ hk₂ => wpAny_execs_nil ?_
    have S₃ : St C k ((Γ.set j (some (.im (g items.length)))).set i none) h₂ := S'.touch hoI hdI hcI kJ fun b o nb e => hk₂ b o (by simpa using nb) e
    exact hP _ done h₂ tk₂ S₃
end
end Mine
end
section
set_option maxRecDepth 100000
set_option maxHeartbeats 4000000
set_option linter.unusedVariables false
namespace Mine
/-- the same block over a larger base -/
@[reducible] noncomputable def reb (C : Ctx) (b : Heap) : Ctx := { toGlo := { prog := C.prog, w := C.w, b0 := b, mg := C.mg, mb := C.mb }, A := C.A, ev := C.ev, fs := C.fs, names := C.names, lvl := C.lvl }
section
variable {C : Ctx} {Γ : Gam} {P : Out → Prop}

theorem reb_ok {b : Heap} (O : C.Ok) (hb : C.b0.StaysIn b) : (reb C b).Ok where
  glo := ⟨O.glo.hg.keeps hb, O.glo.hb.keeps hb, O.glo.lim.keeps hb⟩
  kind := O.kind
  globals := O.globals
  builtins := O.builtins
  frames := O.frames
  handled := O.handled
  room := O.room
  units := O.units
  guards := O.guards
  cellsInj := O.cellsInj
  nodup := O.nodup

theorem reb_st {b k h : Heap} {Γ : Gam} (S : St C k Γ h) (hb : b.StaysIn k) (hn : ∀ a ∈ fa C.fs, b.get? a = none) : St (reb C b) k Γ h :=
  ⟨⟨hb, S.ext, frames_on S.frames hn, S.loc, S.cells⟩, let ⟨Ws, X⟩ := S.vars; ⟨Ws, X.reads, X.own, X.meth⟩, S.len⟩
theorem reb_back {b k h : Heap} {Γ : Gam} (S : St (reb C b) k Γ h) (hb : C.b0.StaysIn b) : St C k Γ h :=
  ⟨⟨fun a o e => S.baseK a o (hb a o e), S.ext, frames_back hb S.frames, S.loc, S.cells⟩, let ⟨Ws, X⟩ := S.vars; ⟨Ws, X.reads, X.own, X.meth⟩, S.len⟩
theorem reb_exc {b k h : Heap} {e : Addr} {cls : Value} {args : List I} (x : Exc (reb C b) k e cls args h) (hb : C.b0.StaysIn b) : Exc C k e cls args h := by
  obtain ⟨vs, ha, hs, y⟩ := x
  refine ⟨vs, ha, hs, ?_⟩
  rcases y with ⟨hm, xm, fm, mk⟩ | y | y
  · exact .inl ⟨hm, xm, frames_back hb fm, mk⟩
  · exact .inr (.inl y)
  · exact .inr (.inr y)

theorem BX.rebase {k k₁ h b : Heap} {Γ' : Gam} {rest : List Stmt} {s : Shared} {Q : Flow → Shared → Prop} {E : Value → Shared → Prop} (hbb : C.b0.StaysIn b) (S : St C k Γ s.heap) (S₁ : St C k₁ Γ s.heap) (xk : Ext C.fs k k₁) (hb : b.StaysIn k₁) (hn : ∀ a ∈ fa C.fs, b.get? a = none)
    (h : BX (reb C b) Γ rest P) (hP : ∀ o, P o → o.K C k s Q E) : wpAny C.M C.A (execs rest C.ev) Q E s := by
  have hkL : k.get? C.ev.locals = none := let ⟨_, _, q, _⟩ := S.loc; q
  refine h k₁ s Q E (reb_st S₁ hb hn) fun o ho => ?_
  have key := hP o ho
  cases o with
  | next Γ'' => exact fun h' tk S9 => key h' tk (St.weaken xk (reb_back S9 hbb) S.baseK hkL)
  | cont Γ'' => exact fun h' tk S9 => key h' tk (St.weaken xk (reb_back S9 hbb) S.baseK hkL)
  | brk Γ'' => exact fun h' tk S9 => key h' tk (St.weaken xk (reb_back S9 hbb) S.baseK hkL)
  | ret v fr =>
    intro w h' tk x f r fr'
    refine key w h' tk (xk.trans x) (frames_back hbb f) r fun q => ⟨fun a e => ?_, (fr' q).2⟩
    obtain ⟨h1, h2⟩ := (fr' q).1 a e
    refine ⟨?_, h2⟩
    cases qq : k.get? a with
    | none => rfl
    | some o3 => rw [xk.keep a o3 ((fr' q).2 a e) qq] at h1; cases h1
  | exc cls args => exact fun e h' tk x => key e h' tk ((reb_exc x hbb).weaken xk)

theorem fmtS_eq : ("!I" : Str) = ⟨#[33, 73]⟩ := by decide +kernel

theorem BX.packI {i : Nat} {x : Str} {px nx cpos cp ap pos : Pos} {kk : Nat} {rest : List Stmt} (O : C.Ok) (hx : C.names[i]? = some x) (hl : isLocal C x) (hm : noMeth Γ i) (hS : C.ev.kindOf "Struct" = some .globalImplicit) (hSv : C.Glob "Struct" (.type "_struct.Struct"))
    (h : ∀ (b : Heap) (q a : Addr), C.b0.StaysIn b → PackAt (reb C b).toGlo q a → BX (reb C b) (Γ.set i (some (.im (.raw (.ref q))))) rest P) :
    BX C Γ (.Assign [.Name x px] (.Attribute (.Call (.Name "Struct" nx) [.Constant (.str "!I") kk cpos] [] cp) "pack" ap) pos :: rest) P := fun k s Q E S hP => by
  refine wpAny_execs_cons (wpAny_Assign_Name (Attribute_any_ ?_) rfl)
  refine callB_any (vs := [vs' "!I"]) O.toOk0 hS hSv (by decide) (by intro a q; cases q) (noStars_of rfl) (.one SE.const_str rfl) S.inv fun ws h₁ t₁ x₁ r₁ => ?_
  cases r₁ with
  | cons rv r₁ =>
    cases r₁
    obtain ⟨t, rfl⟩ := rv
    have S₁ := S.ext' x₁
    rw [fmtS_eq]
    refine call_struct (s := ⟨h₁, s.gens, s.drawn, t₁, s.os⟩) O.guards fun h₂ t₂ u k₂ hn₂ ha₂ => ?_
    have x₂ : Ext C.fs h₁ h₂ := .of_keeps k₂
    have S₂ := S₁.ext' x₂
    refine getAttr_pack (h := h₂) ha₂ ?_
    generalize hav : (Heap.objs h₁).size = av at *
    have x₃ : Ext C.fs h₂ (h₂.push (boundM "_struct.Struct.pack" (.ref av))) := (Ext.refl ..).push _
    have S₃ := S₂.ext' x₃
    have hq₃ : (h₂.push (boundM "_struct.Struct.pack" (.ref av))).get? h₂.objs.size = some (boundM "_struct.Struct.pack" (.ref av)) := Heap.get?_push_size _ rfl
    have ha₃ : (h₂.push (boundM "_struct.Struct.pack" (.ref av))).get? av = some (structO (.bytes #[33, 73] u)) := Heap.get?_push_of_some _ ha₂
    generalize h₂.objs.size = qv at *
    generalize h₂.push (boundM "_struct.Struct.pack" (.ref av)) = h₃ at *
    refine store0 (s := ⟨h₃, s.gens, s.drawn, t₂ + 1, s.os⟩) O S₃.toSt0 hl fun h₄ t₄ S₄ rx ro st => ?_
    have S₅ := Vars.setIm (v := .raw (.ref qv)) O S₃ hx hm S₄ rx ro st rfl
    have hq₄ := st _ _ (.inr ⟨_, rfl⟩) hq₃
    have ha₄ := st _ _ (.inr ⟨_, rfl⟩) ha₃
    obtain ⟨Ws, k₁, X, Sk, xk, stay⟩ := ghost S₅
    have hq₅ := stay _ _ hq₄ (fields_off S₅ X hq₄ rfl)
    have ha₅ := stay _ _ ha₄ (fields_off S₅ X ha₄ rfl)
    have off : ∀ {b o} {vs : Array Value}, h₄.get? b = some o → o.data = .fields vs → b ∉ fa C.fs := fun e hd hmem => by
      obtain ⟨_, o', ho', hn⟩ := S₅.frames.mem hmem
      rw [e] at ho'; cases ho'; exact hn _ hd
    exact BX.rebase (s := ⟨h₄, s.gens, s.drawn, t₄, s.os⟩) (Γ' := Γ) (h := h₄) (b0_base Sk.baseK S₅.frames) S₅ Sk xk (fun b o e => of_hideAll _ e) (fun a hm => hideAll_none _ hm)
      (h (base C k₁) qv av (b0_base Sk.baseK S₅.frames) ⟨hideAll_get _ hq₅ (off hq₄ rfl), u, hideAll_get _ ha₅ (off ha₄ rfl)⟩) fun o ho => (hP o ho).at h₄ t₄
end
end Mine
end
section
set_option maxRecDepth 100000
set_option maxHeartbeats 4000000
set_option linter.unusedVariables false
set_option linter.unusedSimpArgs false
namespace Mine
variable {G : Glo} {pm cd : Value}
/-- names of the Struct module -/
structure Gl3 (G : Glo) : Prop where
  tStruct : G.At "Struct" (.type "_struct.Struct")
  eStruct : G.At "error" (.type "struct.error")

noncomputable def acc85 (l : List Int) : Int := l.foldl (fun a x => 85 * a + (x - 33)) 0
noncomputable def run85 (sp : Bool) (pa : List UInt8) : List Int → List (List UInt8) → List Int → Except Str (List (List UInt8) × List Int)
  | [], D, c => .ok (D, c)
  | x :: r, D, c =>
    if 33 ≤ x ∧ x ≤ 117 then
      if (c ++ [x]).length = 5 then
        if 4294967296 ≤ acc85 (c ++ [x]) then .error ovS else run85 sp pa r (D ++ [u32 (acc85 (c ++ [x]))]) []
      else run85 sp pa r D (c ++ [x])
    else if x = 122 then (if c = [] then run85 sp pa r (D ++ [[0, 0, 0, 0]]) c else .error zS)
    else if (sp && x == 121) = true then (if c = [] then run85 sp pa r (D ++ [[32, 32, 32, 32]]) c else .error yS)
    else if pa.contains x.toNat.toUInt8 = true then run85 sp pa r D c
    else .error (digS x)
noncomputable def end85 (D : List (List UInt8)) (c : List Int) : List UInt8 := if (4 - (c.length : Int)) = 0 then D.flatten else cut D.flatten none (some (-(4 - (c.length : Int))))
noncomputable def fin85 : Except Str (List (List UInt8) × List Int) → I
  | .error m => .str m
  | .ok (D, c) => .bytes (end85 D c)
noncomputable def str85 (t : List UInt8) (sp : Bool) (pa : List UInt8) : I := fin85 (run85 sp pa (bI (t ++ [117, 117, 117, 117])) [] [])
noncomputable def a85 (t : List UInt8) (sp fr : Bool) (pa : List UInt8) : I :=
  if fr then
    if endsB t [126, 62] then (if startsB t [60, 126] then str85 (cut t (some 2) (some (-2))) sp pa else str85 (cut t none (some (-2))) sp pa)
    else .str endT
  else str85 t sp pa
theorem acc85_next {l : List Int} {n : Nat} {x : Int} (h : l[n]? = some x) : acc85 (l.take (n + 1)) = 85 * acc85 (l.take n) + (x - 33) := by
  unfold acc85
  rw [take_next h, List.foldl_append]; rfl
theorem acc85_pos {l : List Int} (h : ∀ x ∈ l, 33 ≤ x) : 0 ≤ acc85 l := by
  unfold acc85
  suffices ∀ (l : List Int) (a : Int), 0 ≤ a → (∀ x ∈ l, 33 ≤ x) → 0 ≤ l.foldl (fun a x => 85 * a + (x - 33)) a from this l 0 (by lia) h
  intro l
  induction l with
  | nil => intro a ha _; exact ha
  | cons x l ih =>
    intro a ha hx
    have := hx x (by simp)
    rw [List.foldl_cons]
    exact ih (85 * a + (x - 33)) (by lia) fun y hy => hx y (by simp [hy])
theorem flat4 {D : List (List UInt8)} (h : ∀ d ∈ D, d.length = 4) : D.flatten.length = 4 * D.length := by
  induction D with
  | nil => rfl
  | cons d D ih =>
    rw [List.flatten_cons, List.length_append, ih fun x hx => h x (by simp [hx]), h d (by simp), List.length_cons]; lia

theorem sp_a85 (GO : G.Ok) (W : Gl G) (W2 : Gl2 G) (W3 : Gl3 G) (FD : FnAt G 72) (SD : ∀ b, Spec G 1 72 [vy b] [] (fun o => o = .ret (vy b) true)) (DK : ∃ m t, G.b0.Ns 184 m ∧ m "ignorechars" = some (.bytes [32, 9, 10, 13, 11].toArray t))
    (F : FnOk G 191 (mkFd 29 "a85decode" .none (.ref 184) pm cd) (fB 29) ["b", "foldspaces", "adobe", "ignorechars"] ["b", "foldspaces", "adobe", "ignorechars", "packI", "decoded", "decoded_append", "curr", "curr_append", "curr_clear", "x", "acc", "result", "padding"])
    (t : List UInt8) (hl : t.length ≤ 1000) (sp fr : Bool) (po : Option (List UInt8)) : Spec G 2 191 [vy t] (("foldspaces", vb sp) :: ("adobe", vb fr) :: kwP po) (AI (a85 t sp fr (skO po))) := by
  refine Spec.of_body (vs' := [vy t, vb sp, vb fr, vy (skO po)]) GO F (show ∀ x ∈ (fS 29).names, x.2 ≠ .cell by decide) rfl (noMeths_im (l := [.bytes t, .bool sp, .bool fr, .bytes (skO po)])) (fun s ws kw hb h h2 => ?_) fun A fs L O => ?_
  · obtain ⟨w, rfl, h1⟩ := all2_one h
    cases po with
    | some p =>
      obtain ⟨f, a, i, rfl, k1, k2, k3⟩ := all2_three h2
      exact ⟨[w, f, a, i], .cons h1 (.cons k1 (.cons k2 (.cons k3 .nil))), .of_eq rfl⟩
    | none =>
      obtain ⟨f, a, rfl, k1, k2⟩ := all2_two h2
      obtain ⟨m, tk, hm, hmi⟩ := DK
      refine ⟨[w, f, a, .bytes [32, 9, 10, 13, 11].toArray tk], .cons h1 (.cons k1 (.cons k2 (.cons ⟨tk, rfl⟩ .nil))), kwb w f a _ (hm.keeps hb) hmi⟩
  generalize skO po = pa
  have step : ∀ (t : List UInt8), t.length ≤ 1000 → BX (mkC G A fs (callEnv (mkFd 29 "a85decode" .none (.ref 184) pm cd) L 191) ["b", "foldspaces", "adobe", "ignorechars", "packI", "decoded", "decoded_append", "curr", "curr_append", "curr_clear", "x", "acc", "result", "padding"] 1) [some (vy t), some (vb sp), some (vb fr), some (vy pa), none, none, none, none, none, none, none, none, none, none] ((fB 29).drop 2) (Outs (AI (str85 t sp pa))) := by
    intro t hl
    refine BX.packI (i := 4) O rfl (.inl rfl) (noMeth_of rfl) rfl W3.tStruct fun b0 q a hb K => ?_
    have O2 := reb_ok O hb
    show BX _ [some (vy t), some (vb sp), some (vb fr), some (vy pa), some (.im (.raw (.ref q))), none, none, none, none, none, none, none, none, none] _ _
    refine BX.cons (BX1.assign_new O2 (l := []) (SE.listd (l := []) .nil (by decide)) (i := 5) rfl (.inl rfl) (noMeth_of rfl) rfl ?_)
    refine BX.cons (BX1.assign_meth O2 (i := 5) (j := 6) (nm := "append") (by decide) rfl rfl (by decide) rfl (.inl rfl) (noMeth_of rfl) PySem.F.slot_list_append.lookup PySem.F.type_list_append B.own_append (by decide +kernel) (by decide +kernel) ?_)
    refine BX.cons (BX1.assign_new O2 (l := []) (SE.listd (l := []) .nil (by decide)) (i := 7) rfl (.inl rfl) (noMeth_of rfl) rfl ?_)
    refine BX.cons (BX1.assign_meth O2 (i := 7) (j := 8) (nm := "append") (by decide) rfl rfl (by decide) rfl (.inl rfl) (noMeth_of rfl) PySem.F.slot_list_append.lookup PySem.F.type_list_append B.own_append (by decide +kernel) (by decide +kernel) ?_)
    refine BX.cons (BX1.assign_meth O2 (i := 7) (j := 9) (nm := "clear") (by decide) rfl rfl (by decide) rfl (.inl rfl) (noMeth_of rfl) PySem.F.slot_list_clear.lookup PySem.F.type_list_clear B.own_clear (by decide +kernel) (by decide +kernel) ?_)
    have hxl : (bI (t ++ [117, 117, 117, 117])).length ≤ 1004 := by rw [bI_len]; simp; lia
    have hxin := bI_in (t ++ [117, 117, 117, 117])
    have hits : byI (t ++ [117, 117, 117, 117]) = (bI (t ++ [117, 117, 117, 117])).map .int := byI_bI _
    have hstr : str85 t sp pa = fin85 (run85 sp pa (bI (t ++ [117, 117, 117, 117])) [] []) := rfl
    refine BX.cons (BX1.fors (i := 10) (s₀ := (([], []) : List (List UInt8) × List Int)) (fun a => [some (vy t), some (vb sp), some (vb fr), some (vy pa), some (.im (.raw (.ref q))), some (.own (a.1.map .bytes)), some (.meth "list.append" 5), some (.own (a.2.map .int)), some (.meth "list.append" 7), some (.meth "list.clear" 7), none, none, none, none]) (fun n a => run85 sp pa ((bI (t ++ [117, 117, 117, 117])).drop n) a.1 a.2 = run85 sp pa (bI (t ++ [117, 117, 117, 117])) [] [] ∧ a.2.length < 5 ∧ (∀ x ∈ a.2, 33 ≤ x) ∧ (∀ d ∈ a.1, d.length = 4) ∧ a.1.length ≤ n) O2 rfl rfl (.bytes O2 (b := t ++ [117, 117, 117, 117]) (SE.binop (SE.nm (i := 0) O2.toOk0 rfl rfl (by decide)) (SE.im (v' := vy [117, 117, 117, 117]) (SE.binop SE.const_bytes SE.const_int (op_mul_bytes (by decide) (by decide) (by decide) (by decide))) rfl) (op_add_bytes (by simp; lia)))) rfl (.inl rfl) (Sub.refl _) ⟨rfl, by decide, by simp, by simp, by simp⟩ (fun n => noMeth_of rfl) (fun n v a hv hR => ?_) (fun a hR => ?_) (fun _ => rfl))
    · rw [hits, List.getElem?_map, Option.map_eq_some_iff] at hv
      obtain ⟨x, hx, rfl⟩ := hv
      obtain ⟨D, c⟩ := a
      obtain ⟨hrun, hc5, hcin, hd4, hdl⟩ := hR
      simp only at hrun hc5 hcin hd4 hdl
      generalize hxs : bI (t ++ [117, 117, 117, 117]) = xs at *
      have hnl : n < xs.length := (List.getElem?_eq_some_iff.mp hx).1
      have hx0 := hxin x (List.mem_of_getElem? hx)
      have hdrop : xs.drop n = x :: xs.drop (n + 1) := by
        rw [List.drop_eq_getElem_cons hnl]
        congr 1
        exact (List.getElem?_eq_some_iff.mp hx).2
      rw [hdrop] at hrun
      rw [run85] at hrun
      show BX _ [some (vy t), some (vb sp), some (vb fr), some (vy pa), some (.im (.raw (.ref q))), some (.own (D.map .bytes)), some (.meth "list.append" 5), some (.own (c.map .int)), some (.meth "list.append" 7), some (.meth "list.clear" 7), some (vi x), none, none, none] _ _
      refine BX.cons (BX1.ite (ST.cmp (SE.im (v' := vi 33) (SE.sub_bytes (b := [33]) (i := 0) SE.const_bytes SE.const_int (by lia) (by decide) (by decide) (fun _ _ => rfl)) rfl) (TC.cons (SE.nm (i := 10) O2.toOk0 rfl rfl (by decide)) cmp_le fun _ => TC.one (SE.im (v' := vi 117) (SE.sub_bytes (b := [117]) (i := 0) SE.const_bytes SE.const_int (by lia) (by decide) (by decide) (fun _ _ => rfl)) rfl) cmp_le rfl)) (fun h => ?_) fun h => ?_)
      · simp only [Bool.and_eq_true, decide_eq_true_eq] at h
        rw [if_pos h] at hrun
        refine BX.cons (BX1.methAppend O2 (i := 7) (j := 8) rfl rfl rfl rfl (by decide) (SE.nm (i := 10) O2.toOk0 rfl rfl (by decide)) rfl (by simp; lia) rfl ?_)
        have e1 : (c.map I.int ++ [I.int x]) = (c ++ [x]).map I.int := by simp
        show BX _ [some (vy t), some (vb sp), some (vb fr), some (vy pa), some (.im (.raw (.ref q))), some (.own (D.map .bytes)), some (.meth "list.append" 5), some (.own (c.map .int ++ [.int x])), some (.meth "list.append" 7), some (.meth "list.clear" 7), some (vi x), none, none, none] _ _
        rw [e1]
        have hcin' : ∀ y ∈ c ++ [x], 33 ≤ y := fun y hy => by
          rcases List.mem_append.mp hy with q | q
          · exact hcin y q
          · simp at q; lia
        have hcl' : (c ++ [x]).length ≤ 5 := by simp; lia
        generalize c ++ [x] = c' at *
        by_cases h5 : c'.length = 5
        · rw [if_pos h5] at hrun
          refine BX.cons (BX1.ite (b := true) (ST.eq (ST.cmp (SE.im (v' := vi ((c'.length : Nat) : Int)) (SE.callB O2.toOk0 rfl W.bLen (by decide) (by intro a q; cases q) rfl (.one (SE.no (i := 7) O2.toOk0 rfl rfl (by decide)) rfl) (co_len_list (by simp; lia))) (by simp)) (TC.one SE.const_int cmp_eq rfl)) (by simp [h5])) (fun _ => ?_) (fun e => by cases e))
          refine BX.cons (BX1.assign_im O2 SE.const_int (i := 11) rfl (.inl rfl) (noMeth_of rfl) rfl ?_)
          refine BX.cons (BX1.forA (i := 10) (j := 11) (f := true) (fun m => .int (acc85 (c'.take m))) O2 rfl rfl (IO.own (i := 7) O2 rfl rfl (by decide)) rfl (.inl rfl) rfl (.inl rfl) (by decide) rfl (noMeth_of rfl) (noMeth_of rfl) (fun m v hv => ?_) rfl ?_ (fun _ => rfl))
          · rw [List.getElem?_map, Option.map_eq_some_iff] at hv
            obtain ⟨y, hy, rfl⟩ := hv
            rw [acc85_next hy]
            exact SE.binop (SE.binop SE.const_int (SE.nm (i := 11) O2.toOk0 rfl rfl (by decide)) (op_mul (by lia))) (SE.binop (SE.nm (i := 10) O2.toOk0 rfl rfl (by decide)) SE.const_int op_sub) op_add
          · rw [List.length_map, List.take_length]
            show BX _ [some (vy t), some (vb sp), some (vb fr), some (vy pa), some (.im (.raw (.ref q))), some (.own (D.map .bytes)), some (.meth "list.append" 5), some (.own (c'.map .int)), some (.meth "list.append" 7), some (.meth "list.clear" 7), none, some (vi (acc85 c')), none, none] _ _
            by_cases hov : 4294967296 ≤ acc85 c'
            · rw [if_pos hov] at hrun
              refine BX.cons (BX1.tryover O2 rfl rfl rfl W3.eStruct (by decide) rfl W.vErr (by rw [isSubtype_type]; kernel_rfl) (by rw [isSubtype_type]; kernel_rfl) (by rw [isSubtype_type]; kernel_rfl) (RS.pack O2 K (i := 4) (j := 6) rfl rfl (by decide) rfl rfl (by decide) rfl (SE.nm (i := 11) O2.toOk0 rfl rfl (by decide)) rfl hov) ?_)
              show AI (str85 t sp pa) _
              exact .inr ⟨ovS, by rw [hstr, ← hrun]; rfl, rfl⟩
            · rw [if_neg hov] at hrun
              refine BX.cons (BX1.tryok (BX.cons (BX1.methAppend O2 (i := 5) (j := 6) rfl rfl rfl rfl (by decide) (SE.pack (i := 4) O2.toOk0 K rfl rfl (by decide) (SE.nm (i := 11) O2.toOk0 rfl rfl (by decide)) rfl (acc85_pos hcin') (by lia)) rfl (by simp; lia) rfl (BX.nil ⟨_, rfl, ?_⟩))))
              refine BX.cons (BX1.methClear O2 (i := 7) (j := 9) rfl rfl rfl rfl (by decide) (by simp; lia) rfl ?_)
              refine BX.nil (BX.nil (BX.done (Γ' := [some (vy t), some (vb sp), some (vb fr), some (vy pa), some (.im (.raw (.ref q))), some (.own ((D ++ [u32 (acc85 c')]).map .bytes)), some (.meth "list.append" 5), some (.own ([].map .int)), some (.meth "list.append" 7), some (.meth "list.clear" 7), none, none, none, none]) ?_ ⟨(D ++ [u32 (acc85 c')], []), rfl, hrun, by simp, by simp, ?_, ?_⟩))
              · rw [List.map_append]
                exact .k (.k (.k (.k (.k (.k (.k (.k (.k (.k (.k (.d (.k (.k .nil)))))))))))))
              · intro d hd
                rcases List.mem_append.mp hd with q | q
                · exact hd4 d q
                · simp at q; rw [q]; rfl
              · simp; lia
        · rw [if_neg h5] at hrun
          refine BX.cons (BX1.ite (b := false) (ST.eq (ST.cmp (SE.im (v' := vi ((c'.length : Nat) : Int)) (SE.callB O2.toOk0 rfl W.bLen (by decide) (by intro a q; cases q) rfl (.one (SE.no (i := 7) O2.toOk0 rfl rfl (by decide)) rfl) (co_len_list (by simp; lia))) (by simp)) (TC.one SE.const_int cmp_eq rfl)) (by simp; lia)) (fun e => by cases e) (fun _ => ?_))
          exact BX.nil (BX.nil (BX.done (Γ' := [some (vy t), some (vb sp), some (vb fr), some (vy pa), some (.im (.raw (.ref q))), some (.own (D.map .bytes)), some (.meth "list.append" 5), some (.own (c'.map .int)), some (.meth "list.append" 7), some (.meth "list.clear" 7), none, none, none, none]) (.k (.k (.k (.k (.k (.k (.k (.k (.k (.k (.d (.k (.k (.k .nil)))))))))))))) ⟨(D, c'), rfl, hrun, by simp only; lia, hcin', hd4, by simp only; lia⟩))
      · have h' : ¬ (33 ≤ x ∧ x ≤ 117) := by
          intro q
          rw [decide_eq_true q.1, decide_eq_true q.2] at h
          cases h
        rw [if_neg h'] at hrun
        refine BX.cons (BX1.ite (ST.cmp (SE.nm (i := 10) O2.toOk0 rfl rfl (by decide)) (TC.one (SE.im (v' := vi 122) (SE.sub_bytes (b := [122]) (i := 0) SE.const_bytes SE.const_int (by lia) (by decide) (by decide) (fun _ _ => rfl)) rfl) cmp_eq rfl)) (fun h => ?_) fun h => ?_)
        · rw [if_pos (by simpa using h)] at hrun
          by_cases hc : c = []
          · rw [if_pos hc] at hrun
            refine BX.cons (BX1.ite (b := false) (ST.eq (ST.val (SE.no (i := 7) O2.toOk0 rfl rfl (by decide)) (tr_list (by simp; lia)) (fun _ _ => rfl)) (by simp [hc])) (fun e => by cases e) (fun _ => ?_))
            refine BX.nil (BX.cons (BX1.methAppend O2 (i := 5) (j := 6) rfl rfl rfl rfl (by decide) SE.const_bytes rfl (by simp; lia) rfl ?_))
            refine BX.nil (BX.nil (BX.done (Γ' := [some (vy t), some (vb sp), some (vb fr), some (vy pa), some (.im (.raw (.ref q))), some (.own ((D ++ [[0, 0, 0, 0]]).map .bytes)), some (.meth "list.append" 5), some (.own (c.map .int)), some (.meth "list.append" 7), some (.meth "list.clear" 7), none, none, none, none]) ?_ ⟨(D ++ [[0, 0, 0, 0]], c), rfl, hrun, hc5, hcin, ?_, ?_⟩))
            · rw [List.map_append]
              exact .k (.k (.k (.k (.k (.k (.k (.k (.k (.k (.d (.k (.k (.k .nil)))))))))))))
            · intro d hd
              rcases List.mem_append.mp hd with q | q
              · exact hd4 d q
              · simp at q; rw [q]; rfl
            · simp; lia
          · rw [if_neg hc] at hrun
            refine BX.cons (BX1.ite (b := true) (ST.eq (ST.val (SE.no (i := 7) O2.toOk0 rfl rfl (by decide)) (tr_list (by simp; lia)) (fun _ _ => rfl)) (by simp [hc])) (fun _ => ?_) (fun e => by cases e))
            refine BX.cons (BX1.raise_val O2 rfl W.vErr (by decide) SE.const_str rfl ?_)
            show AI (str85 t sp pa) _
            exact .inr ⟨zS, by rw [hstr, ← hrun]; rfl, rfl⟩
        rw [if_neg (by simpa using h)] at hrun
        refine BX.cons (BX1.ite (ST.and (TAnd.cons (ST.val (SE.nm (i := 1) O2.toOk0 rfl rfl (by decide)) tr_bool (fun _ _ => rfl)) fun _ => TAnd.cons (ST.cmp (SE.nm (i := 10) O2.toOk0 rfl rfl (by decide)) (TC.one (SE.im (v' := vi 121) (SE.sub_bytes (b := [121]) (i := 0) SE.const_bytes SE.const_int (by lia) (by decide) (by decide) (fun _ _ => rfl)) rfl) cmp_eq rfl)) fun _ => TAnd.nil)) (fun h => ?_) fun h => ?_)
        · rw [Bool.and_true] at h
          rw [if_pos h] at hrun
          by_cases hc : c = []
          · rw [if_pos hc] at hrun
            refine BX.cons (BX1.ite (b := false) (ST.eq (ST.val (SE.no (i := 7) O2.toOk0 rfl rfl (by decide)) (tr_list (by simp; lia)) (fun _ _ => rfl)) (by simp [hc])) (fun e => by cases e) (fun _ => ?_))
            refine BX.nil (BX.cons (BX1.methAppend O2 (i := 5) (j := 6) rfl rfl rfl rfl (by decide) SE.const_bytes rfl (by simp; lia) rfl ?_))
            refine BX.nil (BX.nil (BX.nil (BX.done (Γ' := [some (vy t), some (vb sp), some (vb fr), some (vy pa), some (.im (.raw (.ref q))), some (.own ((D ++ [[32, 32, 32, 32]]).map .bytes)), some (.meth "list.append" 5), some (.own (c.map .int)), some (.meth "list.append" 7), some (.meth "list.clear" 7), none, none, none, none]) ?_ ⟨(D ++ [[32, 32, 32, 32]], c), rfl, hrun, hc5, hcin, ?_, ?_⟩)))
            · rw [List.map_append]
              exact .k (.k (.k (.k (.k (.k (.k (.k (.k (.k (.d (.k (.k (.k .nil)))))))))))))
            · intro d hd
              rcases List.mem_append.mp hd with q | q
              · exact hd4 d q
              · simp at q; rw [q]; rfl
            · simp; lia
          · rw [if_neg hc] at hrun
            refine BX.cons (BX1.ite (b := true) (ST.eq (ST.val (SE.no (i := 7) O2.toOk0 rfl rfl (by decide)) (tr_list (by simp; lia)) (fun _ _ => rfl)) (by simp [hc])) (fun _ => ?_) (fun e => by cases e))
            refine BX.cons (BX1.raise_val O2 rfl W.vErr (by decide) SE.const_str rfl ?_)
            show AI (str85 t sp pa) _
            exact .inr ⟨yS, by rw [hstr, ← hrun]; rfl, rfl⟩
        rw [Bool.and_true] at h
        rw [if_neg (by rw [h]; exact Bool.false_ne_true)] at hrun
        refine BX.cons (BX1.ite (ST.cmp (SE.nm (i := 10) O2.toOk0 rfl rfl (by decide)) (TC.one (SE.nm (i := 3) O2.toOk0 rfl rfl (by decide)) (cmp_in_bytes hx0.1 hx0.2) rfl)) (fun h => ?_) fun h => ?_)
        · rw [if_pos h] at hrun
          exact BX.cons (BX1.contd (Γ' := [some (vy t), some (vb sp), some (vb fr), some (vy pa), some (.im (.raw (.ref q))), some (.own (D.map .bytes)), some (.meth "list.append" 5), some (.own (c.map .int)), some (.meth "list.append" 7), some (.meth "list.clear" 7), none, none, none, none]) (.k (.k (.k (.k (.k (.k (.k (.k (.k (.k (.d (.k (.k (.k .nil)))))))))))))) ⟨(D, c), rfl, hrun, hc5, hcin, hd4, by simp only; lia⟩)
        · rw [if_neg (by rw [h]; exact Bool.false_ne_true)] at hrun
          refine BX.cons (BX1.raise_val O2 rfl W.vErr (by decide) (SE.binop SE.const_str (SE.nm (i := 10) O2.toOk0 rfl rfl (by decide)) (op_modc hx0.1 hx0.2)) rfl ?_)
          show AI (str85 t sp pa) _
          exact .inr ⟨digS x, by rw [hstr, ← hrun]; rfl, rfl⟩
    · obtain ⟨D, c⟩ := a
      obtain ⟨hrun, hc5, hcin, hd4, hdl⟩ := hR
      simp only at hrun hc5 hcin hd4 hdl
      have hfl := flat4 hd4
      rw [hits, List.length_map] at hrun hdl
      rw [List.drop_length, run85] at hrun
      have hfin : str85 t sp pa = .bytes (end85 D c) := by rw [hstr, ← hrun]; rfl
      show BX _ [some (vy t), some (vb sp), some (vb fr), some (vy pa), some (.im (.raw (.ref q))), some (.own (D.map .bytes)), some (.meth "list.append" 5), some (.own (c.map .int)), some (.meth "list.append" 7), some (.meth "list.clear" 7), none, none, none, none] _ _
      refine BX.cons (BX1.assign_im O2 (v := .bytes D.flatten) (SE.meth SE.const_bytes rfl rfl nr_bytes FB.plainAttrs_bytes B.slot_join B.type_join rfl (by decide) rfl (.one (SE.no (i := 5) O2.toOk0 rfl rfl (by decide)) rfl) (co_join (by lia))) (i := 12) rfl (.inl rfl) (noMeth_of rfl) rfl ?_)
      refine BX.cons (BX1.assign_im O2 (v := .int (4 - (c.length : Int))) (SE.im (SE.binop SE.const_int (SE.im (v' := vi ((c.length : Nat) : Int)) (SE.callB O2.toOk0 rfl W.bLen (by decide) (by intro a q; cases q) rfl (.one (SE.no (i := 7) O2.toOk0 rfl rfl (by decide)) rfl) (co_len_list (by simp; lia))) (by simp)) op_sub) rfl) (i := 13) rfl (.inl rfl) (noMeth_of rfl) rfl ?_)
      show BX _ [some (vy t), some (vb sp), some (vb fr), some (vy pa), some (.im (.raw (.ref q))), some (.own (D.map .bytes)), some (.meth "list.append" 5), some (.own (c.map .int)), some (.meth "list.append" 7), some (.meth "list.clear" 7), none, none, some (vy D.flatten), some (vi (4 - (c.length : Int)))] _ _
      by_cases h4 : (4 - (c.length : Int)) = 0
      · refine BX.cons (BX1.ite (b := false) (ST.eq (ST.val (SE.nm (i := 13) O2.toOk0 rfl rfl (by decide)) tr_int (fun _ _ => rfl)) (by simp [h4])) (fun e => by cases e) (fun _ => ?_))
        refine BX.nil (BX.cons (BX1.reti (SE.nm (i := 12) O2.toOk0 rfl rfl (by decide)) nr_bytes ?_))
        show AI (str85 t sp pa) _
        exact .inl ⟨_, hfin, by unfold end85; rw [if_pos h4]⟩
      · refine BX.cons (BX1.ite (b := true) (ST.eq (ST.val (SE.nm (i := 13) O2.toOk0 rfl rfl (by decide)) tr_int (fun _ _ => rfl)) (by simpa using h4)) (fun _ => ?_) (fun e => by cases e))
        refine BX.cons (BX1.assign_im O2 (SE.cut_bytes (SE.nm (i := 12) O2.toOk0 rfl rfl (by decide)) .none (.some (SE.neg (SE.nm (i := 13) O2.toOk0 rfl rfl (by decide)))) (by lia)) (i := 12) rfl (.inl rfl) (noMeth_of rfl) rfl ?_)
        refine BX.nil (BX.cons (BX1.reti (SE.nm (i := 12) O2.toOk0 rfl rfl (by decide)) nr_bytes ?_))
        show AI (str85 t sp pa) _
        exact .inl ⟨_, hfin, by unfold end85; rw [if_neg h4]⟩
  show BX _ [some (vy t), some (vb sp), some (vb fr), some (vy pa), none, none, none, none, none, none, none, none, none, none] _ _
  refine BX.cons (BX1.assign_im O (SE.call O rfl W.fDec (by decide) FD (noStars_of rfl) rfl rfl (.one (SE.nm (i := 0) O.toOk0 rfl rfl (by decide)) rfl) .nil (SD t) rfl) (i := 0) rfl (.inl rfl) (noMeth_of rfl) rfl ?_)
  cases fr with
  | false => exact BX.cons (BX1.ite (b := false) (ST.val (SE.nm (i := 2) O.toOk0 rfl rfl (by decide)) tr_bool (fun _ _ => rfl)) (fun e => by cases e) (fun _ => BX.nil (step t hl)))
  | true =>
    refine BX.cons (BX1.ite (b := true) (ST.val (SE.nm (i := 2) O.toOk0 rfl rfl (by decide)) tr_bool (fun _ _ => rfl)) (fun _ => ?_) (fun e => by cases e))
    refine BX.cons (BX1.ite (ST.not (ST.val (SE.meth (SE.nm (i := 0) O.toOk0 rfl rfl (by decide)) rfl rfl nr_bytes FB.plainAttrs_bytes B.slot_ends B.type_ends rfl (by decide) rfl (.one (SE.globb O.toOk0 rfl W2.a85e (by decide)) rfl) co_ends) tr_bool (fun _ _ => rfl))) (fun h => ?_) fun h => ?_)
    · have hA : a85 t sp true pa = .str endT := by
        have h' : endsB t [126, 62] = false := by simpa using h
        unfold a85
        rw [if_pos rfl, h']; rfl
      rw [hA]
      refine BX.cons (BX1.raise_val O rfl W.vErr (by decide) (SE.meth SE.const_str rfl rfl nr_str PySem.F.plainAttrs_str PySem.F.slot_str_format_m PySem.F.type_str_format_m rfl (by decide) rfl (.one (SE.globb O.toOk0 rfl W2.a85e (by decide)) rfl) co_format) rfl ?_)
      exact .inr ⟨endT, rfl, rfl⟩
    · have h' : endsB t [126, 62] = true := by simpa using h
      have hA : a85 t sp true pa = if startsB t [60, 126] then str85 (cut t (some 2) (some (-2))) sp pa else str85 (cut t none (some (-2))) sp pa := by
        unfold a85
        rw [if_pos rfl, h', if_pos rfl]
      rw [hA]
      refine BX.nil (BX.cons (BX1.ite (ST.val (SE.meth (SE.nm (i := 0) O.toOk0 rfl rfl (by decide)) rfl rfl nr_bytes FB.plainAttrs_bytes B.slot_starts B.type_starts rfl (by decide) rfl (.one (SE.globb O.toOk0 rfl W2.a85s (by decide)) rfl) co_starts) tr_bool (fun _ _ => rfl)) (fun h => ?_) fun h => ?_))
      · rw [if_pos h]
        refine BX.cons (BX1.assign_im O (SE.cut_bytes (SE.nm (i := 0) O.toOk0 rfl rfl (by decide)) (.some SE.const_int) (.some (SE.neg SE.const_int)) (by lia)) (i := 0) rfl (.inl rfl) (noMeth_of rfl) rfl ?_)
        exact BX.nil (BX.nil (step _ (Nat.le_trans (cut_len _ _ _) hl)))
      · rw [if_neg (by rw [h]; exact Bool.false_ne_true)]
        refine BX.cons (BX1.assign_im O (SE.cut_bytes (SE.nm (i := 0) O.toOk0 rfl rfl (by decide)) .none (.some (SE.neg SE.const_int)) (by lia)) (i := 0) rfl (.inl rfl) (noMeth_of rfl) rfl ?_)
        exact BX.nil (BX.nil (step _ (Nat.le_trans (cut_len _ _ _) hl)))
end Mine
end
section
set_option maxRecDepth 100000
set_option maxHeartbeats 4000000
namespace Mine
theorem step_0 (lc : Int) (o : List Int) (c : UInt8) : stepB (lc, 0, o) c = ((lc * 256 + c.toNat) % 65536, 2, o ++ [sgn ((c.toNat : Int) / 4)]) := by
  have hc := u8_lt c
  have e : (lc * 256 + (c.toNat : Int)) % 65536 / 4 % 64 = (c.toNat : Int) / 4 := by omega
  simp only [stepB, show ((0 : Int) + 8) % 6 = 2 from rfl, show (((0 : Int) + 8) / 6).toNat = 1 from rfl, emW, show (((0 : Int) + 8 - 6).toNat) = 2 from rfl]
  rw [show (2 : Int) ^ 2 = 4 from rfl, e]
theorem step_2 (lc : Int) (o : List Int) (c : UInt8) : stepB (lc, 2, o) c = ((lc * 256 + c.toNat) % 65536, 4, o ++ [sgn (lc % 4 * 16 + (c.toNat : Int) / 16)]) := by
  have hc := u8_lt c
  have e : (lc * 256 + (c.toNat : Int)) % 65536 / 16 % 64 = lc % 4 * 16 + (c.toNat : Int) / 16 := by omega
  simp only [stepB, show ((2 : Int) + 8) % 6 = 4 from rfl, show (((2 : Int) + 8) / 6).toNat = 1 from rfl, emW, show (((2 : Int) + 8 - 6).toNat) = 4 from rfl]
  rw [show (2 : Int) ^ 4 = 16 from rfl, e]
theorem step_4 (lc : Int) (o : List Int) (c : UInt8) : stepB (lc, 4, o) c = ((lc * 256 + c.toNat) % 65536, 0, o ++ [sgn (lc % 16 * 4 + (c.toNat : Int) / 64), sgn ((c.toNat : Int) % 64)]) := by
  have hc := u8_lt c
  have e : (lc * 256 + (c.toNat : Int)) % 65536 / 64 % 64 = lc % 16 * 4 + (c.toNat : Int) / 64 := by omega
  have e2 : (lc * 256 + (c.toNat : Int)) % 65536 / 1 % 64 = (c.toNat : Int) % 64 := by omega
  simp only [stepB, show ((4 : Int) + 8) % 6 = 0 from rfl, show (((4 : Int) + 8) / 6).toNat = 2 from rfl, emW, show (((4 : Int) + 8 - 6).toNat) = 6 from rfl, show (((4 : Int) + 8 - 6 - 6).toNat) = 0 from rfl]
  rw [show (2 : Int) ^ 6 = 64 from rfl, show (2 : Int) ^ 0 = 1 from rfl, e, e2]

theorem oc_drop (l : List UInt8) (k i : Nat) : oc (l.drop k) i = oc l (k + i) := by
  unfold oc
  rw [List.getD_eq_getElem?_getD, List.getD_eq_getElem?_getD, List.getElem?_drop]
theorem nums_drop (l : List UInt8) (j k : Nat) : ∀ m, nums (l.drop j) k m = nums l (j + k) m
  | 0 => rfl
  | m + 1 => by simp only [nums, nums_drop l j k m, oc_drop, Nat.add_assoc]
theorem grp64_drop (l : List UInt8) (k : Nat) : grp64 (l.drop 3) k = grp64 l (3 + k) := by
  unfold grp64 left64
  rw [nums_drop, List.length_drop, show l.length - 3 - k = l.length - (3 + k) by lia]
theorem e64_cons (a b c : UInt8) (r : List UInt8) (n : Nat) : e64 (a :: b :: c :: r) (n + 1) = grp64 (a :: b :: c :: r) 0 ++ e64 r n := by
  unfold e64
  rw [List.range_succ_eq_map, List.flatMap_cons, List.flatMap_map]
  congr 1
  congr 1
  funext m
  have := grp64_drop (a :: b :: c :: r) (3 * m)
  rw [show (a :: b :: c :: r).drop 3 = r from rfl] at this
  rw [this]
  congr 1
  lia
theorem nums3 (l : List UInt8) : nums l 0 3 = (oc l 0 * 256 + oc l 1) * 256 + oc l 2 := by simp [nums]
theorem oc_at (l : List UInt8) (i : Nat) (x : UInt8) (h : l[i]? = some x) : oc l i = x.toNat := by
  unfold oc
  rw [List.getD_eq_getElem?_getD, h]; rfl
theorem oc_no (l : List UInt8) (i : Nat) (h : l[i]? = none) : oc l i = 0 := by
  unfold oc
  rw [List.getD_eq_getElem?_getD, h]; rfl
theorem sx1 {a b c : Int} (hb : 0 ≤ b ∧ b < 256) (hc : 0 ≤ c ∧ c < 256) : ((a * 256 + b) * 256 + c) / 262144 = a / 4 := by omega
theorem sx2 {a b c : Int} (hb : 0 ≤ b ∧ b < 256) (hc : 0 ≤ c ∧ c < 256) : ((a * 256 + b) * 256 + c) / 4096 % 64 = a % 4 * 16 + b / 16 := by omega
theorem sx3 {a b c : Int} (hb : 0 ≤ b ∧ b < 256) (hc : 0 ≤ c ∧ c < 256) : ((a * 256 + b) * 256 + c) / 64 % 64 = b % 16 * 4 + c / 64 := by omega
theorem sx4 {x c : Int} : (x * 256 + c) % 64 = c % 64 := by lia
theorem lc4 {l a : Int} : (l * 256 + a) % 65536 % 4 = a % 4 := by lia
theorem lc16 {l a : Int} : (l * 256 + a) % 65536 % 16 = a % 16 := by lia
theorem z256 : (0 : Int) ≤ 0 ∧ (0 : Int) < 256 := by decide
theorem B_eq : ∀ (n : Nat) (t : List UInt8) (lc : Int) (o : List Int), t.length ≤ n → (t.foldl stepB (lc, 0, o)).2.2 ++ tailB (t.foldl stepB (lc, 0, o)).1 (t.foldl stepB (lc, 0, o)).2.1 = o ++ e64 t ((t.length + 2) / 3) := by
  intro n
  induction n with
  | zero =>
    intro t lc o h
    have : t = [] := List.length_eq_zero_iff.mp (by lia)
    subst this
    simp [tailB, e64]
  | succ n ih =>
    intro t lc o h
    match t with
    | [] => simp [tailB, e64]
    | [a] =>
      have ha := u8_lt a
      have e1 : e64 [a] (([a].length + 2) / 3) = grp64 [a] 0 := by simp [e64, List.range_succ]
      rw [e1, List.foldl_cons, List.foldl_nil, step_0]
      simp only [tailB, if_true, grp64, left64, nums3]
      rw [oc_at [a] 0 a rfl, oc_no [a] 1 rfl, oc_no [a] 2 rfl]
      unfold four64
      rw [sx1 z256 z256, sx2 z256 z256, lc4]
      simp
    | [a, b] =>
      have ha := u8_lt a
      have hb := u8_lt b
      have e1 : e64 [a, b] (([a, b].length + 2) / 3) = grp64 [a, b] 0 := by simp [e64, List.range_succ]
      rw [e1, List.foldl_cons, List.foldl_cons, List.foldl_nil, step_0, step_2]
      simp only [tailB, if_true, grp64, left64, nums3]
      rw [oc_at [a, b] 0 a rfl, oc_at [a, b] 1 b rfl, oc_no [a, b] 2 rfl]
      unfold four64
      rw [sx1 hb z256, sx2 hb z256, sx3 hb z256, lc4, lc16]
      simp
    | a :: b :: c :: r =>
      have ha := u8_lt a
      have hb := u8_lt b
      have hc := u8_lt c
      rw [List.foldl_cons, List.foldl_cons, List.foldl_cons, step_0, step_2, step_4]
      rw [ih r _ _ (by simp at h; omega)]
      have hlen : ((a :: b :: c :: r).length + 2) / 3 = (r.length + 2) / 3 + 1 := by simp; lia
      rw [hlen, e64_cons]
      rw [← List.append_assoc]
      congr 1
      simp only [grp64, left64, nums3]
      rw [oc_at (a :: b :: c :: r) 0 a rfl, oc_at (a :: b :: c :: r) 1 b rfl, oc_at (a :: b :: c :: r) 2 c rfl]
      have q0 : min 3 ((a :: b :: c :: r).length - 0) = 3 := by simp
      rw [q0]
      unfold four64
      rw [sx1 hb hc, sx2 hb hc, sx3 hb hc, sx4, lc4, lc16]
      simp
theorem B64_e64 (t : List UInt8) : B64 t = e64 t ((t.length + 2) / 3) := by
  have := B_eq t.length t 0 [] (Nat.le_refl _)
  rw [List.nil_append] at this
  exact this
end Mine
end
section
set_option maxRecDepth 100000
set_option maxHeartbeats 4000000
namespace Mine
/-- a digit comes in, as the code takes it -/
noncomputable def digA (st : Int × Int × List Int) (v : Int) : Int × Int × List Int :=
  if st.1 = 0 then (1, v, st.2.2) else if st.1 = 1 then (2, v % 16, st.2.2 ++ [st.2.1 * 4 + v / 16]) else if st.1 = 2 then (3, v % 4, st.2.2 ++ [st.2.1 * 16 + v / 4]) else (0, 0, st.2.2 ++ [st.2.1 * 64 + v])
noncomputable def runA (r : List Int) : Int × Int × List Int := r.foldl digA (0, 0, [])
theorem runA_snoc (r : List Int) (v : Int) : runA (r ++ [v]) = digA (runA r) v := by simp [runA]
theorem digA_q {st : Int × Int × List Int} {v : Int} (h : st.1 = 0 ∨ st.1 = 1 ∨ st.1 = 2 ∨ st.1 = 3) : (digA st v).1 = (st.1 + 1) % 4 := by
  unfold digA
  rcases h with h | h | h | h <;> rw [h] <;> simp
theorem runA_q (r : List Int) : (runA r).1 = ((r.length % 4 : Nat) : Int) := by
  have key : ∀ (r : List Int), (runA r.reverse).1 = ((r.length % 4 : Nat) : Int) := by
    intro r
    induction r with
    | nil => rfl
    | cons x r ih =>
      rw [List.reverse_cons, runA_snoc, digA_q (by rw [ih]; lia), ih, List.length_cons]
      lia
  have := key r.reverse
  rw [List.reverse_reverse, List.length_reverse] at this
  exact this
theorem getD_drop (l : List Int) (k i : Nat) : (l.drop k).getD i 0 = l.getD (k + i) 0 := by
  rw [List.getD_eq_getElem?_getD, List.getD_eq_getElem?_getD, List.getElem?_drop]
theorem numr_drop (l : List Int) (j k : Nat) : ∀ m, numr (l.drop j) k m = numr l (j + k) m
  | 0 => rfl
  | m + 1 => by simp only [numr, numr_drop l j k m, getD_drop, Nat.add_assoc]
theorem grpd_drop (l : List Int) (k : Nat) : grpd (l.drop 4) k = grpd l (4 + k) := by
  unfold grpd
  rw [numr_drop, List.length_drop, show l.length - 4 - k - 1 = l.length - (4 + k) - 1 by lia]
theorem o64_cons (a b c d : Int) (r : List Int) (n : Nat) : o64 (a :: b :: c :: d :: r) (n + 1) = grpd (a :: b :: c :: d :: r) 0 ++ o64 r n := by
  unfold o64
  rw [List.range_succ_eq_map, List.flatMap_cons, List.flatMap_map]
  congr 1
  congr 1
  funext m
  have := grpd_drop (a :: b :: c :: d :: r) (4 * m)
  rw [show (a :: b :: c :: d :: r).drop 4 = r from rfl] at this
  rw [this]
  congr 1
  lia
theorem numr4 (l : List Int) : numr l 0 4 = ((l.getD 0 0 * 64 + l.getD 1 0) * 64 + l.getD 2 0) * 64 + l.getD 3 0 := by simp [numr]
theorem ox1 {a b c d : Int} (hb : 0 ≤ b ∧ b < 64) (hc : 0 ≤ c ∧ c < 64) (hd : 0 ≤ d ∧ d < 64) : (((a * 64 + b) * 64 + c) * 64 + d) / 65536 = a * 4 + b / 16 := by lia
theorem dv256 {n q r : Int} (h : n = 256 * q + r) (h0 : 0 ≤ r) (h1 : r < 256) : n / 256 = q := by lia
theorem md256 {n q r : Int} (h : n = 256 * q + r) (h0 : 0 ≤ r) (h1 : r < 256) : n % 256 = r := by lia
theorem ox2a {x c d : Int} : (x * 64 + c) * 64 + d = 256 * (x * 16 + c / 4) + (c % 4 * 64 + d) := by lia
theorem ox2b {a b y : Int} : (a * 64 + b) * 16 + y = 256 * (a * 4 + b / 16) + (b % 16 * 16 + y) := by lia
theorem ox2 {a b c d : Int} (hb : 0 ≤ b ∧ b < 64) (hc : 0 ≤ c ∧ c < 64) (hd : 0 ≤ d ∧ d < 64) : (((a * 64 + b) * 64 + c) * 64 + d) / 256 % 256 = b % 16 * 16 + c / 4 := by
  rw [dv256 ox2a (by lia) (by lia), md256 ox2b (by lia) (by lia)]
theorem ox3 {x c d : Int} (hc : 0 ≤ c ∧ c < 64) (hd : 0 ≤ d ∧ d < 64) : ((x * 64 + c) * 64 + d) % 256 = c % 4 * 64 + d := by lia
theorem z64 : (0 : Int) ≤ 0 ∧ (0 : Int) < 64 := by decide
theorem runA_o : ∀ (n : Nat) (r : List Int) (o : List Int), r.length ≤ n → (∀ x ∈ r, 0 ≤ x ∧ x < 64) → (r.foldl digA (0, 0, o)).2.2 = o ++ o64 r ((r.length + 3) / 4) := by
  intro n
  induction n with
  | zero =>
    intro r o h _
    have : r = [] := List.length_eq_zero_iff.mp (by lia)
    subst this
    simp [o64]
  | succ n ih =>
    intro r o h hr
    match r with
    | [] => simp [o64]
    | [a] => simp [o64, List.range_succ, grpd, digA]
    | [a, b] =>
      have ha := hr a (by simp)
      have hb := hr b (by simp)
      have e1 : o64 [a, b] (([a, b].length + 3) / 4) = grpd [a, b] 0 := by simp [o64, List.range_succ]
      rw [e1]
      unfold grpd
      rw [numr4]
      simp only [List.getD_cons_zero, List.getD_cons_succ, List.getD_nil, three64]
      rw [ox1 hb z64 z64]
      simp [digA]
    | [a, b, c] =>
      have ha := hr a (by simp)
      have hb := hr b (by simp)
      have hc := hr c (by simp)
      have e1 : o64 [a, b, c] (([a, b, c].length + 3) / 4) = grpd [a, b, c] 0 := by simp [o64, List.range_succ]
      rw [e1]
      unfold grpd
      rw [numr4]
      simp only [List.getD_cons_zero, List.getD_cons_succ, List.getD_nil, three64]
      rw [ox1 hb hc z64, ox2 hb hc z64]
      simp [digA]
    | a :: b :: c :: d :: r =>
      have ha := hr a (by simp)
      have hb := hr b (by simp)
      have hc := hr c (by simp)
      have hd := hr d (by simp)
      have hlen : ((a :: b :: c :: d :: r).length + 3) / 4 = (r.length + 3) / 4 + 1 := by simp; lia
      rw [hlen, o64_cons]
      have e1 : ((a :: b :: c :: d :: r).foldl digA (0, 0, o)) = r.foldl digA (0, 0, o ++ grpd (a :: b :: c :: d :: r) 0) := by
        rw [List.foldl_cons, List.foldl_cons, List.foldl_cons, List.foldl_cons]
        congr 1
        unfold grpd
        rw [numr4]
        simp only [List.getD_cons_zero, List.getD_cons_succ, three64]
        rw [ox1 hb hc hd, ox2 hb hc hd, ox3 hc hd]
        simp [digA]
      rw [e1, ih r _ (by simp at h; lia) (fun x hx => hr x (by simp [hx])), List.append_assoc]

theorem sign_fin : ∀ n : Fin 256, (((bI signs).any (· == ((n.val : Nat) : Int))) = decide (b64v ((n.val : Nat) : Int) < 64)) ∧ (b64v ((n.val : Nat) : Int) < 64 → (((bI signs).idxOf ((n.val : Nat) : Int) : Nat) : Int) = b64v ((n.val : Nat) : Int)) := by decide +kernel
theorem sign_val (c : UInt8) : isSign c = decide (b64v c.toNat < 64) ∧ (b64v c.toNat < 64 → idx c = b64v c.toNat) := sign_fin ⟨c.toNat, c.toNat_lt⟩

noncomputable def resF (x : Option (List Int × Int)) : I := match x with
  | none => .bool false
  | some (r, p) => end64 r p
noncomputable def resA (x : Option (Int × Int × Int × List Int)) : I := match x with
  | none => .bool false
  | some (q, _, p, o) => if endA q p then .bool false else .bytes (toB o)
theorem f64_res (t : List UInt8) : f64 t = resF (scan64 t) := by
  unfold f64 resF
  cases scan64 t with
  | none => rfl
  | some x => rfl
theorem t64_res (t : List UInt8) : t64 t = resA (t.foldlM stepA (0, 0, 0, [])) := by
  unfold t64 A64 resA
  cases t.foldlM stepA (0, 0, 0, []) with
  | none => rfl
  | some x =>
    obtain ⟨q, l, p, o⟩ := x
    simp only
    by_cases h : endA q p = true
    · rw [if_pos h, if_pos h]
    · rw [if_neg h, if_neg h]
theorem mod4 (n : Nat) : n % 4 = 0 ∨ n % 4 = 1 ∨ n % 4 = 2 ∨ n % 4 = 3 := by lia
theorem bad64 : ∀ (t : List UInt8) (r : List Int) (p : Int), 1 ≤ p → ¬ (2 ≤ r.length % 4 ∧ ((r.length % 4 : Nat) : Int) + p ≤ 4) → resF (t.foldlM step64 (r, p)) = .none ∨ resF (t.foldlM step64 (r, p)) = .bool false := by
  intro t
  induction t with
  | nil =>
    intro r p hp hb
    show end64 r p = .none ∨ end64 r p = .bool false
    unfold end64
    rcases mod4 r.length with h | h | h | h <;> rw [h] at hb ⊢ <;> simp at hb ⊢
    · left; lia
    · by_cases q : 3 < p
      · left; exact q
      · right; lia
    · left; lia
    · left; lia
  | cons c t ih =>
    intro r p hp hb
    rw [List.foldlM_cons]
    unfold step64
    by_cases h61 : (c.toNat : Int) = 61
    · rw [if_pos h61]
      exact ih r (p + 1) (by lia) (by lia)
    · rw [if_neg h61, if_pos (.inl (by show p ≠ 0; lia))]
      exact .inr rfl
theorem stA_pad {q l p : Int} {o : List Int} {c : UInt8} (h : (c.toNat : Int) = 61) (g : q ≥ 2 ∧ q + (p + 1) ≤ 4) : stepA (q, l, p, o) c = some (q, l, p + 1, o) := (if_pos h).trans (if_pos g)
theorem stA_odd {q l p : Int} {o : List Int} {c : UInt8} (h : (c.toNat : Int) = 61) (g : ¬ (q ≥ 2 ∧ q + (p + 1) ≤ 4)) : stepA (q, l, p, o) c = none := (if_pos h).trans (if_neg g)
theorem stA_bad {q l p : Int} {o : List Int} {c : UInt8} (h : ¬ (c.toNat : Int) = 61) (g : b64v c.toNat ≥ 64) : stepA (q, l, p, o) c = none := (if_neg h).trans (if_pos g)
theorem stA_late {q l p : Int} {o : List Int} {c : UInt8} (h : ¬ (c.toNat : Int) = 61) (g : p ≠ 0) : stepA (q, l, p, o) c = none := by
  by_cases hv : b64v c.toNat ≥ 64
  · exact stA_bad h hv
  · exact (if_neg h).trans ((if_neg hv).trans (if_pos g))
theorem stA_dig {q l p : Int} {o : List Int} {c : UInt8} (h : ¬ (c.toNat : Int) = 61) (g : ¬ b64v c.toNat ≥ 64) (hp : p = 0) : stepA (q, l, p, o) c = some ((digA (q, l, o) (b64v c.toNat)).1, (digA (q, l, o) (b64v c.toNat)).2.1, p, (digA (q, l, o) (b64v c.toNat)).2.2) := by
  subst hp
  refine (if_neg h).trans ((if_neg g).trans ((if_neg (fun z => z rfl)).trans ?_))
  unfold digA
  by_cases q0 : q = 0
  · exact (if_pos q0).trans (by rw [if_pos (show (q, l, o).1 = 0 from q0)])
  · refine (if_neg q0).trans ?_
    rw [if_neg (show ¬ (q, l, o).1 = 0 from q0)]
    by_cases q1 : q = 1
    · exact (if_pos q1).trans (by rw [if_pos (show (q, l, o).1 = 1 from q1)])
    · refine (if_neg q1).trans ?_
      rw [if_neg (show ¬ (q, l, o).1 = 1 from q1)]
      by_cases q2 : q = 2
      · exact (if_pos q2).trans (by rw [if_pos (show (q, l, o).1 = 2 from q2)])
      · refine (if_neg q2).trans ?_
        rw [if_neg (show ¬ (q, l, o).1 = 2 from q2)]
theorem good64 : ∀ (t : List UInt8) (r : List Int) (p : Int), 0 ≤ p → (p = 0 ∨ (2 ≤ r.length % 4 ∧ ((r.length % 4 : Nat) : Int) + p ≤ 4)) → (∀ x ∈ r, 0 ≤ x ∧ x < 64) → resF (t.foldlM step64 (r, p)) ≠ .none → resA (t.foldlM stepA ((runA r).1, (runA r).2.1, p, (runA r).2.2)) = resF (t.foldlM step64 (r, p)) := by
  intro t
  induction t with
  | nil =>
    intro r p hp hg hr hn
    show (if endA (runA r).1 p then I.bool false else .bytes (toB (runA r).2.2)) = end64 r p
    have ho := runA_o r.length r [] (Nat.le_refl _) hr
    rw [List.nil_append] at ho
    rw [show (runA r).2.2 = o64 r ((r.length + 3) / 4) from ho, runA_q]
    unfold end64 endA
    rcases mod4 r.length with h | h | h | h <;> rw [h] at hg ⊢ <;> simp at hg ⊢
    · subst hg; simp
    · subst hg; simp
    · have : p = 0 ∨ p = 1 ∨ p = 2 := by lia
      rcases this with q | q | q <;> subst q <;> simp
    · have : p = 0 ∨ p = 1 := by lia
      rcases this with q | q <;> subst q <;> simp
  | cons c t ih =>
    intro r p hp hg hr hn
    rw [List.foldlM_cons] at hn ⊢
    rw [List.foldlM_cons]
    obtain ⟨hs, hi⟩ := sign_val c
    by_cases h61 : (c.toNat : Int) = 61
    · have e1 : step64 (r, p) c = some (r, p + 1) := by unfold step64; rw [if_pos h61]
      rw [e1] at hn ⊢
      by_cases hc : 2 ≤ r.length % 4 ∧ ((r.length % 4 : Nat) : Int) + (p + 1) ≤ 4
      · have e2 : stepA ((runA r).1, (runA r).2.1, p, (runA r).2.2) c = some ((runA r).1, (runA r).2.1, p + 1, (runA r).2.2) := stA_pad h61 (by rw [runA_q]; lia)
        rw [e2]
        exact ih r (p + 1) (by lia) (.inr hc) hr hn
      · have e2 : stepA ((runA r).1, (runA r).2.1, p, (runA r).2.2) c = none := stA_odd h61 (by rw [runA_q]; lia)
        rw [e2]
        rcases bad64 t r (p + 1) (by lia) hc with q | q
        · exact absurd q hn
        · exact q.symm
    · by_cases hb : p ≠ 0 ∨ isSign c = false
      · have e1 : step64 (r, p) c = none := by unfold step64; rw [if_neg h61, if_pos hb]
        rw [e1]
        have e2 : stepA ((runA r).1, (runA r).2.1, p, (runA r).2.2) c = none := by
          rcases hb with hb | hb
          · exact stA_late h61 hb
          · rw [hs] at hb
            exact stA_bad h61 (Int.not_lt.mp (of_decide_eq_false hb))
        rw [e2]
        rfl
      · have hp0 : p = 0 := by
          by_cases q : p = 0
          · exact q
          · exact absurd (.inl q) hb
        have hsig : isSign c = true := by
          cases q : isSign c with
          | true => rfl
          | false => exact absurd (.inr q) hb
        have hv : b64v c.toNat < 64 := by rw [hs] at hsig; exact of_decide_eq_true hsig
        have e1 : step64 (r, p) c = some (r ++ [idx c], p) := by unfold step64; rw [if_neg h61, if_neg hb]
        rw [e1] at hn ⊢
        have e2 : stepA ((runA r).1, (runA r).2.1, p, (runA r).2.2) c = some ((runA (r ++ [idx c])).1, (runA (r ++ [idx c])).2.1, p, (runA (r ++ [idx c])).2.2) := by
          rw [runA_snoc, hi hv]
          exact stA_dig h61 (Int.not_le.mpr hv) hp0
        rw [e2]
        refine ih (r ++ [idx c]) p hp (.inl hp0) (fun x hx => ?_) hn
        rcases List.mem_append.mp hx with q | q
        · exact hr x q
        · simp at q
          have := idx_in hsig
          rw [q]
          exact ⟨this.1, this.2.1⟩
theorem t64_f64 (t : List UInt8) (h : f64 t ≠ .none) : t64 t = f64 t := by
  rw [f64_res] at h ⊢
  rw [t64_res]
  exact good64 t [] 0 (by lia) (.inl rfl) (by simp) h
end Mine
end
section
set_option maxRecDepth 100000
set_option maxHeartbeats 4000000
namespace Mine
variable {sp : Bool} {pa : List UInt8}
/-- what is passed over is passed over -/
theorem run_kept : ∀ (xs : List Int) (D : List (List UInt8)) (c : List Int), run85 sp pa xs D c = run85 sp pa (xs.filter (kp sp pa)) D c := by
  intro xs
  induction xs with
  | nil => intro D c; rfl
  | cons x xs ih =>
    intro D c
    rw [List.filter_cons]
    by_cases hk : kp sp pa x = true
    · rw [if_pos hk, run85, run85]
      split
      · split
        · split
          · rfl
          · exact ih _ _
        · exact ih _ _
      · split
        · split
          · exact ih _ _
          · rfl
        · split
          · split
            · exact ih _ _
            · rfl
          · split
            · exact ih _ _
            · rfl
    · rw [if_neg hk, run85]
      have hf : kp sp pa x = false := by
        cases q : kp sp pa x with
        | true => exact absurd q hk
        | false => rfl
      unfold kp at hf
      obtain ⟨h1, hf⟩ := Bool.or_eq_false_iff.mp hf
      obtain ⟨hf, h4⟩ := Bool.or_eq_false_iff.mp hf
      obtain ⟨h2, h3⟩ := Bool.or_eq_false_iff.mp hf
      rw [if_neg (fun q => by rw [decide_eq_true q.1, decide_eq_true q.2] at h1; cases h1), if_neg (fun q => by rw [q] at h2; cases h2), if_neg (fun q => by rw [Bool.and_comm, h3] at q; cases q), if_pos (by simpa using h4)]
      exact ih _ _

noncomputable def Kept (sp : Bool) (pa : List UInt8) (l : List Int) : Prop := ∀ x ∈ l, kp sp pa x = true
theorem kept_no {x : Int} (h : kp sp pa x = true) (h1 : ¬ (33 ≤ x ∧ x ≤ 117)) (h2 : x ≠ 122) (h3 : ¬ (sp && x == 121) = true) : ¬ pa.contains x.toNat.toUInt8 = true := by
  intro hp
  unfold kp at h
  have e1 : (decide (33 ≤ x) && decide (x ≤ 117)) = false := by
    cases q : (decide (33 ≤ x) && decide (x ≤ 117)) with
    | false => rfl
    | true =>
      rw [Bool.and_eq_true, decide_eq_true_eq, decide_eq_true_eq] at q
      exact absurd q h1
  have e2 : (x == 122) = false := by
    cases q : (x == 122) with
    | false => rfl
    | true => exact absurd (eq_of_beq q) h2
  have e3 : (x == 121 && sp) = false := by
    cases q : (x == 121 && sp) with
    | false => rfl
    | true => rw [Bool.and_comm] at q; exact absurd q h3
  rw [e1, e2, e3, hp] at h
  cases h
/-- trouble within a group -/
theorem run_err : ∀ (g rest : List Int) (D : List (List UInt8)) (c : List Int) (n : Int) (s : Str), Kept sp pa g → c.length + g.length ≤ 5 → (c = [] → ∀ x ∈ g.head?, x ≠ 122 ∧ ¬ (x == 121 && sp) = true) → grpN sp g n = .error s → run85 sp pa (g ++ rest) D c = .error s := by
  intro g
  induction g with
  | nil => intro rest D c n s _ _ _ h; simp [grpN] at h
  | cons x g ih =>
    intro rest D c n s hk hl hc h
    have hkx := hk x (by simp)
    rw [List.cons_append, run85]
    rw [grpN] at h
    by_cases h1 : x = 122
    · rw [if_pos h1] at h
      cases h
      rw [if_neg (by lia), if_pos h1, if_neg (fun q => (hc q x (by simp)).1 h1)]
    · rw [if_neg h1] at h
      by_cases h2 : (x == 121 && sp) = true
      · rw [if_pos h2] at h
        cases h
        have h2' : x = 121 ∧ sp = true := by simpa using h2
        rw [if_neg (by lia), if_neg h1, if_pos (by simp [h2'.1, h2'.2]), if_neg (fun q => (hc q x (by simp)).2 h2)]
      · rw [if_neg h2] at h
        have h2' : ¬ (sp && x == 121) = true := by rw [Bool.and_comm]; exact h2
        by_cases h3 : 33 ≤ x ∧ x ≤ 117
        · rw [if_neg (fun q => q h3)] at h
          rw [if_pos h3]
          cases g with
          | nil => simp [grpN] at h
          | cons y g =>
            rw [if_neg (by simp at hl ⊢; lia)]
            refine ih rest D (c ++ [x]) _ s (fun z hz => hk z (by simp [hz])) (by simp at hl ⊢; lia) (fun q => ?_) h
            simp at q
        · rw [if_pos h3] at h
          cases h
          rw [if_neg h3, if_neg h1, if_neg h2', if_neg (kept_no hkx h3 h1 h2')]
theorem grp_ok : ∀ (g : List Int) (n m : Int), grpN sp g n = .ok m → (∀ x ∈ g, 33 ≤ x ∧ x ≤ 117) ∧ m = g.foldl (fun a x => 85 * a + (x - 33)) n := by
  intro g
  induction g with
  | nil => intro n m h; simp [grpN] at h; exact ⟨by simp, h.symm⟩
  | cons x g ih =>
    intro n m h
    rw [grpN] at h
    split at h
    · cases h
    · split at h
      · cases h
      · split at h
        · cases h
        · rename_i h3
          have h3' : 33 ≤ x ∧ x ≤ 117 := Classical.not_not.mp h3
          obtain ⟨a, b⟩ := ih _ _ h
          refine ⟨fun y hy => ?_, ?_⟩
          · rcases List.mem_cons.mp hy with rfl | hy
            · exact h3'
            · exact a y hy
          · rw [List.foldl_cons, b]
            congr 1
            lia
/-- figures that do not fill a group -/
theorem run_part : ∀ (g rest : List Int) (D : List (List UInt8)) (c : List Int), (∀ x ∈ g, 33 ≤ x ∧ x ≤ 117) → c.length + g.length < 5 → run85 sp pa (g ++ rest) D c = run85 sp pa rest D (c ++ g) := by
  intro g
  induction g with
  | nil => intro rest D c _ _; simp
  | cons x g ih =>
    intro rest D c h hl
    rw [List.cons_append, run85, if_pos (h x (by simp)), if_neg (by simp at hl ⊢; lia)]
    rw [ih rest D (c ++ [x]) (fun y hy => h y (by simp [hy])) (by simp at hl ⊢; lia)]
    simp
/-- five figures -/
theorem run_five (g rest : List Int) (D : List (List UInt8)) (h : ∀ x ∈ g, 33 ≤ x ∧ x ≤ 117) (hl : g.length = 5) : run85 sp pa (g ++ rest) D [] = if 4294967296 ≤ acc85 g then .error ovS else run85 sp pa rest (D ++ [u32 (acc85 g)]) [] := by
  obtain ⟨g', x, rfl⟩ : ∃ g' x, g = g' ++ [x] := ⟨g.dropLast, g.getLast (by intro q; simp [q] at hl), (List.dropLast_concat_getLast _).symm⟩
  rw [List.append_assoc, run_part g' _ D [] (fun y hy => h y (by simp [hy])) (by simp at hl ⊢; lia)]
  rw [List.nil_append, List.singleton_append, run85, if_pos (h x (by simp)), if_pos (by simpa using hl)]

noncomputable def U4 : List Int := [117, 117, 117, 117]
theorem toB_app (a b : List Int) : toB (a ++ b) = toB a ++ toB b := by simp [toB]
theorem u32_four {n : Int} (h0 : 0 ≤ n) (h1 : n < 4294967296) : toB (four256 n) = u32 n := by
  obtain ⟨m, rfl⟩ := Int.eq_ofNat_of_zero_le h0
  have hm : m / 16777216 % 256 = m / 16777216 := Nat.mod_eq_of_lt (Nat.div_lt_of_lt_mul (by lia))
  show [(m / 16777216).toUInt8, (m / 65536 % 256).toUInt8, (m / 256 % 256).toUInt8, (m % 256).toUInt8] = [(m / 16777216 % 256).toUInt8, (m / 65536 % 256).toUInt8, (m / 256 % 256).toUInt8, (m / 1 % 256).toUInt8]
  rw [hm, Nat.div_one]
theorem acc_pad (g : List Int) : ∀ m, acc85 (g ++ List.replicate m 117) = padN m (acc85 g)
  | 0 => by simp [padN]
  | m + 1 => by
    rw [List.replicate_succ', ← List.append_assoc]
    have := acc_pad g m
    unfold acc85 at this ⊢
    rw [List.foldl_append, this, padN]
    simp only [List.foldl_cons, List.foldl_nil]
    lia
theorem run_us (D : List (List UInt8)) (m : Nat) (h : m < 5) : run85 sp pa (List.replicate m 117) D [] = .ok (D, List.replicate m 117) := by
  have := run_part (sp := sp) (pa := pa) (List.replicate m 117) [] D [] (fun x hx => by have := List.eq_of_mem_replicate hx; lia) (by simpa using h)
  rw [List.append_nil, List.nil_append] at this
  rw [this, run85]
theorem end_part (D : List (List UInt8)) (d : List UInt8) (m : Nat) (hm : m < 4) (hd : d.length = 4) : end85 (D ++ [d]) (List.replicate m 117) = D.flatten ++ d.take m := by
  unfold end85
  rw [List.length_replicate, if_neg (by lia), List.flatten_append, List.flatten_cons, List.flatten_nil, List.append_nil]
  unfold cut
  simp only [Option.elim, List.drop_zero, Nat.sub_zero]
  have e : clipAt (D.flatten ++ d).length (-(4 - (m : Int))) = D.flatten.length + m := by
    unfold clipAt
    rw [List.length_append, hd, if_pos (by lia)]
    lia
  rw [e, List.take_append]
  rw [List.take_of_length_le (by lia)]
  congr 1
  congr 1
  lia
theorem run_dec : ∀ (n : Nat) (l : List Int) (D : List (List UInt8)) (o : List Int), l.length ≤ n → Kept sp pa l → toB o = D.flatten → fin85 (run85 sp pa (l ++ U4) D []) = dec85 sp l.length l o := by
  intro n
  induction n with
  | zero =>
    intro l D o h _ ho
    have : l = [] := List.length_eq_zero_iff.mp (by lia)
    subst this
    have := run_us (sp := sp) (pa := pa) D 4 (by lia)
    rw [List.nil_append, show U4 = List.replicate 4 117 from rfl, this]
    show I.bytes (end85 D (List.replicate 4 117)) = _
    unfold end85
    rw [if_pos (by simp), ← ho]
    rw [List.length_nil, dec85]
  | succ n ih =>
    intro l D o h hk ho
    match l with
    | [] => exact ih [] D o (by simp) hk ho
    | x :: r =>
      have hkr : Kept sp pa r := fun y hy => hk y (by simp [hy])
      have hrn : r.length ≤ n := by simpa using h
      rw [List.length_cons, dec85]
      by_cases h1 : x = 122
      · rw [if_pos h1, List.cons_append, run85, if_neg (by lia), if_pos h1, if_pos rfl]
        exact ih r _ _ hrn hkr (by rw [toB_app, ho]; simp [toB])
      · rw [if_neg h1]
        by_cases h2 : (x == 121 && sp) = true
        · have h2' : x = 121 ∧ sp = true := by simpa using h2
          rw [if_pos h2, List.cons_append, run85, if_neg (by lia), if_neg h1, if_pos (by simp [h2'.1, h2'.2]), if_pos rfl]
          exact ih r _ _ hrn hkr (by rw [toB_app, ho]; simp [toB])
        · rw [if_neg h2]
          have hl : x :: r = (x :: r).take 5 ++ (x :: r).drop 5 := (List.take_append_drop 5 (x :: r)).symm
          have hkg : Kept sp pa ((x :: r).take 5) := fun y hy => hk y (List.mem_of_mem_take hy)
          have hkd : Kept sp pa ((x :: r).drop 5) := fun y hy => hk y (List.mem_of_mem_drop hy)
          have hhead : ∀ z ∈ ((x :: r).take 5).head?, z ≠ 122 ∧ ¬ (z == 121 && sp) = true := fun z hz => by
            simp at hz; subst hz; exact ⟨h1, h2⟩
          have hgl : ((x :: r).take 5).length = min 5 (r.length + 1) := by rw [List.length_take, List.length_cons]
          have hdl : ((x :: r).drop 5).length = r.length + 1 - 5 := by simp [List.length_drop]
          cases hq : grpN sp ((x :: r).take 5) 0 with
          | error s =>
            simp only
            rw [hl, List.append_assoc, run_err _ _ D [] 0 s hkg (by simp [List.length_take]; lia) (fun _ => hhead) hq]
            rfl
          | ok m =>
            simp only
            obtain ⟨hg, hm⟩ := grp_ok _ _ _ hq
            have hm' : m = acc85 ((x :: r).take 5) := hm
            have hpos : 0 ≤ acc85 ((x :: r).take 5) := acc85_pos fun y hy => (hg y hy).1
            by_cases h5 : 5 ≤ r.length + 1
            · have hg5 : ((x :: r).take 5).length = 5 := by rw [hgl]; lia
              rw [hg5]
              simp only [Nat.sub_self, padN]
              have hrun : run85 sp pa (x :: r ++ U4) D [] = if 4294967296 ≤ acc85 ((x :: r).take 5) then .error ovS else run85 sp pa ((x :: r).drop 5 ++ U4) (D ++ [u32 (acc85 ((x :: r).take 5))]) [] := by
                conv => lhs; rw [hl, List.append_assoc]
                exact run_five _ _ D hg hg5
              rw [hrun, hm']
              by_cases hov : 4294967296 ≤ acc85 ((x :: r).take 5)
              · rw [if_pos hov, if_pos hov]; rfl
              · rw [if_neg hov, if_neg (by lia), ← hdl]
                refine ih _ _ _ (by lia) hkd ?_
                rw [toB_app, ho, List.take_of_length_le (by simp [four256]), u32_four hpos (by lia)]
                simp
            · have hts : (x :: r).take 5 = x :: r := List.take_of_length_le (by simp; lia)
              have hds : (x :: r).drop 5 = [] := List.drop_of_length_le (by simp; lia)
              rw [hts] at hg hm' hpos ⊢
              have hu : U4 = List.replicate (5 - (r.length + 1)) 117 ++ List.replicate r.length 117 := by
                rw [List.replicate_append_replicate, show 5 - (r.length + 1) + r.length = 4 by lia]; rfl
              have hp : padN (5 - (x :: r).length) m = acc85 (x :: r ++ List.replicate (5 - (r.length + 1)) 117) := by
                rw [acc_pad, hm', List.length_cons]
              rw [hp]
              have hg' : ∀ y ∈ x :: r ++ List.replicate (5 - (r.length + 1)) 117, 33 ≤ y ∧ y ≤ 117 := fun y hy => by
                rcases List.mem_append.mp hy with q | q
                · exact hg y q
                · have := List.eq_of_mem_replicate q; lia
              have hpos' := acc85_pos fun y hy => (hg' y hy).1
              rw [hu, ← List.append_assoc, run_five _ _ D hg' (by simp; lia)]
              rw [hds, show r.length + 1 - 5 = 0 by lia, dec85]
              by_cases hov : 4294967296 ≤ acc85 (x :: r ++ List.replicate (5 - (r.length + 1)) 117)
              · rw [if_pos hov, if_pos hov]; rfl
              · rw [if_neg hov, if_neg (by lia), run_us _ _ (by lia)]
                show I.bytes (end85 _ _) = _
                rw [end_part _ _ _ (by lia) rfl, ← ho, toB_app]
                congr 1
                congr 1
                rw [← u32_four hpos' (by lia), List.length_cons, Nat.add_sub_cancel]
                simp [toB, List.map_take]
theorem body_str (t : List UInt8) : str85 t sp pa = body85 t sp pa := by
  unfold str85 body85 kept85
  rw [run_kept]
  have e : (bI (t ++ [117, 117, 117, 117])).filter (kp sp pa) = (bI t).filter (kp sp pa) ++ U4 := by
    unfold bI
    rw [List.map_append, List.filter_append]
    congr 1
  rw [e]
  exact run_dec _ _ _ _ (Nat.le_refl _) (fun x hx => (List.mem_filter.mp hx).2) rfl
theorem ends_cut (t c : List UInt8) (hc : c.length = 2) : endsB t c = decide (cut t (some (-2)) none = c) := by
  unfold endsB
  have e : cut t (some (-2)) none = t.drop (t.length - 2) := by
    unfold cut
    simp only [Option.elim]
    have q : clipAt t.length (-2) = t.length - 2 := by unfold clipAt; rw [if_pos (by decide)]; lia
    rw [q, List.take_of_length_le (by rw [List.length_drop]; exact Nat.le_refl _)]
  rw [e, hc]
  by_cases h : 2 ≤ t.length
  · rw [decide_eq_true h, Bool.true_and]
    rw [Bool.eq_iff_iff]; simp
  · rw [decide_eq_false h, Bool.false_and]
    symm
    rw [decide_eq_false_iff_not]
    intro q
    have := congrArg List.length q
    rw [List.length_drop, hc] at this
    lia
theorem starts_cut (t c : List UInt8) (hc : c.length = 2) : startsB t c = decide (cut t none (some 2) = c) := by
  unfold startsB
  rw [show cut t none (some 2) = t.take 2 from cut_to t 2, hc]
  by_cases h : 2 ≤ t.length
  · rw [decide_eq_true h, Bool.true_and]
    rw [Bool.eq_iff_iff]; simp
  · rw [decide_eq_false h, Bool.false_and]
    symm
    rw [decide_eq_false_iff_not]
    intro q
    have := congrArg List.length q
    rw [List.length_take, hc] at this
    lia
theorem a85_f85 (t : List UInt8) (sp fr : Bool) (pa : List UInt8) : a85 t sp fr pa = f85 t sp fr pa := by
  unfold a85 f85
  cases fr with
  | false => rw [if_neg Bool.false_ne_true, if_neg Bool.false_ne_true, body_str]
  | true =>
    rw [if_pos rfl, if_pos rfl, ends_cut t [126, 62] rfl, starts_cut t [60, 126] rfl]
    by_cases h : cut t (some (-2)) none = [126, 62]
    · have hr : (if cut t (some (-2)) none ≠ [126, 62] then I.str endS else body85 (if cut t none (some 2) = [60, 126] then cut t (some 2) (some (-2)) else cut t none (some (-2))) sp pa) = body85 (if cut t none (some 2) = [60, 126] then cut t (some 2) (some (-2)) else cut t none (some (-2))) sp pa := if_neg (fun q => q h)
      rw [hr, if_pos (decide_eq_true h)]
      by_cases h2 : cut t none (some 2) = [60, 126]
      · rw [if_pos (decide_eq_true h2), if_pos h2, body_str]
      · rw [if_neg (fun q => h2 (of_decide_eq_true q)), if_neg h2, body_str]
    · rw [if_neg (fun q => h (of_decide_eq_true q)), if_pos h]
      rfl
end Mine
end
section
set_option maxRecDepth 100000
set_option maxHeartbeats 4000000
namespace Mine
theorem dec85_len (sp : Bool) : ∀ (n : Nat) (l o : List Int) (b : List UInt8), l.length = n → dec85 sp n l o = .bytes b → b.length ≤ o.length + 4 * n := by
  intro n
  induction n using Nat.strongRecOn with
  | ind n ih =>
    intro l o b hl h
    match n, l with
    | 0, _ => rw [dec85] at h; cases h; rw [toB_len]; lia
    | m + 1, [] => simp at hl
    | m + 1, c :: r =>
      have hr : r.length = m := by simpa using hl
      rw [dec85] at h
      split at h
      · have := ih m (by lia) r _ b hr h
        simp at this; lia
      · split at h
        · have := ih m (by lia) r _ b hr h
          simp at this; lia
        · split at h
          · cases h
          · split at h
            · cases h
            · have := ih (m + 1 - 5) (by lia) _ _ b (by rw [List.length_drop, hl]) h
              rw [List.length_append, List.length_take, List.length_take, hl] at this
              omega
theorem kept_len (t : List UInt8) (sp : Bool) (pa : List UInt8) : (kept85 t sp pa).length ≤ t.length := Nat.le_trans (List.length_filter_le _ _) (by rw [bI_len]; exact Nat.le_refl _)
theorem body85_len {t : List UInt8} {sp : Bool} {pa b : List UInt8} (h : body85 t sp pa = .bytes b) : b.length ≤ 4 * t.length := by
  have := dec85_len sp _ _ _ b rfl h
  have h2 := kept_len t sp pa
  simp at this; lia
theorem f85_len {t : List UInt8} {sp fr : Bool} {pa b : List UInt8} (h : f85 t sp fr pa = .bytes b) : b.length ≤ 4 * t.length := by
  unfold f85 at h
  split at h
  · split at h
    · cases h
    · have := body85_len h
      have h2 : (if cut t none (some 2) = [60, 126] then cut t (some 2) (some (-2)) else cut t none (some (-2))).length ≤ t.length := by
        split <;> exact cut_len _ _ _
      lia
  · exact body85_len h
theorem f16_len {t b : List UInt8} (h : f16 t = .bytes b) : b.length ≤ t.length := by
  unfold f16 at h
  split at h
  · cases h
    rw [toB_len]
    simp [d16]; lia
  · cases h
theorem step64_len {st st' : List Int × Int} {c : UInt8} (h : step64 st c = some st') : st'.1.length ≤ st.1.length + 1 := by
  unfold step64 at h
  split at h
  · cases h; simp
  · split at h
    · cases h
    · cases h; simp
theorem scan_len : ∀ (t : List UInt8) (st st' : List Int × Int), t.foldlM step64 st = some st' → st'.1.length ≤ st.1.length + t.length := by
  intro t
  induction t with
  | nil => intro st st' h; cases h; simp
  | cons c t ih =>
    intro st st' h
    rw [List.foldlM_cons] at h
    cases q : step64 st c with
    | none => rw [q] at h; cases h
    | some s2 =>
      rw [q] at h
      have h1 := step64_len q
      have h2 := ih s2 st' h
      simp; lia
theorem f64_len {t b : List UInt8} (h : f64 t = .bytes b) : b.length ≤ 3 * t.length + 3 := by
  unfold f64 at h
  cases q : scan64 t with
  | none => rw [q] at h; cases h
  | some x =>
    obtain ⟨r, p⟩ := x
    rw [q] at h
    have h1 := scan_len t _ _ q
    simp at h1
    simp only at h
    unfold end64 at h
    split at h
    · cases h
    · split at h
      · cases h
      · cases h
        rw [toB_len]
        have := o64_len r ((r.length + 3) / 4)
        lia
theorem due_ok (row sk : List UInt8) (hl : row.length ≤ 16) : AnsOk (dueL row sk) where
  len := dueL_len row sk
  nr := fun i hi => plain_nr (dueL_plain row sk i hi)
  ni := fun i hi => plain_ni (dueL_plain row sk i hi)
  short := fun b hb => by
    rcases List.mem_append.mp hb with q | q
    · obtain ⟨w, _, h⟩ := List.mem_map.mp q
      have := f85_len h
      lia
    · simp at q
      rcases q with q | q
      · have := f16_len q.symm
        lia
      · have := f64_len q.symm
        lia
/-- what is told -/
noncomputable def tvOf (row : List UInt8) (po : Option (List UInt8)) (n : Nat) : I :=
  if n = 4 then f16 row else if n = 5 then t64 row else a85 row ((n : Int) % 2 == 1) ((n : Int) / 2 == 1) (skO po)
theorem tv_right (row : List UInt8) (po : Option (List UInt8)) : ∀ n : Nat, n < 6 → (dueL row (skO po)).getD n .none ≠ .none → tvOf row po n = (dueL row (skO po)).getD n .none := fun n hn h => by
  unfold tvOf
  have h6 : n = 0 ∨ n = 1 ∨ n = 2 ∨ n = 3 ∨ n = 4 ∨ n = 5 := by lia
  rcases h6 with rfl | rfl | rfl | rfl | rfl | rfl
  · rw [if_neg (by decide), if_neg (by decide), a85_f85]; rfl
  · rw [if_neg (by decide), if_neg (by decide), a85_f85]; rfl
  · rw [if_neg (by decide), if_neg (by decide), a85_f85]; rfl
  · rw [if_neg (by decide), if_neg (by decide), a85_f85]; rfl
  · rw [if_pos rfl]; rfl
  · rw [if_neg (by decide), if_pos rfl]
    exact t64_f64 row h
end Mine
end
section
set_option maxRecDepth 100000
set_option maxHeartbeats 8000000
set_option linter.unusedVariables false
namespace Mine
section
variable {P : Params} {h : Heap} {mg mb : Str → Option Value} {prog : Program} {w : World}
theorem obj_of {K : Frag} {h : Heap} (X : K.In h) {f : Addr} {fd : FuncData} (e : (K.lookup f).map (·.data) = some (.func fd)) : ∃ o, h.get? f = some o ∧ o.data = .func fd := by
  cases q : K.lookup f with
  | none => rw [q] at e; cases e
  | some o => rw [q] at e; exact ⟨o, X _ _ q, Option.some.inj e⟩
theorem fn_72 (X : (hd.heap_39 P).In h) : ∃ pm cd, FnOk ⟨prog, w, h, mg, mb⟩ 72 (mkFd 6 "_bytes_from_decode_data" .none .none pm cd) (fB 6) ["s"] ["s"] :=
  ⟨_, _, obj_of X rfl, codeRec_of X (by rfl), rfl, rfl, rfl, rfl, rfl, rfl, rfl, ⟨_, rfl⟩, by decide, show ∀ x ∈ (["s"] : List Str), (fS 6).names.lookup x = some .local ∨ (fS 6).names.lookup x = some .cell by decide⟩
theorem fn_92 (X : (hd.heap_39 P).In h) : ∃ pm cd, FnOk ⟨prog, w, h, mg, mb⟩ 92 (mkFd 9 "_ascii_buffer" .none .none pm cd) (fB 9) ["data"] ["data", "t"] :=
  ⟨_, _, obj_of X rfl, codeRec_of X (by rfl), rfl, rfl, rfl, rfl, rfl, rfl, rfl, ⟨_, rfl⟩, by decide, show ∀ x ∈ (["data"] : List Str), (fS 9).names.lookup x = some .local ∨ (fS 9).names.lookup x = some .cell by decide⟩
theorem fn_99 (X : (hd.heap_39 P).In h) : ∃ pm cd, FnOk ⟨prog, w, h, mg, mb⟩ 99 (mkFd 10 "_buffer" .none .none pm cd) (fB 10) ["data"] ["data", "t"] :=
  ⟨_, _, obj_of X rfl, codeRec_of X (by rfl), rfl, rfl, rfl, rfl, rfl, rfl, rfl, ⟨_, rfl⟩, by decide, show ∀ x ∈ (["data"] : List Str), (fS 10).names.lookup x = some .local ∨ (fS 10).names.lookup x = some .cell by decide⟩
theorem fn_106 (X : (hd.heap_39 P).In h) : ∃ pm cd, FnOk ⟨prog, w, h, mg, mb⟩ 106 (mkFd 11 "_truth" .none .none pm cd) (fB 11) ["x"] ["x", "t"] :=
  ⟨_, _, obj_of X rfl, codeRec_of X (by rfl), rfl, rfl, rfl, rfl, rfl, rfl, rfl, ⟨_, rfl⟩, by decide, show ∀ x ∈ (["x"] : List Str), (fS 11).names.lookup x = some .local ∨ (fS 11).names.lookup x = some .cell by decide⟩
theorem fn_113 (X : (hd.heap_39 P).In h) : ∃ pm cd, FnOk ⟨prog, w, h, mg, mb⟩ 113 (mkFd 13 "_b64_value" .none .none pm cd) (fB 13) ["c"] ["c"] :=
  ⟨_, _, obj_of X rfl, codeRec_of X (by rfl), rfl, rfl, rfl, rfl, rfl, rfl, rfl, ⟨_, rfl⟩, by decide, show ∀ x ∈ (["c"] : List Str), (fS 13).names.lookup x = some .local ∨ (fS 13).names.lookup x = some .cell by decide⟩
theorem fn_121 (X : (hd.heap_39 P).In h) : ∃ pm cd, FnOk ⟨prog, w, h, mg, mb⟩ 121 (mkFd 14 "a2b_base64" .none (.ref 114) pm cd) (fB 14) ["data", "strict_mode"] ["data", "strict_mode", "ascii_data", "out", "quad_pos", "leftchar", "pads", "i", "this_ch"] :=
  ⟨_, _, obj_of X rfl, codeRec_of X (by rfl), rfl, rfl, rfl, rfl, rfl, rfl, rfl, ⟨_, rfl⟩, by decide, show ∀ x ∈ (["data", "strict_mode"] : List Str), (fS 14).names.lookup x = some .local ∨ (fS 14).names.lookup x = some .cell by decide⟩
theorem fn_129 (X : (hd.heap_39 P).In h) : ∃ pm cd, FnOk ⟨prog, w, h, mg, mb⟩ 129 (mkFd 15 "b2a_base64" .none (.ref 122) pm cd) (fB 15) ["data", "newline"] ["data", "newline", "bin_data", "out", "leftbits", "leftchar", "b"] :=
  ⟨_, _, obj_of X rfl, codeRec_of X (by rfl), rfl, rfl, rfl, rfl, rfl, rfl, rfl, ⟨_, rfl⟩, by decide, show ∀ x ∈ (["data", "newline"] : List Str), (fS 15).names.lookup x = some .local ∨ (fS 15).names.lookup x = some .cell by decide⟩
theorem fn_138 (X : (hd.heap_39 P).In h) : ∃ pm cd, FnOk ⟨prog, w, h, mg, mb⟩ 138 (mkFd 17 "b2a_hex" (.ref 131) .none pm cd) (fB 17) ["data", "sep", "bytes_per_sep"] ["data", "sep", "bytes_per_sep", "t"] :=
  ⟨_, _, obj_of X rfl, codeRec_of X (by rfl), rfl, rfl, rfl, rfl, rfl, rfl, rfl, ⟨_, rfl⟩, by decide, show ∀ x ∈ (["data", "sep", "bytes_per_sep"] : List Str), (fS 17).names.lookup x = some .local ∨ (fS 17).names.lookup x = some .cell by decide⟩
theorem fn_145 (X : (hd.heap_39 P).In h) : ∃ pm cd, FnOk ⟨prog, w, h, mg, mb⟩ 145 (mkFd 19 "_hex_value" .none .none pm cd) (fB 19) ["c"] ["c"] :=
  ⟨_, _, obj_of X rfl, codeRec_of X (by rfl), rfl, rfl, rfl, rfl, rfl, rfl, rfl, ⟨_, rfl⟩, by decide, show ∀ x ∈ (["c"] : List Str), (fS 19).names.lookup x = some .local ∨ (fS 19).names.lookup x = some .cell by decide⟩
theorem fn_152 (X : (hd.heap_39 P).In h) : ∃ pm cd, FnOk ⟨prog, w, h, mg, mb⟩ 152 (mkFd 20 "a2b_hex" .none .none pm cd) (fB 20) ["hexstr"] ["hexstr", "argbuf", "arglen", "out", "i", "top", "bot"] :=
  ⟨_, _, obj_of X rfl, codeRec_of X (by rfl), rfl, rfl, rfl, rfl, rfl, rfl, rfl, ⟨_, rfl⟩, by decide, show ∀ x ∈ (["hexstr"] : List Str), (fS 20).names.lookup x = some .local ∨ (fS 20).names.lookup x = some .cell by decide⟩
theorem fn_160 (X : (hd.heap_39 P).In h) : ∃ pm cd, FnOk ⟨prog, w, h, mg, mb⟩ 160 (mkFd 23 "b64encode" (.ref 153) .none pm cd) (fB 23) ["s", "altchars"] ["s", "altchars", "encoded"] :=
  ⟨_, _, obj_of X rfl, codeRec_of X (by rfl), rfl, rfl, rfl, rfl, rfl, rfl, rfl, ⟨_, rfl⟩, by decide, show ∀ x ∈ (["s", "altchars"] : List Str), (fS 23).names.lookup x = some .local ∨ (fS 23).names.lookup x = some .cell by decide⟩
theorem fn_168 (X : (hd.heap_39 P).In h) : ∃ pm cd, FnOk ⟨prog, w, h, mg, mb⟩ 168 (mkFd 24 "b64decode" (.ref 161) .none pm cd) (fB 24) ["s", "altchars", "validate"] ["s", "altchars", "validate"] :=
  ⟨_, _, obj_of X rfl, codeRec_of X (by rfl), rfl, rfl, rfl, rfl, rfl, rfl, rfl, ⟨_, rfl⟩, by decide, show ∀ x ∈ (["s", "altchars", "validate"] : List Str), (fS 24).names.lookup x = some .local ∨ (fS 24).names.lookup x = some .cell by decide⟩
theorem fn_175 (X : (hd.heap_39 P).In h) : ∃ pm cd, FnOk ⟨prog, w, h, mg, mb⟩ 175 (mkFd 25 "b16encode" .none .none pm cd) (fB 25) ["s"] ["s"] :=
  ⟨_, _, obj_of X rfl, codeRec_of X (by rfl), rfl, rfl, rfl, rfl, rfl, rfl, rfl, ⟨_, rfl⟩, by decide, show ∀ x ∈ (["s"] : List Str), (fS 25).names.lookup x = some .local ∨ (fS 25).names.lookup x = some .cell by decide⟩
theorem fn_183 (X : (hd.heap_39 P).In h) : ∃ pm cd, FnOk ⟨prog, w, h, mg, mb⟩ 183 (mkFd 26 "b16decode" (.ref 176) .none pm cd) (fB 26) ["s", "casefold"] ["s", "casefold"] :=
  ⟨_, _, obj_of X rfl, codeRec_of X (by rfl), rfl, rfl, rfl, rfl, rfl, rfl, rfl, ⟨_, rfl⟩, by decide, show ∀ x ∈ (["s", "casefold"] : List Str), (fS 26).names.lookup x = some .local ∨ (fS 26).names.lookup x = some .cell by decide⟩
theorem fn_191 (X : (hd.heap_39 P).In h) : ∃ pm cd, FnOk ⟨prog, w, h, mg, mb⟩ 191 (mkFd 29 "a85decode" .none (.ref 184) pm cd) (fB 29) ["b", "foldspaces", "adobe", "ignorechars"] ["b", "foldspaces", "adobe", "ignorechars", "packI", "decoded", "decoded_append", "curr", "curr_append", "curr_clear", "x", "acc", "result", "padding"] :=
  ⟨_, _, obj_of X rfl, codeRec_of X (by rfl), rfl, rfl, rfl, rfl, rfl, rfl, rfl, ⟨_, rfl⟩, by decide, show ∀ x ∈ (["b", "foldspaces", "adobe", "ignorechars"] : List Str), (fS 29).names.lookup x = some .local ∨ (fS 29).names.lookup x = some .cell by decide⟩
theorem fn_198 (X : (hd.heap_39 P).In h) : ∃ pm cd, FnOk ⟨prog, w, h, mg, mb⟩ 198 (mkFd 31 "_law_signs" .none .none pm cd) (fB 31) [] [] :=
  ⟨_, _, obj_of X rfl, codeRec_of X (by rfl), rfl, rfl, rfl, rfl, rfl, rfl, rfl, ⟨_, rfl⟩, by decide, show ∀ x ∈ ([] : List Str), (fS 31).names.lookup x = some .local ∨ (fS 31).names.lookup x = some .cell by decide⟩
theorem fn_205 (X : (hd.heap_39 P).In h) : ∃ pm cd, FnOk ⟨prog, w, h, mg, mb⟩ 205 (mkFd 32 "_law_sixteen" .none .none pm cd) (fB 32) ["row"] ["row", "text", "x"] :=
  ⟨_, _, obj_of X rfl, codeRec_of X (by rfl), rfl, rfl, rfl, rfl, rfl, rfl, rfl, ⟨_, rfl⟩, by decide, show ∀ x ∈ (["row"] : List Str), (fS 32).names.lookup x = some .local ∨ (fS 32).names.lookup x = some .cell by decide⟩
theorem fn_210 (X : (hd.heap_39 P).In h) : ∃ pm cd, FnOk ⟨prog, w, h, mg, mb⟩ 210 (mkFd 33 "_law_sixty_four" .none .none pm cd) (fB 33) ["row"] ["row", "signs", "text", "k", "number", "j", "four", "left"] :=
  ⟨_, _, obj_of X rfl, codeRec_of X (by rfl), rfl, rfl, rfl, rfl, rfl, rfl, rfl, ⟨_, rfl⟩, by decide, show ∀ x ∈ (["row"] : List Str), (fS 33).names.lookup x = some .local ∨ (fS 33).names.lookup x = some .cell by decide⟩
theorem fn_217 (X : (hd.heap_39 P).In h) : ∃ pm cd, FnOk ⟨prog, w, h, mg, mb⟩ 217 (mkFd 34 "_law_five" .none .none pm cd) (fB 34) ["number"] ["number"] :=
  ⟨_, _, obj_of X rfl, codeRec_of X (by rfl), rfl, rfl, rfl, rfl, rfl, rfl, rfl, ⟨_, rfl⟩, by decide, show ∀ x ∈ (["number"] : List Str), (fS 34).names.lookup x = some .local ∨ (fS 34).names.lookup x = some .cell by decide⟩
theorem fn_222 (X : (hd.heap_39 P).In h) : ∃ pm cd, FnOk ⟨prog, w, h, mg, mb⟩ 222 (mkFd 35 "_law_eighty_five" .none .none pm cd) (fB 35) ["row", "spaces", "frame", "wide"] ["row", "spaces", "frame", "wide", "text", "k", "four", "short", "number", "x", "rows"] :=
  ⟨_, _, obj_of X rfl, codeRec_of X (by rfl), rfl, rfl, rfl, rfl, rfl, rfl, rfl, ⟨_, rfl⟩, by decide, show ∀ x ∈ (["row", "spaces", "frame", "wide"] : List Str), (fS 35).names.lookup x = some .local ∨ (fS 35).names.lookup x = some .cell by decide⟩
theorem fn_227 (X : (hd.heap_39 P).In h) : ∃ pm cd, FnOk ⟨prog, w, h, mg, mb⟩ 227 (mkFd 36 "_law_from_sixteen" .none .none pm cd) (fB 36) ["text"] ["text", "x", "figures"] :=
  ⟨_, _, obj_of X rfl, codeRec_of X (by rfl), rfl, rfl, rfl, rfl, rfl, rfl, rfl, ⟨_, rfl⟩, by decide, show ∀ x ∈ (["text"] : List Str), (fS 36).names.lookup x = some .local ∨ (fS 36).names.lookup x = some .cell by decide⟩
theorem fn_234 (X : (hd.heap_39 P).In h) : ∃ pm cd, FnOk ⟨prog, w, h, mg, mb⟩ 234 (mkFd 37 "_law_from_sixty_four" .none .none pm cd) (fB 37) ["text"] ["text", "signs", "read", "pads", "x", "beyond", "octets", "k", "number", "j", "three"] :=
  ⟨_, _, obj_of X rfl, codeRec_of X (by rfl), rfl, rfl, rfl, rfl, rfl, rfl, rfl, ⟨_, rfl⟩, by decide, show ∀ x ∈ (["text"] : List Str), (fS 37).names.lookup x = some .local ∨ (fS 37).names.lookup x = some .cell by decide⟩
theorem fn_239 (X : (hd.heap_39 P).In h) : ∃ pm cd, FnOk ⟨prog, w, h, mg, mb⟩ 239 (mkFd 38 "_law_from_eighty_five" .none .none pm cd) (fB 38) ["text", "spaces", "frame", "passed"] ["text", "spaces", "frame", "passed", "kept", "octets", "k", "group", "number", "x", "j", "four"] :=
  ⟨_, _, obj_of X rfl, codeRec_of X (by rfl), rfl, rfl, rfl, rfl, rfl, rfl, rfl, ⟨_, rfl⟩, by decide, show ∀ x ∈ (["text", "spaces", "frame", "passed"] : List Str), (fS 38).names.lookup x = some .local ∨ (fS 38).names.lookup x = some .cell by decide⟩
theorem fn_246 (X : (hd.heap_39 P).In h) : ∃ pm cd, FnOk ⟨prog, w, h, mg, mb⟩ 246 (mkFd 39 "_law_told" .none .none pm cd) (fB 39) ["which", "row", "passed"] ["which", "row", "passed", "told", "error_v"] :=
  ⟨_, _, obj_of X rfl, codeRec_of X (by rfl), rfl, rfl, rfl, rfl, rfl, rfl, rfl, ⟨_, rfl⟩, by decide, show ∀ x ∈ (["which", "row", "passed"] : List Str), (fS 39).names.lookup x = some .local ∨ (fS 39).names.lookup x = some .cell by decide⟩
theorem fn_253 (X : (hd.heap_39 P).In h) : ∃ pm cd, FnOk ⟨prog, w, h, mg, mb⟩ 253 (mkFd 40 "_law_looked" .none .none pm cd) (fB 40) ["row", "passed"] ["row", "passed", "sent", "skipped", "due", "which"] :=
  ⟨_, _, obj_of X rfl, codeRec_of X (by rfl), rfl, rfl, rfl, rfl, rfl, rfl, rfl, ⟨_, rfl⟩, by decide, show ∀ x ∈ (["row", "passed"] : List Str), (fS 40).names.lookup x = some .local ∨ (fS 40).names.lookup x = some .cell by decide⟩
theorem fn_258 (X : (hd.heap_39 P).In h) : ∃ pm cd, FnOk ⟨prog, w, h, mg, mb⟩ 258 (mkFd 41 "_law_done" .none .none pm cd) (fB 41) ["deed", "row", "answers"] ["deed", "row", "answers", "part", "turned", "read", "place", "more"] :=
  ⟨_, _, obj_of X rfl, codeRec_of X (by rfl), rfl, rfl, rfl, rfl, rfl, rfl, rfl, ⟨_, rfl⟩, by decide, show ∀ x ∈ (["deed", "row", "answers"] : List Str), (fS 41).names.lookup x = some .local ∨ (fS 41).names.lookup x = some .cell by decide⟩
theorem fn_263 (X : (hd.heap_39 P).In h) : ∃ pm cd, FnOk ⟨prog, w, h, mg, mb⟩ 263 (mkFd 42 "law" .none .none pm cd) (fB 42) ["script"] ["script", "numbers", "row", "step", "deed", "answers"] :=
  ⟨_, _, obj_of X rfl, codeRec_of X (by rfl), rfl, rfl, rfl, rfl, rfl, rfl, rfl, ⟨_, rfl⟩, by decide, show ∀ x ∈ (["script"] : List Str), (fS 42).names.lookup x = some .local ∨ (fS 42).names.lookup x = some .cell by decide⟩

theorem ns81 : nsOkIn (hd.heap_39 P) 81 = true := by first | kernel_rfl | (with_unfolding_all rfl)
theorem err_ok (X : (hd.heap_39 P).In h) : OwnErr ⟨prog, w, h, mg, mb⟩ 82 := by
  refine ⟨_, _, 81, _, _, _, _, _, _, _, _, _, _, _, _, _, _, _, _, _, PySem.F.excBase_ValueError, X 82 _ (by rfl), .of_isNs (isNs_of_in X ns81), nsMap_none_of_in X ns81 (by rfl), by decide⟩

theorem gl_of (X : (hd.heap_39 P).In h) (g : h.Ns mainGlobals mg) (bt : ∀ x : Str, x ≠ "__name__" → mb x = bootBuiltins x) : Gl ⟨prog, w, h, mg, mb⟩ where
  tType := .inr ⟨mg_none_of X g (by rfl), (bt "type" (by decide)).trans (by decide +kernel)⟩
  tStr := .inr ⟨mg_none_of X g (by rfl), (bt "str" (by decide)).trans (by decide +kernel)⟩
  tBytes := .inr ⟨mg_none_of X g (by rfl), (bt "bytes" (by decide)).trans (by decide +kernel)⟩
  tBool := .inr ⟨mg_none_of X g (by rfl), (bt "bool" (by decide)).trans (by decide +kernel)⟩
  tInt := .inr ⟨mg_none_of X g (by rfl), (bt "int" (by decide)).trans (by decide +kernel)⟩
  tList := .inr ⟨mg_none_of X g (by rfl), (bt "list" (by decide)).trans (by decide +kernel)⟩
  tRange := .inr ⟨mg_none_of X g (by rfl), (bt "range" (by decide)).trans (by decide +kernel)⟩
  bLen := .inr ⟨mg_none_of X g (by rfl), (bt "len" (by decide)).trans (by decide +kernel)⟩
  bMin := .inr ⟨mg_none_of X g (by rfl), (bt "min" (by decide)).trans (by decide +kernel)⟩
  bChr := .inr ⟨mg_none_of X g (by rfl), (bt "chr" (by decide)).trans (by decide +kernel)⟩
  bIs := .inr ⟨mg_none_of X g (by rfl), (bt "isinstance" (by decide)).trans (by decide +kernel)⟩
  vErr := .inr ⟨mg_none_of X g (by rfl), (bt "ValueError" (by decide)).trans (by decide +kernel)⟩
  tup65 := X _ _ (by rfl)
  oErr := err_ok X
  bTypes := .inl (mg_of X g (by rfl))
  fDec := .inl (mg_of X g (by rfl))
  cErr := .inl (mg_of X g (by rfl))
  fAsc := .inl (mg_of X g (by rfl))
  fBuf := .inl (mg_of X g (by rfl))
  fTruth := .inl (mg_of X g (by rfl))
  fB64v := .inl (mg_of X g (by rfl))
  fA2b := .inl (mg_of X g (by rfl))
  fB2a := .inl (mg_of X g (by rfl))
  noSep := .inl (mg_of X g (by rfl))
  fHexlify := .inl (mg_of X g (by rfl))
  fHexv := .inl (mg_of X g (by rfl))
  fUnhex := .inl (mg_of X g (by rfl))
  fE64 := .inl (mg_of X g (by rfl))
  fD64 := .inl (mg_of X g (by rfl))
  fE16 := .inl (mg_of X g (by rfl))
  fD16 := .inl (mg_of X g (by rfl))
  fA85 := .inl (mg_of X g (by rfl))
  lSigns := .inl (mg_of X g (by rfl))
  lE16 := .inl (mg_of X g (by rfl))
  lE64 := .inl (mg_of X g (by rfl))
  lFive := .inl (mg_of X g (by rfl))
  lE85 := .inl (mg_of X g (by rfl))
  lF16 := .inl (mg_of X g (by rfl))
  lF64 := .inl (mg_of X g (by rfl))
  lF85 := .inl (mg_of X g (by rfl))
  lTold := .inl (mg_of X g (by rfl))
  lLooked := .inl (mg_of X g (by rfl))
  lDone := .inl (mg_of X g (by rfl))

theorem gl2_of (X : (hd.heap_39 P).In h) (g : h.Ns mainGlobals mg) : Gl2 ⟨prog, w, h, mg, mb⟩ where
  b64 := ⟨_, .inl (mg_of X g (by rfl))⟩
  a85s := ⟨_, .inl (mg_of X g (by rfl))⟩
  a85e := ⟨_, .inl (mg_of X g (by rfl))⟩
theorem d131 (X : (hd.heap_39 P).In h) : ∃ tk, h.get? 131 = some { cls := .type "tuple", data := .seq #[.ref 130, .int 1 tk] } := ⟨_, X _ _ (by rfl)⟩
theorem d153 (X : (hd.heap_39 P).In h) : h.get? 153 = some { cls := .type "tuple", data := .seq #[.none] } := X _ _ (by rfl)
theorem d161 (X : (hd.heap_39 P).In h) : h.get? 161 = some { cls := .type "tuple", data := .seq #[.none, .bool false] } := X _ _ (by rfl)
theorem d176 (X : (hd.heap_39 P).In h) : h.get? 176 = some { cls := .type "tuple", data := .seq #[.bool false] } := X _ _ (by rfl)
end
end Mine
end
section
set_option maxRecDepth 100000
set_option maxHeartbeats 8000000
set_option linter.unusedVariables false
namespace Mine
section
variable {P : Params} {h : Heap} {mg mb : Str → Option Value} {prog : Program} {w : World}
theorem ns_at {K : Frag} {N : Addr} {m : Str → Option Value} {n : Str} {v : Value} (X : K.In h) (G : h.Ns N m) (e : nsIn K N n = some (some v)) : m n = some v := by
  obtain ⟨o, es, ep, ho, hd, _, hf⟩ := G
  unfold nsIn at e
  split at e
  · rename_i c d es' n' sl q
    have := X _ _ q
    rw [ho] at this
    cases this
    cases hd
    split at e
    · rename_i en he
      cases e
      rw [← hf]
      unfold nsFind findBy
      rw [← Array.find?_toList, he]
      rfl
    · split at e <;> cases e
  · cases e
theorem ns184 : nsOkIn (hd.heap_39 P) 184 = true := by first | kernel_rfl | (with_unfolding_all rfl)
theorem dk184 (X : (hd.heap_39 P).In h) : ∃ m t, h.Ns 184 m ∧ m "ignorechars" = some (.bytes [32, 9, 10, 13, 11].toArray t) :=
  have N : h.Ns 184 (h.nsMap 184) := .of_isNs (isNs_of_in X ns184)
  ⟨_, _, N, ns_at X N (by rfl)⟩
theorem gl3_of (X : (hd.heap_39 P).In h) (g : h.Ns mainGlobals mg) : Gl3 ⟨prog, w, h, mg, mb⟩ where
  tStruct := .inl (mg_of X g (by rfl))
  eStruct := .inl (mg_of X g (by rfl))
theorem re_of (X : (hd.heap_39 P).In h) (g : h.Ns mainGlobals mg) : (⟨prog, w, h, mg, mb⟩ : Glo).At "_twin_re_1" (.ref 64) := .inl (mg_of X g (by rfl))
theorem re64 (X : (hd.heap_39 P).In h) : ∃ tk t2, h.get? 64 = some (patO tk t2) := ⟨_, _, X _ _ (by rfl)⟩
theorem re63 (X : (hd.heap_39 P).In h) : h.get? 63 = some tupO := X _ _ (by rfl)

theorem main {prog : Program} {w : World} {h : Heap} {mg mb : Str → Option Value} (X : (hd.heap_39 w.params).In h) (g : h.Ns mainGlobals mg) (b : h.Ns builtinsNs mb) (lim : h.NoLimit) (bt : ∀ x : Str, x ≠ "__name__" → mb x = bootBuiltins x) (ns : List Int) (hl : ns.length ≤ 16777216) :
    Spec ⟨prog, w, h, mg, mb⟩ 6 263 [.list (ns.map .int)] [] (fun o => o = .ret (vb true) true) := by
  have GO : (⟨prog, w, h, mg, mb⟩ : Glo).Ok := ⟨g, b, lim⟩
  have W : Gl ⟨prog, w, h, mg, mb⟩ := gl_of X g bt
  have W2 : Gl2 ⟨prog, w, h, mg, mb⟩ := gl2_of X g
  have W3 : Gl3 ⟨prog, w, h, mg, mb⟩ := gl3_of X g
  obtain ⟨_, _, F72⟩ := fn_72 (mg := mg) (mb := mb) (prog := prog) (w := w) X
  obtain ⟨_, _, F92⟩ := fn_92 (mg := mg) (mb := mb) (prog := prog) (w := w) X
  obtain ⟨_, _, F99⟩ := fn_99 (mg := mg) (mb := mb) (prog := prog) (w := w) X
  obtain ⟨_, _, F106⟩ := fn_106 (mg := mg) (mb := mb) (prog := prog) (w := w) X
  obtain ⟨_, _, F113⟩ := fn_113 (mg := mg) (mb := mb) (prog := prog) (w := w) X
  obtain ⟨_, _, F121⟩ := fn_121 (mg := mg) (mb := mb) (prog := prog) (w := w) X
  obtain ⟨_, _, F129⟩ := fn_129 (mg := mg) (mb := mb) (prog := prog) (w := w) X
  obtain ⟨_, _, F138⟩ := fn_138 (mg := mg) (mb := mb) (prog := prog) (w := w) X
  obtain ⟨_, _, F145⟩ := fn_145 (mg := mg) (mb := mb) (prog := prog) (w := w) X
  obtain ⟨_, _, F152⟩ := fn_152 (mg := mg) (mb := mb) (prog := prog) (w := w) X
  obtain ⟨_, _, F160⟩ := fn_160 (mg := mg) (mb := mb) (prog := prog) (w := w) X
  obtain ⟨_, _, F168⟩ := fn_168 (mg := mg) (mb := mb) (prog := prog) (w := w) X
  obtain ⟨_, _, F175⟩ := fn_175 (mg := mg) (mb := mb) (prog := prog) (w := w) X
  obtain ⟨_, _, F183⟩ := fn_183 (mg := mg) (mb := mb) (prog := prog) (w := w) X
  obtain ⟨_, _, F191⟩ := fn_191 (mg := mg) (mb := mb) (prog := prog) (w := w) X
  obtain ⟨_, _, F198⟩ := fn_198 (mg := mg) (mb := mb) (prog := prog) (w := w) X
  obtain ⟨_, _, F205⟩ := fn_205 (mg := mg) (mb := mb) (prog := prog) (w := w) X
  obtain ⟨_, _, F210⟩ := fn_210 (mg := mg) (mb := mb) (prog := prog) (w := w) X
  obtain ⟨_, _, F217⟩ := fn_217 (mg := mg) (mb := mb) (prog := prog) (w := w) X
  obtain ⟨_, _, F222⟩ := fn_222 (mg := mg) (mb := mb) (prog := prog) (w := w) X
  obtain ⟨_, _, F227⟩ := fn_227 (mg := mg) (mb := mb) (prog := prog) (w := w) X
  obtain ⟨_, _, F234⟩ := fn_234 (mg := mg) (mb := mb) (prog := prog) (w := w) X
  obtain ⟨_, _, F239⟩ := fn_239 (mg := mg) (mb := mb) (prog := prog) (w := w) X
  obtain ⟨_, _, F246⟩ := fn_246 (mg := mg) (mb := mb) (prog := prog) (w := w) X
  obtain ⟨_, _, F253⟩ := fn_253 (mg := mg) (mb := mb) (prog := prog) (w := w) X
  obtain ⟨_, _, F258⟩ := fn_258 (mg := mg) (mb := mb) (prog := prog) (w := w) X
  obtain ⟨_, _, F263⟩ := fn_263 (mg := mg) (mb := mb) (prog := prog) (w := w) X
  obtain ⟨tk1, D131⟩ := d131 X
  obtain ⟨tk2, tk3, D64⟩ := re64 X
  have s72 := sp_dec GO W F72
  have s92 := sp_asc GO W F92
  have s99 := sp_buf GO W F99
  have s106 := sp_truth GO W F106
  have s113 := sp_b64v GO F113
  have s145 := sp_hexv GO F145
  have s198 := sp_signs GO W F198
  have s217 := sp_five GO F217
  have s205 := fun (row : List UInt8) (hr : row.length ≤ 1000) => sp_e16 GO W F205 row hr
  have s210 := fun (row : List UInt8) (hr : row.length ≤ 1000) => sp_e64 GO W F198.at s198 F210 row hr
  have s222 := fun (row : List UInt8) (sp fr : Bool) (wd : Int) (hr : row.length ≤ 1000) (hw : 0 ≤ wd) => sp_e85 GO W F217.at s217 F222 row sp fr wd hr hw
  have look : ∀ (row : List UInt8) (po : Option (List UInt8)), row.length ≤ 16 → Spec ⟨prog, w, h, mg, mb⟩ 5 253 [vy row, .im (pI po)] [] (fun o => o = .ret (.list (dueL row (skO po))) true) := by
    intro row po hr
    have hr' : row.length ≤ 1000 := by lia
    refine sp_looked (lt := 4) (by decide) GO W row po (tvOf row po) ?_ F253
    exact {
      a16 := F175.at
      b16 := sp_be16 GO W F138.at row (sp_hexlify GO W F99.at s99 D131 F138 row hr') F175 hr'
      a64 := F160.at
      b64 := sp_be64 GO W F129.at row (sp_b2a GO W W2 F99.at s99 F106.at s106 F129 row hr') (d153 X) F160
      l16 := F205.at
      m16 := s205 row hr'
      l64 := F210.at
      m64 := s210 row hr'
      f85 := F239.at
      g85 := fun sp fr pa => sp_f85 GO W F239 row sp fr pa hr'
      f16 := F227.at
      g16 := sp_f16 GO W F227 row hr'
      f64 := F234.at
      g64 := sp_f64 GO W F198.at s198 F234 row hr'
      told := F246.at
      gold := fun n hn => by
        refine sp_told (lt := 3) GO W (n : Int) (by lia) row po (tvOf row po n) F183.at ?_ F168.at ?_ F191.at (fun h4 => ?_) (fun h4 => ?_) (fun h5 => ?_) F246
        · exact sp_bd16 GO W (re_of X g) D64 (re63 X) F72.at s72 F152.at row hr' (fun ht => sp_a2bh GO W F92.at s92 F145.at s145 F152 row ht hr') (d176 X) F183
        · refine sp_bd64 GO W F72.at s72 F121.at row (A2b row) (fun v fr hv => ?_) (sp_a2b GO W F92.at s92 F106.at s106 F113.at s113 F121 row hr') (d161 X) F168
          unfold A2b at hv
          split at hv
          · obtain ⟨m, hv⟩ := hv; cases hv
          · cases hv; exact ⟨_, rfl⟩
        · have := sp_a85 GO W W2 W3 F72.at s72 (dk184 X) F191 row hr' ((n : Int) % 2 == 1) ((n : Int) / 2 == 1) po
          have e : tvOf row po n = a85 row ((n : Int) % 2 == 1) ((n : Int) / 2 == 1) (skO po) := by
            unfold tvOf
            rw [if_neg (by lia), if_neg (by lia)]
          rw [e]
          exact this.mono (by decide) fun _ q => q
        · have : n = 4 := by lia
          unfold tvOf
          rw [if_pos this]
        · have : n = 5 := by lia
          unfold tvOf
          rw [if_neg (by lia), if_pos this]
      same := by rw [B64_e64]
      right := tv_right row po }
  refine sp_law (lt := 5) GO W ?_ F263 ns hl
  exact {
    a := F253.at
    b := fun row st hr => look row (stO st) hr
    c := F258.at
    d := fun deed row st hd hr => (sp_done GO W F222.at s222 F205.at s205 F210.at s210 F217.at s217 F258 deed row (dueL row (skO (stO st))) hd hr (due_ok row _ hr)).mono (by decide) fun _ q => q }
end

theorem are_ints {vs : List Value} {ns : List Int} (h : IntsAre vs ns) : All2 IRep (ns.map .int) vs := by
  induction h with
  | nil => exact .nil
  | cons n t r ih => exact .cons ⟨t, rfl⟩ ih

theorem cw : PySem.Challenge.rw_kq0075_01.Holds := by
  refine Mine.hd ?_
  intro w s₀ s₁ mg mb G Y fa o pm cd doc dV kV ho hdat hcd hD hmg hgn args vals as hpre hlay hrd hwl hlo
  have KX : (Mine.hd.heap_39 w.params).In s₁.heap := kIn_of Y
  have T := Ground.T G
  have e := mg_of KX T.g (n := "law") (v := .ref 263) (by rfl)
  have hfa : fa = 263 := by
    have := e.symm.trans hmg
    cases this; rfl
  subst hfa
  have key : ∀ (a : Addr) (vs : List Value) (ns : List Int), s₁.heap.IsList a vs.toArray → IntsAre vs ns → (PyData.list (ns.map PyData.int)).layable0 = true →
      codeAny (model PySem.Challenge.rw_kq0075_01.row.prog w) callerA (.call (.ref 263) { pos := [Value.ref a] }) (GoodW PySem.Challenge.rw_kq0075_01.row.claim (classAt s₀.heap) (ExcName.means s₀.heap) [ofPy (PyData.list (ns.map PyData.int))] s₁) s₁ := by
    intro a vs ns hL hI hlay
    have S := main (prog := PySem.Challenge.rw_kq0075_01.row.prog) KX T.g T.b T.nolimit T.builtins ns (by have := len_ints_list hlay; lia)
    refine S callerA [] s₁ _ [.ref a] [] rfl rfl (by decide) (by decide) rfl (fun _ _ e => e) trivial (.cons ⟨a, vs, rfl, hL, are_ints hI⟩ .nil) .nil ?_
    rintro _ rfl v h' tk x rv _
    obtain rfl : v = .bool true := rv
    refine ⟨.inl ⟨.bool true, .bool true, [], rfl, fun cls => rfl, ?_, ?_, fun _ => ⟨.nil, fun _ h => nomatch h⟩⟩, fun b o e => x.keep b o (by simp [fa]) e, rfl, hgn⟩
    · exact .bool true
    · (first | (refine postW_of (by wrow_shape) (w_eq_bool (w_res rfl) w_lit) ?_; rfl) | kc_post)
  wrow_args hpre hlay hrd hwl hlo
  all_goals first | refine callC_kw (enter_call ?_) | refine enter_call ?_ | refine callC_kw (enter_callW ?_) | refine enter_callW ?_
  all_goals (try refine codeAny_mono ?_ (fun _ _ g => GoodW.toG g))
  all_goals exact key _ _ _ (by assumption) (by assumption) (by assumption)
end Mine
end
set_option maxRecDepth 100000 in
set_option maxHeartbeats 8000000 in
theorem PySem.Challenge.cw_kq0075_01_holds : PySem.Challenge.rw_kq0075_01.Holds := by
  exact Mine.cw
