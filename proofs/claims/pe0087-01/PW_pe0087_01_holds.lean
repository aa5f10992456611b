import PyProof.Rows.All
import Wide.All
import OpenK.AllK
import Wide.FinOn
import PySem.Challenge.RW_pe0087_01
set_option Elab.async false
section
open PySem PySem.W PyProof.Rows
set_option linter.unusedVariables false
namespace Mine

inductive PV where
  | none
  | bool (b : Bool)
  | int (i : Int)
  | float (x : UInt64)
  | bytes (b : List UInt8)
  | list (xs : List PV)
  | tuple (xs : List PV)
  | range (a b c : Int)
  | barr (b : List UInt8)


inductive Slot where
  | un
  | fz (v : PV)
  | ol (xs : List PV)
  | ob (b : List UInt8)


abbrev St := List Slot

mutual
noncomputable def Rep (X : Addr → Prop) (h : Heap) : PV → Value → Prop
  | .none, v => v = .none
  | .bool b, v => v = .bool b
  | .int i, v => ∃ t, v = .int i t
  | .float x, v => ∃ t, v = .float x t ∧ t ≠ 0
  | .bytes b, v => ∃ t, v = .bytes b.toArray t
  | .list xs, v => ∃ a vs, v = .ref a ∧ ¬ X a ∧ h.IsList a (List.toArray vs) ∧ RepL X h xs vs
  | .tuple xs, v => ∃ a vs, v = .ref a ∧ ¬ X a ∧ IsTup h a (List.toArray vs) ∧ RepL X h xs vs
  | .range a b c, v => ∃ p t u z, v = .ref p ∧ ¬ X p ∧ IsRange h p a b c t u z
  | .barr b, v => ∃ a, v = .ref a ∧ ¬ X a ∧ h.get? a = some { cls := .type "bytearray", data := .bytearray b.toArray 0 }
noncomputable def RepL (X : Addr → Prop) (h : Heap) : List PV → List Value → Prop
  | [], vs => vs = []
  | x :: xs, vs => ∃ v r, vs = v :: r ∧ Rep X h x v ∧ RepL X h xs r
end

noncomputable def Stays (h h' : Heap) : Prop := ∀ b o, h.get? b = some o → h'.get? b = some o
theorem Stays.trans {a b c : Heap} (x : Stays a b) (y : Stays b c) : Stays a c := fun i o e => y i o (x i o e)

/-- the objects that bear data -/
noncomputable def DataObj (o : Obj) : Prop := o.cls = .type "list" ∨ o.cls = .type "tuple" ∨ o.cls = .type "range" ∨ o.cls = .type "bytearray"
mutual
theorem Rep.mono {X Y : Addr → Prop} {h h' : Heap} (hs : ∀ b o, h.get? b = some o → ¬ X b → DataObj o → h'.get? b = some o ∧ ¬ Y b) : ∀ {p : PV} {v : Value}, Rep X h p v → Rep Y h' p v
  | .none, _, e => e
  | .bool _, _, e => e
  | .int _, _, e => e
  | .float _, _, e => e
  | .bytes _, _, e => e
  | .list xs, v, ⟨a, vs, e1, e2, ⟨o, ho, r⟩, e4⟩ => ⟨a, vs, e1, (hs a o ho e2 (.inl r.1)).2, ⟨o, (hs a o ho e2 (.inl r.1)).1, r⟩, RepL.mono hs e4⟩
  | .tuple xs, v, ⟨a, vs, e1, e2, ⟨o, ho, r⟩, e4⟩ => ⟨a, vs, e1, (hs a o ho e2 (.inr (.inl r.1))).2, ⟨o, (hs a o ho e2 (.inr (.inl r.1))).1, r⟩, RepL.mono hs e4⟩
  | .range _ _ _, v, ⟨q, t, u, z, e1, e2, e3⟩ => ⟨q, t, u, z, e1, (hs q _ e3 e2 (.inr (.inr (.inl rfl)))).2, (hs q _ e3 e2 (.inr (.inr (.inl rfl)))).1⟩
  | .barr _, v, ⟨q, e1, e2, e3⟩ => ⟨q, e1, (hs q _ e3 e2 (.inr (.inr (.inr rfl)))).2, (hs q _ e3 e2 (.inr (.inr (.inr rfl)))).1⟩
theorem RepL.mono {X Y : Addr → Prop} {h h' : Heap} (hs : ∀ b o, h.get? b = some o → ¬ X b → DataObj o → h'.get? b = some o ∧ ¬ Y b) : ∀ {p : List PV} {v : List Value}, RepL X h p v → RepL Y h' p v
  | [], _, e => e
  | _ :: _, _, ⟨a, r, e1, e2, e3⟩ => ⟨a, r, e1, Rep.mono hs e2, RepL.mono hs e3⟩
end
theorem Rep.stays {X : Addr → Prop} {h h' : Heap} (s : Stays h h') {p : PV} {v : Value} (r : Rep X h p v) : Rep X h' p v := r.mono fun b o e n _ => ⟨s b o e, n⟩
theorem RepL.stays {X : Addr → Prop} {h h' : Heap} (s : Stays h h') {p : List PV} {v : List Value} (r : RepL X h p v) : RepL X h' p v := r.mono fun b o e n _ => ⟨s b o e, n⟩
theorem Rep.weak {X Y : Addr → Prop} {h : Heap} (s : ∀ a, Y a → X a) {p : PV} {v : Value} (r : Rep X h p v) : Rep Y h p v := r.mono fun b o e n _ => ⟨e, fun y => n (s b y)⟩
theorem RepL.weak {X Y : Addr → Prop} {h : Heap} (s : ∀ a, Y a → X a) {p : List PV} {v : List Value} (r : RepL X h p v) : RepL Y h p v := r.mono fun b o e n _ => ⟨e, fun y => n (s b y)⟩

theorem RepL.length {X : Addr → Prop} {h : Heap} : ∀ {p : List PV} {v : List Value}, RepL X h p v → v.length = p.length
  | [], _, e => by rw [show _ = [] from e]; rfl
  | _ :: _, _, ⟨a, r, e1, _, e3⟩ => by rw [e1, List.length_cons, List.length_cons, RepL.length e3]
theorem RepL.nil {X : Addr → Prop} {h : Heap} : RepL X h [] [] := rfl
theorem RepL.cons {X : Addr → Prop} {h : Heap} {p : PV} {ps : List PV} {v : Value} {vs : List Value} (a : Rep X h p v) (b : RepL X h ps vs) : RepL X h (p :: ps) (v :: vs) := ⟨v, vs, rfl, a, b⟩
theorem RepL.append {X : Addr → Prop} {h : Heap} : ∀ {p q : List PV} {v u : List Value}, RepL X h p v → RepL X h q u → RepL X h (p ++ q) (v ++ u)
  | [], _, _, _, e, f => by rw [show _ = [] from e]; exact f
  | _ :: _, _, _, _, ⟨a, r, e1, e2, e3⟩, f => by rw [e1]; exact ⟨a, _, rfl, e2, RepL.append e3 f⟩
theorem RepL.get {X : Addr → Prop} {h : Heap} : ∀ {p : List PV} {v : List Value} {i : Nat} {x : PV}, RepL X h p v → p[i]? = some x → ∃ y, v[i]? = some y ∧ Rep X h x y
  | [], _, _, _, _, e => by simp at e
  | y :: ys, _, 0, x, ⟨a, r, e1, e2, e3⟩, e => by simp at e; subst e; exact ⟨a, by rw [e1]; rfl, e2⟩
  | y :: ys, _, i + 1, x, ⟨a, r, e1, e2, e3⟩, e => by
    simp at e
    obtain ⟨z, h1, h2⟩ := RepL.get e3 e
    exact ⟨z, by rw [e1]; simpa using h1, h2⟩
theorem RepL.get' {X : Addr → Prop} {h : Heap} : ∀ {p : List PV} {v : List Value} {i : Nat} {y : Value}, RepL X h p v → v[i]? = some y → ∃ x, p[i]? = some x ∧ Rep X h x y := by
  intro p v i y r e
  have hl := r.length
  have hi : i < v.length := by
    rcases Nat.lt_or_ge i v.length with q | q
    · exact q
    · rw [List.getElem?_eq_none q] at e; cases e
  have hp : p[i]? = some (p[i]'(by omega)) := by simp
  obtain ⟨z, h1, h2⟩ := r.get hp
  rw [h1] at e; cases e
  exact ⟨_, hp, h2⟩
/-- the hidden set consists of living objects -/
noncomputable def Live (X : Addr → Prop) (h : Heap) : Prop := ∀ a, X a → (h.get? a).isSome = true
theorem Live.stays {X : Addr → Prop} {h h' : Heap} (l : Live X h) (s : Stays h h') : Live X h' := fun a x => by
  have := l a x
  obtain ⟨o, e⟩ := Option.isSome_iff_exists.mp this
  rw [s a o e]; rfl
theorem Live.fresh {X : Addr → Prop} {h : Heap} (l : Live X h) {a : Addr} (e : h.get? a = none) : ¬ X a := fun x => by have := l a x; rw [e] at this; cases this

theorem size_none (h : Heap) : h.get? h.objs.size = none := by
  cases e : h.get? h.objs.size with
  | none => rfl
  | some o => exact absurd (Heap.lt_size e) (Nat.lt_irrefl _)

/-- what stands in a variable -/
noncomputable def VarAt (X : Addr → Prop) (h : Heap) (env : Env) (x : Str) (p : PV) : Prop :=
  (env.kindOf x = some .local ∧ ∃ m v, h.Ns env.locals m ∧ m x = some v ∧ Rep X h p v) ∨
  ((env.kindOf x = some .cell ∨ env.kindOf x = some .free) ∧ ∃ c v, env.cells.lookup x = some c ∧ h.IsCell c (some v) ∧ Rep X h p v)
theorem VarAt.stays {X : Addr → Prop} {h h' : Heap} {env : Env} {x : Str} {p : PV} (s : Stays h h') (a : VarAt X h env x p) : VarAt X h' env x p := by
  rcases a with ⟨k, m, v, n, e, r⟩ | ⟨k, c, v, e1, e2, r⟩
  · exact .inl ⟨k, m, v, n.keeps s, e, r.stays s⟩
  · exact .inr ⟨k, c, v, e1, e2.keeps s, r.stays s⟩

noncomputable def Sees (lay : List Str) (X : Addr → Prop) (h : Heap) (env : Env) (σ : St) : Prop :=
  ∀ (i : Nat) (x : Str) (p : PV), lay[i]? = some x → σ[i]? = some (Slot.fz p) → VarAt X h env x p
theorem Sees.stays {lay : List Str} {X : Addr → Prop} {h h' : Heap} {env : Env} {σ : St} (s : Stays h h') (a : Sees lay X h env σ) : Sees lay X h' env σ := fun i x p e1 e2 => (a i x p e1 e2).stays s

structure Lv (n : Nat) (A : Around) : Prop where
  hh : A.handled = none
  depth : A.depth + n < recursionLimit
  units : A.units + 8 * n + 40 < cLine

structure EnvOk (sc : Scope) (env : Env) : Prop where
  scope : env.scope = sc
  kind : env.scope.kind = .function
  globals : env.globals = mainGlobals
  builtins : env.builtins = builtinsNs

structure Ctx where
  prog : Program
  w : World
  p : Program
  loose : List Str
  mean : ExcName → Option Value
  mg : Str → Option Value
  mb : Str → Option Value

structure Ctx.Gl (C : Ctx) (h : Heap) : Prop where
  top : Top C.p C.loose C.mean C.mg C.mb h
  nb : NoneBooked h
theorem Ctx.Gl.stays {C : Ctx} {h h' : Heap} (g : C.Gl h) (s : Stays h h') : C.Gl h' := ⟨g.top.keeps s, let ⟨m, a, b⟩ := g.nb; ⟨m, a.keeps s, b⟩⟩
abbrev Ctx.M (C : Ctx) : Model := model C.prog C.w

noncomputable def Kp (s s' : Shared) : Prop := ∃ h' tk, s' = { s with heap := h', toks := tk } ∧ Stays s.heap h'
theorem Kp.refl' (s : Shared) : Kp s s := ⟨s.heap, s.toks, rfl, fun _ _ e => e⟩
theorem Kp.toks (s : Shared) (k : Nat) : Kp s { s with toks := k } := ⟨s.heap, k, rfl, fun _ _ e => e⟩
theorem Kp.of {s : Shared} {h' : Heap} (k : Nat) (x : Stays s.heap h') : Kp s { s with heap := h', toks := k } := ⟨h', k, rfl, x⟩
theorem Kp.of' {s : Shared} {h' : Heap} (x : Stays s.heap h') : Kp s { s with heap := h' } := ⟨h', s.toks, rfl, x⟩
theorem Kp.trans' {a b c : Shared} (x : Kp a b) (y : Kp b c) : Kp a c := by
  obtain ⟨h1, k1, rfl, e1⟩ := x
  obtain ⟨h2, k2, rfl, e2⟩ := y
  exact ⟨h2, k2, rfl, fun i o e => e2 i o (e1 i o e)⟩
theorem Kp.st {a b : Shared} (x : Kp a b) : Stays a.heap b.heap := by obtain ⟨h1, k1, rfl, e1⟩ := x; exact e1

structure Pre (C : Ctx) (lay : List Str) (X : Addr → Prop) (env : Env) (σ : St) (s : Shared) : Prop where
  gl : C.Gl s.heap
  live : Live X s.heap
  sees : Sees lay X s.heap env σ
  tok : 0 < s.toks
theorem Pre.kp {C : Ctx} {lay : List Str} {X : Addr → Prop} {env : Env} {σ : St} {s s' : Shared} (a : Pre C lay X env σ s) (k : Kp s s') (t : s.toks ≤ s'.toks) : Pre C lay X env σ s' :=
  ⟨a.gl.stays k.st, a.live.stays k.st, a.sees.stays k.st, Nat.lt_of_lt_of_le a.tok t⟩

abbrev NoE : Value → Shared → Prop := fun _ _ => False
/-- an expression and what it is worth -/
noncomputable def SE (C : Ctx) (sc : Scope) (lay : List Str) (n : Nat) (e : Expr) (d : St → Option PV) : Prop :=
  ∀ (A : Around) (env : Env) (X : Addr → Prop) (σ : St) (s : Shared) (r : PV), Lv n A → EnvOk sc env → Pre C lay X env σ s → d σ = some r →
    wpAny C.M A (eval e env) (fun v s' => Kp s s' ∧ Rep X s'.heap r v) NoE s

/-- a test -/
noncomputable def STst (C : Ctx) (sc : Scope) (lay : List Str) (n : Nat) (e : Expr) (d : St → Option Bool) : Prop :=
  ∀ (A : Around) (env : Env) (X : Addr → Prop) (σ : St) (s : Shared) (r : Bool), Lv n A → EnvOk sc env → Pre C lay X env σ s → d σ = some r →
    wpAny C.M A (isTrue e env (eval e env)) (fun v s' => Kp s s' ∧ v = r) NoE s

noncomputable def SEs (C : Ctx) (sc : Scope) (lay : List Str) (n : Nat) (es : List Expr) (d : St → Option (List PV)) : Prop :=
  ∀ (A : Around) (env : Env) (X : Addr → Prop) (σ : St) (s : Shared) (r : List PV) (pos : Pos), Lv n A → EnvOk sc env → Pre C lay X env σ s → d σ = some r →
    wpAny C.M A (spliced (backTo pos (starEach es env))) (fun vs s' => Kp s s' ∧ RepL X s'.heap r vs) NoE s

section
variable {C : Ctx} {sc : Scope} {lay : List Str} {n : Nat}

noncomputable def dVar (i : Nat) : St → Option PV := fun σ => match σ[i]? with | some (.fz v) => some v | _ => none

theorem se_name {x : Str} {pos : Pos} (i : Nat) (hi : lay[i]? = some x) (hd : (x == ("__debug__" : Str)) = false) (hc : (x == ("__classdict__" : Str)) = false) : SE C sc lay n (.Name x pos) (dVar i) := by
  intro A env X σ s r hA hE hP hd'
  unfold dVar at hd'
  split at hd'
  · rename_i v hv
    cases hd'
    refine wpAny_Name ?_ hd
    rcases hP.sees i x _ hi hv with ⟨k, m, v, hn, e, rp⟩ | ⟨k, c, v, e1, e2, rp⟩
    · exact wpAny_loadName_local hE.kind k hn e ⟨Kp.refl' s, rp⟩
    · rcases k with k | k
      · exact wpAny_loadName_cell hE.kind k e1 e2 ⟨Kp.refl' s, rp⟩
      · exact wpAny_loadName_free hE.kind k e1 e2 ⟨Kp.refl' s, rp⟩ hc
  · cases hd'

/-- chaining -/
theorem SE.then {e : Expr} {d : St → Option PV} (h : SE C sc lay n e d) {A : Around} {env : Env} {X : Addr → Prop} {σ : St} {s : Shared} {r : PV} (hA : Lv n A) (hE : EnvOk sc env) (hP : Pre C lay X env σ s) (hd : d σ = some r)
    {Q : Value → Shared → Prop} (hQ : ∀ v s', Kp s s' → Rep X s'.heap r v → Pre C lay X env σ s' → Q v s') : wpAny C.M A (eval e env) Q NoE s :=
  wpAny_mono (wpAny_toks (h A env X σ s r hA hE hP hd)) (fun v s' x => hQ v s' x.2.1 x.2.2 (hP.kp x.2.1 x.1)) fun _ _ x => x.2
theorem SEs.then {e : List Expr} {d : St → Option (List PV)} (h : SEs C sc lay n e d) {A : Around} {env : Env} {X : Addr → Prop} {σ : St} {s : Shared} {r : List PV} {pos : Pos} (hA : Lv n A) (hE : EnvOk sc env) (hP : Pre C lay X env σ s) (hd : d σ = some r)
    {Q : List Value → Shared → Prop} (hQ : ∀ v s', Kp s s' → RepL X s'.heap r v → Pre C lay X env σ s' → Q v s') : wpAny C.M A (spliced (backTo pos (starEach e env))) Q NoE s :=
  wpAny_mono (wpAny_toks (h A env X σ s r pos hA hE hP hd)) (fun v s' x => hQ v s' x.2.1 x.2.2 (hP.kp x.2.1 x.1)) fun _ _ x => x.2
theorem STst.then {e : Expr} {d : St → Option Bool} (h : STst C sc lay n e d) {A : Around} {env : Env} {X : Addr → Prop} {σ : St} {s : Shared} {r : Bool} (hA : Lv n A) (hE : EnvOk sc env) (hP : Pre C lay X env σ s) (hd : d σ = some r)
    {Q : Bool → Shared → Prop} (hQ : ∀ s', Kp s s' → Pre C lay X env σ s' → Q r s') : wpAny C.M A (isTrue e env (eval e env)) Q NoE s :=
  wpAny_mono (wpAny_toks (h A env X σ s r hA hE hP hd)) (fun v s' x => x.2.2 ▸ hQ s' x.2.1 (hP.kp x.2.1 x.1)) fun _ _ x => x.2

theorem bind_some {α β : Type} {x : Option α} {f : α → Option β} {r : β} (h : x.bind f = some r) : ∃ a, x = some a ∧ f a = some r := Option.bind_eq_some_iff.mp h

theorem se_int {i : Int} {k : Nat} {pos : Pos} : SE C sc lay n (.Constant (.int i) k pos) (fun _ => some (.int i)) := by
  intro A env X σ s r hA hE hP hd; cases hd
  exact wpAny_Constant_int ⟨Kp.toks .., _, rfl⟩
theorem se_float {x : UInt64} {k : Nat} {pos : Pos} : SE C sc lay n (.Constant (.float x) k pos) (fun _ => some (.float x)) := by
  intro A env X σ s r hA hE hP hd; cases hd
  exact AutoFloatOps.wpAny_Constant_float ⟨Kp.toks .., _, rfl, Nat.ne_of_gt hP.tok⟩
theorem se_bool {b : Bool} {k : Nat} {pos : Pos} : SE C sc lay n (.Constant (.bool b) k pos) (fun _ => some (.bool b)) := by
  intro A env X σ s r hA hE hP hd; cases hd
  exact wpAny_Constant_bool ⟨Kp.refl' s, rfl⟩

theorem ses_nil : SEs C sc lay n [] (fun _ => some []) := by
  intro A env X σ s r pos hA hE hP hd; cases hd
  exact wpAny_items_nil ⟨Kp.refl' s, rfl⟩
noncomputable def notStar : Expr → Bool | .Starred .. => false | _ => true
theorem starEach_cons {e : Expr} {rest : List Expr} {env : Env} (h : notStar e = true) : starEach (e :: rest) env = (false, eval e env) :: starEach rest env := by
  cases e <;> first | rfl | cases h
theorem ses_cons {e : Expr} {es : List Expr} {d : St → Option PV} {ds : St → Option (List PV)} (h1 : SE C sc lay n e d) (h2 : SEs C sc lay n es ds) (hs : notStar e = true) :
    SEs C sc lay n (e :: es) (fun σ => (d σ).bind fun a => (ds σ).bind fun b => some (a :: b)) := by
  intro A env X σ s r pos hA hE hP hd
  obtain ⟨a, e1, hd⟩ := bind_some hd
  obtain ⟨b, e2, hd⟩ := bind_some hd
  cases hd
  refine wpAny_items_cons (h1.then hA hE hP e1 fun v s1 k1 r1 p1 => h2.then hA hE p1 e2 fun vs s2 k2 r2 p2 => ?_) (starEach_cons hs)
  exact ⟨k1.trans' k2, .cons (r1.stays k2.st) r2⟩

theorem stays_push (h : Heap) (o : Obj) : Stays h (h.push o) := fun _ _ e => Heap.get?_push_of_some _ e
noncomputable def dSeq (f : List PV → PV) (ds : St → Option (List PV)) : St → Option PV := fun σ => (ds σ).bind fun xs => if xs.length ≤ 16777216 then some (f xs) else none
theorem se_tuple {es : List Expr} {k : Nat} {pos : Pos} {ds : St → Option (List PV)} (h : SEs C sc lay n es ds) : SE C sc lay n (.Tuple es k pos) (dSeq .tuple ds) := by
  intro A env X σ s r hA hE hP hd
  obtain ⟨xs, e1, hd⟩ := bind_some hd
  split at hd
  · rename_i hl; cases hd
    refine wpAny_Tuple (h.then hA hE hP e1 fun vs s1 k1 r1 p1 => ⟨by rw [sizeLine_eq, r1.length]; exact hl, ?_⟩)
    have st := stays_push s1.heap { cls := .type "tuple", data := .seq vs.toArray }
    exact ⟨k1.trans' (Kp.of' st), _, vs, rfl, p1.live.fresh (size_none _), ⟨_, Heap.get?_push_size _ rfl, rfl, 0, rfl⟩, r1.stays st⟩
  · cases hd
theorem se_list {es : List Expr} {pos : Pos} {ds : St → Option (List PV)} (h : SEs C sc lay n es ds) : SE C sc lay n (.List es pos) (dSeq .list ds) := by
  intro A env X σ s r hA hE hP hd
  obtain ⟨xs, e1, hd⟩ := bind_some hd
  split at hd
  · rename_i hl; cases hd
    refine wpAny_List (h.then hA hE hP e1 fun vs s1 k1 r1 p1 => ⟨by rw [sizeLine_eq, r1.length]; exact hl, ?_⟩)
    have st := stays_push s1.heap { cls := .type "list", data := .seq vs.toArray }
    exact ⟨k1.trans' (Kp.of' st), _, vs, rfl, p1.live.fresh (size_none _), ⟨_, Heap.get?_push_size _ rfl, rfl, 0, rfl⟩, r1.stays st⟩
  · cases hd
end
end Mine

end
section
open PySem PySem.W PyProof.Rows
set_option linter.unusedVariables false
namespace Mine

abbrev big64 : Nat := 18446744073709551616

noncomputable def fracBits (a b : Int) : UInt64 := Float64.ofFrac (decide (a < 0) != decide (b < 0)) a.natAbs b.natAbs

noncomputable def pvAdd : PV → PV → Option PV
  | .int a, .int b => some (.int (a + b))
  | .float a, .float b => some (.float (Float64.add a b))
  | .bytes a, .bytes b => if a.length + b.length ≤ 16777216 then some (.bytes (a ++ b)) else none
  | .list a, .list b => if a.length + b.length ≤ 16777216 then some (.list (a ++ b)) else none
  | _, _ => none
noncomputable def pvSub : PV → PV → Option PV
  | .int a, .int b => some (.int (a - b))
  | .float a, .float b => some (.float (Float64.sub a b))
  | .float a, .int n => if n.natAbs < big64 then some (.float (Float64.sub a (Float64.ofInt n))) else none
  | _, _ => none
noncomputable def pvMul : PV → PV → Option PV
  | .int a, .int b => if a.natAbs < big64 ∨ b.natAbs < big64 then some (.int (a * b)) else none
  | .float a, .float b => some (.float (Float64.mul a b))
  | .int n, .float a => if n.natAbs < big64 then some (.float (Float64.mul (Float64.ofInt n) a)) else none
  | _, _ => none
noncomputable def pvDiv : PV → PV → Option PV
  | .int a, .int b => if b ≠ 0 ∧ Float64.isInf (fracBits a b) = false then some (.float (fracBits a b)) else none
  | .float a, .float b => if Float64.isZero b = false then some (.float (Float64.div a b)) else none
  | _, _ => none
noncomputable def pvFloorDiv : PV → PV → Option PV
  | .int a, .int b => if b ≠ 0 ∧ b.natAbs < 1073741824 then some (.int (a.fdiv b)) else none
  | _, _ => none
noncomputable def pvMod : PV → PV → Option PV
  | .int a, .int b => if b ≠ 0 then some (.int (a.fmod b)) else none
  | .float a, .float b => if Float64.isZero b = false then some (.float (Float64.divmod a b).2) else none
  | _, _ => none
noncomputable def pvPow : PV → PV → Option PV
  | .int a, .int b => if 0 ≤ b ∧ b < 64 ∧ a.natAbs < big64 then some (.int (a ^ b.toNat)) else none
  | _, _ => none
noncomputable def pvBin (op : Operator) (a b : PV) : Option PV := match op with
  | .Add => pvAdd a b
  | .Sub => pvSub a b
  | .Mult => pvMul a b
  | .Div => pvDiv a b
  | .FloorDiv => pvFloorDiv a b
  | .Mod => pvMod a b
  | .Pow => pvPow a b
  | _ => none

theorem intBits_le {a : Int} (h : a.natAbs < big64) : Builtin.Int.intBits a ≤ 64 := by
  unfold Builtin.Int.intBits
  split
  · exact Nat.zero_le _
  · rename_i h0
    have h0' : a.natAbs ≠ 0 := by simpa using h0
    have := (Nat.log2_lt h0' (k := 64)).mpr h
    omega

section
variable {C : Ctx} {sc : Scope} {lay : List Str} {n : Nat} {A : Around} {X : Addr → Prop} {s : Shared}
abbrev Gives (C : Ctx) (A : Around) (X : Addr → Prop) (s : Shared) (t : Sem Value) (r : PV) : Prop := wpAny C.M A t (fun v s' => Kp s s' ∧ Rep X s'.heap r v) NoE s

theorem bin_ok (hA : Lv n A) (gl : C.Gl s.heap) (lv : Live X s.heap) (tk : 0 < s.toks) {op : Operator} {a b r : PV} {va vb : Value} (ha : Rep X s.heap a va) (hb : Rep X s.heap b vb) (h : pvBin op a b = some r) : Gives C A X s (binaryOp op va vb) r := by
  have nz : s.toks ≠ 0 := Nat.ne_of_gt tk
  have big : big64 < 2 ^ 1023 := by decide +kernel
  unfold pvBin at h
  cases op <;> dsimp only at h <;> try cases h
  · -- Add
    unfold pvAdd at h; split at h
    · cases h; (first | obtain ⟨t, rfl⟩ := ha | obtain ⟨t, rfl, _⟩ := ha); (first | obtain ⟨u, rfl⟩ := hb | obtain ⟨u, rfl, _⟩ := hb)
      exact add_int ⟨Kp.toks .., _, rfl⟩
    · cases h; (first | obtain ⟨t, rfl⟩ := ha | obtain ⟨t, rfl, _⟩ := ha); (first | obtain ⟨u, rfl⟩ := hb | obtain ⟨u, rfl, _⟩ := hb)
      exact add_float ⟨Kp.toks .., _, rfl, nz⟩
    · split at h
      · rename_i hl; cases h; (first | obtain ⟨t, rfl⟩ := ha | obtain ⟨t, rfl, _⟩ := ha); (first | obtain ⟨u, rfl⟩ := hb | obtain ⟨u, rfl, _⟩ := hb)
        exact KBy.add_bytes (by simpa using hl) fun t' k => ⟨Kp.toks .., t', by simp⟩
      · cases h
    · split at h
      · rename_i hl; cases h
        obtain ⟨l, vs, rfl, nx, hl1, rl⟩ := ha; obtain ⟨l2, ws, rfl, nx2, hl2, rl2⟩ := hb
        obtain ⟨⟨cls, dd, data, sl⟩, ho, hc, n1, hd⟩ := id hl1
        obtain ⟨⟨cls2, dd2, data2, sl2⟩, ho2, hc2, n2, hd2⟩ := id hl2
        simp only at hc hd hc2 hd2
        subst hc hd hc2 hd2
        have e : vs.toArray ++ ws.toArray = (vs ++ ws).toArray := by simp
        refine concat_meets ⟨_, ho, rfl⟩ ⟨_, ho2, rfl⟩ noFill_list_add seq_list_add PySem.F.slot_list_add PySem.F.entry_list_add (PySem.F.args_list_add_2 _ _) (list_addW l l2 vs.toArray ws.toArray n1 n2 dd dd2 sl sl2 (by rw [sizeLine_eq]; simpa [rl.length, rl2.length] using hl)) ⟨ho, ho2, ?_⟩
        rw [e]
        have st := stays_push s.heap { cls := .type "list", data := .seq (vs ++ ws).toArray }
        exact ⟨Kp.of' st, _, vs ++ ws, rfl, lv.fresh (size_none _), ⟨_, Heap.get?_push_size _ rfl, rfl, 0, rfl⟩, (rl.append rl2).stays st⟩
      · cases h
    · cases h
  · -- Sub
    unfold pvSub at h; split at h
    · cases h; (first | obtain ⟨t, rfl⟩ := ha | obtain ⟨t, rfl, _⟩ := ha); (first | obtain ⟨u, rfl⟩ := hb | obtain ⟨u, rfl, _⟩ := hb)
      exact PyProof.Rows.sub_int ⟨Kp.toks .., _, rfl⟩
    · cases h; (first | obtain ⟨t, rfl⟩ := ha | obtain ⟨t, rfl, _⟩ := ha); (first | obtain ⟨u, rfl⟩ := hb | obtain ⟨u, rfl, _⟩ := hb)
      exact sub_float ⟨Kp.toks .., _, rfl, nz⟩
    · split at h
      · rename_i hl; cases h; (first | obtain ⟨t, rfl⟩ := ha | obtain ⟨t, rfl, _⟩ := ha); (first | obtain ⟨u, rfl⟩ := hb | obtain ⟨u, rfl, _⟩ := hb)
        exact sub_fi_fits (Nat.lt_trans hl big) ⟨Kp.toks .., _, rfl, nz⟩
      · cases h
    · cases h
  · -- Mult
    unfold pvMul at h; split at h
    · split at h
      · rename_i hl; cases h; (first | obtain ⟨t, rfl⟩ := ha | obtain ⟨t, rfl, _⟩ := ha); (first | obtain ⟨u, rfl⟩ := hb | obtain ⟨u, rfl, _⟩ := hb)
        exact PyProof.Rows.mul_int ⟨Kp.toks .., _, rfl⟩ (hl.elim (fun x => .of_left (intBits_le x)) fun x => .of_right (intBits_le x))
      · cases h
    · cases h; (first | obtain ⟨t, rfl⟩ := ha | obtain ⟨t, rfl, _⟩ := ha); (first | obtain ⟨u, rfl⟩ := hb | obtain ⟨u, rfl, _⟩ := hb)
      exact mul_float ⟨Kp.toks .., _, rfl, nz⟩
    · split at h
      · rename_i hl; cases h; (first | obtain ⟨t, rfl⟩ := ha | obtain ⟨t, rfl, _⟩ := ha); (first | obtain ⟨u, rfl⟩ := hb | obtain ⟨u, rfl, _⟩ := hb)
        exact mul_if_fits (Nat.lt_trans hl big) ⟨Kp.toks .., _, rfl, nz⟩
      · cases h
    · cases h
  · -- Div
    unfold pvDiv at h; split at h
    · split at h
      · rename_i hl; cases h; (first | obtain ⟨t, rfl⟩ := ha | obtain ⟨t, rfl, _⟩ := ha); (first | obtain ⟨u, rfl⟩ := hb | obtain ⟨u, rfl, _⟩ := hb)
        refine AutoIntOpsIf.truediv ?_
        rw [if_neg (by simpa using hl.1), if_neg (by have := hl.2; unfold fracBits at this; rw [this]; exact Bool.false_ne_true)]
        exact ⟨Kp.toks .., _, rfl, nz⟩
      · cases h
    · split at h
      · rename_i hl; cases h; (first | obtain ⟨t, rfl⟩ := ha | obtain ⟨t, rfl, _⟩ := ha); (first | obtain ⟨u, rfl⟩ := hb | obtain ⟨u, rfl, _⟩ := hb)
        exact AutoFloatOps.truediv_1 (by rw [hl]; exact Bool.false_ne_true) ⟨Kp.toks .., _, rfl, nz⟩
      · cases h
    · cases h
  · -- Mod
    unfold pvMod at h; split at h
    · split at h
      · rename_i hl; cases h; (first | obtain ⟨t, rfl⟩ := ha | obtain ⟨t, rfl, _⟩ := ha); (first | obtain ⟨u, rfl⟩ := hb | obtain ⟨u, rfl, _⟩ := hb)
        exact PyProof.Rows.mod_int hl ⟨Kp.toks .., _, rfl⟩
      · cases h
    · split at h
      · rename_i hl; cases h; (first | obtain ⟨t, rfl⟩ := ha | obtain ⟨t, rfl, _⟩ := ha); (first | obtain ⟨u, rfl⟩ := hb | obtain ⟨u, rfl, _⟩ := hb)
        exact AutoFloatOps.mod_1 (by rw [hl]; exact Bool.false_ne_true) ⟨Kp.toks .., _, rfl, nz⟩
      · cases h
    · cases h
  · -- Pow
    unfold pvPow at h; split at h
    · split at h
      · rename_i hl; cases h; (first | obtain ⟨t, rfl⟩ := ha | obtain ⟨t, rfl, _⟩ := ha); (first | obtain ⟨u, rfl⟩ := hb | obtain ⟨u, rfl, _⟩ := hb)
        refine pow_int hl.1 ?_ ⟨Kp.toks .., _, rfl⟩
        have h1 := intBits_le hl.2.2
        have h2 := hl.2.1
        have h3 := hl.1
        have : ((Builtin.Int.intBits _ : Nat) : Int) * _ ≤ 64 * 64 := Int.mul_le_mul (by exact_mod_cast h1) (by omega) h3 (by decide)
        exact Int.le_trans this (by decide)
      · cases h
    · cases h
  · -- FloorDiv
    unfold pvFloorDiv at h; split at h
    · split at h
      · rename_i hl; cases h; (first | obtain ⟨t, rfl⟩ := ha | obtain ⟨t, rfl, _⟩ := ha); (first | obtain ⟨u, rfl⟩ := hb | obtain ⟨u, rfl, _⟩ := hb)
        exact PyProof.Rows.floordiv_int hl.1 ⟨Kp.toks .., _, rfl⟩ (.inl (PyProof.noPylong_small hl.2))
      · cases h
    · cases h
end
end Mine

end
section
open PySem PySem.W PyProof.Rows
set_option linter.unusedVariables false
namespace Mine

noncomputable def pvEqL (f : PV → PV → Option Bool) : List PV → List PV → Option Bool
  | [], [] => some true
  | x :: xs, y :: ys => (f x y).bind fun a => (pvEqL f xs ys).bind fun b => some (a && b)
  | _, _ => some false
noncomputable def pvEq : Nat → PV → PV → Option Bool
  | _, .int a, .int b => some (a == b)
  | _, .float a, .float b => if a = b ∧ Float64.isNaN a = false then some true else none
  | _, .bytes a, .bytes b => some (a == b)
  | n + 1, .list xs, .list ys => pvEqL (pvEq n) xs ys
  | n + 1, .tuple xs, .tuple ys => pvEqL (pvEq n) xs ys
  | _, _, _ => none

theorem isList_inj {h : Heap} {a : Addr} {xs ys : Array Value} (x : h.IsList a xs) (y : h.IsList a ys) : xs = ys := by
  obtain ⟨o, h1, _, n, h3⟩ := x; obtain ⟨o', h1', _, n', h3'⟩ := y
  rw [h1] at h1'; cases h1'; rw [h3] at h3'; cases h3'; rfl
theorem isTup_inj {h : Heap} {a : Addr} {xs ys : Array Value} (x : IsTup h a xs) (y : IsTup h a ys) : xs = ys := by
  obtain ⟨o, h1, _, n, h3⟩ := x; obtain ⟨o', h1', _, n', h3'⟩ := y
  rw [h1] at h1'; cases h1'; rw [h3] at h3'; cases h3'; rfl
noncomputable def kindName : PV → String
  | .list _ => "list"
  | .tuple _ => "tuple"
  | .range .. => "range"
  | .barr _ => "bytearray"
  | _ => ""
theorem Rep.cls {X : Addr → Prop} {h : Heap} {p : PV} {a : Addr} (r : Rep X h p (.ref a)) : kindName p ≠ "" ∧ ∃ o, h.get? a = some o ∧ o.cls = .type (kindName p) := by
  cases p with
  | list xs => obtain ⟨l, vs, e, _, ⟨o, h1, h2, _⟩, _⟩ := r; cases e; exact ⟨by simp [kindName], o, h1, h2⟩
  | tuple xs => obtain ⟨l, vs, e, _, ⟨o, h1, h2, _⟩, _⟩ := r; cases e; exact ⟨by simp [kindName], o, h1, h2⟩
  | range x y z => obtain ⟨l, t, u, z, e, _, h1⟩ := r; cases e; exact ⟨by simp [kindName], _, h1, rfl⟩
  | barr b => obtain ⟨l, e, _, h1⟩ := r; cases e; exact ⟨by simp [kindName], _, h1, rfl⟩
  | none => cases r
  | bool b => cases r
  | int i => obtain ⟨t, e⟩ := r; cases e
  | float i => obtain ⟨t, e, _⟩ := r; cases e
  | bytes i => obtain ⟨t, e⟩ := r; cases e
theorem Rep.kind_eq {X : Addr → Prop} {h : Heap} {p q : PV} {a : Addr} (r : Rep X h p (.ref a)) (r' : Rep X h q (.ref a)) : kindName p = kindName q := by
  obtain ⟨_, o, h1, h2⟩ := r.cls
  obtain ⟨_, o', h1', h2'⟩ := r'.cls
  rw [h1] at h1'; cases h1'; rw [h2] at h2'; injection h2'
mutual
theorem Rep.inj {X : Addr → Prop} {h : Heap} : ∀ {p q : PV} {v : Value}, Rep X h p v → Rep X h q v → p = q
  | .none, q, _, a, b => by cases q <;> simp_all [Rep]
  | .bool _, q, _, a, b => by cases q <;> simp_all [Rep]
  | .int _, q, _, a, b => by obtain ⟨t, rfl⟩ := a; cases q <;> simp_all [Rep]
  | .float _, q, _, a, b => by
    obtain ⟨t, rfl, _⟩ := a
    cases q <;> simp_all [Rep]
    obtain ⟨_, ⟨e, _⟩, _⟩ := b; exact e
  | .bytes _, q, _, a, b => by
    obtain ⟨t, rfl⟩ := a
    cases q <;> simp_all [Rep]
  | .list xs, q, v, a, b => by
    obtain ⟨l, vs, e1, e2, e3, e4⟩ := id a
    subst e1
    have k := Rep.kind_eq a b
    cases q with
    | list ys =>
      obtain ⟨l', ws, e1', _, e3', e4'⟩ := b
      cases e1'
      have := congrArg Array.toList (isList_inj e3 e3')
      simp at this; subst this
      rw [RepL.inj e4 e4']
    | _ => simp [kindName] at k
  | .tuple xs, q, v, a, b => by
    obtain ⟨l, vs, e1, e2, e3, e4⟩ := id a
    subst e1
    have k := Rep.kind_eq a b
    cases q with
    | tuple ys =>
      obtain ⟨l', ws, e1', _, e3', e4'⟩ := b
      cases e1'
      have := congrArg Array.toList (isTup_inj e3 e3')
      simp at this; subst this
      rw [RepL.inj e4 e4']
    | _ => simp [kindName] at k
  | .range x y z, q, v, a, b => by
    obtain ⟨l, t, u, z, e1, e2, f1⟩ := id a
    subst e1
    have k := Rep.kind_eq a b
    cases q with
    | range x y z =>
      obtain ⟨l', t', u', z', e1', _, f1'⟩ := b
      cases e1'; have q := (show some _ = some _ from f1.symm.trans f1'); cases q; rfl
    | _ => simp [kindName] at k
  | .barr c, q, v, a, b => by
    obtain ⟨l, e1, e2, f1⟩ := id a
    subst e1
    have k := Rep.kind_eq a b
    cases q with
    | barr d =>
      obtain ⟨l', e1', _, f1'⟩ := b
      cases e1'; rw [f1] at f1'
      simp at f1'; rw [f1']
    | _ => simp [kindName] at k
theorem RepL.inj {X : Addr → Prop} {h : Heap} : ∀ {p q : List PV} {v : List Value}, RepL X h p v → RepL X h q v → p = q
  | [], [], _, _, _ => rfl
  | [], _ :: _, _, a, ⟨_, _, b, _⟩ => by rw [show _ = [] from a] at b; cases b
  | _ :: _, [], _, ⟨_, _, b, _⟩, a => by rw [show _ = [] from a] at b; cases b
  | _ :: _, _ :: _, _, ⟨x, r, e, a1, a2⟩, ⟨y, q, f, b1, b2⟩ => by
    rw [e] at f; cases f
    rw [Rep.inj a1 b1, RepL.inj a2 b2]
end

theorem pvEqL_refl {f : PV → PV → Option Bool} (hf : ∀ p b, f p p = some b → b = true) : ∀ (xs : List PV) (b : Bool), pvEqL f xs xs = some b → b = true
  | [], _, h => by cases h; rfl
  | x :: xs, b, h => by
    obtain ⟨a, h1, h⟩ := bind_some h
    obtain ⟨c, h2, h⟩ := bind_some h
    cases h
    rw [hf x a h1, pvEqL_refl hf xs c h2]; rfl
theorem pvEq_refl : ∀ (n : Nat) (p : PV) (b : Bool), pvEq n p p = some b → b = true
  | n, p, b, h => by
    cases p with
    | int i => simp [pvEq] at h; exact h
    | float x => simp [pvEq] at h; exact h.2
    | bytes x => simp [pvEq] at h; exact h
    | list xs =>
      cases n with
      | zero => simp [pvEq] at h
      | succ n => exact pvEqL_refl (pvEq_refl n) xs b h
    | tuple xs =>
      cases n with
      | zero => simp [pvEq] at h
      | succ n => exact pvEqL_refl (pvEq_refl n) xs b h
    | _ => simp [pvEq] at h

/-- the pairwise answers -/
noncomputable def eqAtIdx (f : PV → PV → Option Bool) (xs ys : List PV) (j : Nat) : Bool := match xs[j]?, ys[j]? with
  | some x, some y => (f x y).getD false
  | _, _ => false
theorem pvEqL_idx {f : PV → PV → Option Bool} : ∀ {xs ys : List PV} {b : Bool}, pvEqL f xs ys = some b →
    (∀ j x y, xs[j]? = some x → ys[j]? = some y → f x y = some (eqAtIdx f xs ys j)) ∧ b = ((List.range (min xs.length ys.length)).all (eqAtIdx f xs ys) && xs.length == ys.length)
  | [], [], b, h => by cases h; exact ⟨fun j x y e => by simp at e, by simp⟩
  | [], y :: ys, b, h => by cases h; exact ⟨fun j x y e => by simp at e, by simp⟩
  | x :: xs, [], b, h => by cases h; exact ⟨fun j x y e e' => by simp at e', by simp⟩
  | x :: xs, y :: ys, b, h => by
    obtain ⟨a, h1, h⟩ := bind_some h
    obtain ⟨c, h2, h⟩ := bind_some h
    cases h
    obtain ⟨i1, i2⟩ := pvEqL_idx h2
    refine ⟨fun j u v e e' => ?_, ?_⟩
    · cases j with
      | zero => simp at e e'; subst e e'; simp [eqAtIdx, h1]
      | succ j =>
        simp at e e'
        have := i1 j u v e e'
        simpa [eqAtIdx, e, e'] using this
    · rw [i2]
      simp only [List.length_cons, Nat.succ_min_succ, List.range_succ_eq_map, List.all_cons, List.all_map]
      have e0 : eqAtIdx f (x :: xs) (y :: ys) 0 = a := by simp [eqAtIdx, h1]
      have e1 : (eqAtIdx f (x :: xs) (y :: ys)) ∘ Nat.succ = eqAtIdx f xs ys := by funext j; simp [eqAtIdx]
      rw [e0, e1, Bool.and_assoc]
      simp

theorem cmp_self {x : UInt64} (h : Float64.isNaN x = false) : Float64.cmp x x = some .eq := by
  unfold Float64.isNaN at h
  unfold Float64.cmp
  cases e : Float64.decode x with
  | nan => rw [e] at h; cases h
  | inf a => simp
  | fin a m k => simp [Float64.align]

section
variable {A : Around} {s : Shared} {X : Addr → Prop}
open PySem.SeqAt
theorem eqAt_float {x : UInt64} {t u : Tok} (hn : Float64.isNaN x = false) (ht : t ≠ 0) (hu : u ≠ 0) (nb : NoneBooked s.heap) : EqAt A s (.float x t) (.float x u) true := fun prog w E Q hq => by
  unfold eqBool
  refine wpAny_holding ?_
  refine wpAny_ite ?_
  split
  · exact wpAny_bind (wpAny_rule (wpAny_pure hq))
  have fin : wpAny (model prog w) A (richCompare .Eq (.float x t) (.float x u) >>= fun r => truthOfDropped r) Q E s := by
    have : wpAny (model prog w) A (compareOp .Eq (.float x t) (.float x u)) (fun r s' => r = .bool true ∧ s' = s) E s := AutoFloatOps.eq_0 (by rw [cmp_self hn]; exact ⟨rfl, rfl⟩)
    refine wpAny_bind (wpAny_mono this (fun r s' h => ?_) fun _ _ e => e)
    obtain ⟨rfl, rfl⟩ := h
    exact wpAny_truthy_bool hq
  have sm : wpAny (model prog w) A (isSame (.float x t) (.float x u)) (fun _ s' => s' = s) E s := by
    show wpAny _ A (isSame.created (x == x && !Float64.isNaN x) t u) _ E s
    unfold isSame.created
    refine wpAny_ite ?_
    split
    · rename_i h; simp [ht, hu] at h
    refine wpAny_ite ?_
    split
    · exact wpAny_pure rfl
    refine wpAny_ite ?_
    split
    · exact wpAny_pure rfl
    refine wpAny_bind (wpAny_sharingNotTold_none nb ?_)
    simp only [Bool.false_eq_true, if_false]
    refine wpAny_bind (wpAny_sharingNotTold_none nb ?_)
    simp only [Bool.false_eq_true, if_false]
    exact wpAny_bind (wpAny_rule (wpAny_bind (wpAny_askSetting (wpAny_pure rfl))))
  refine wpAny_bind (wpAny_mono sm (fun b s' h => ?_) fun _ _ e => e)
  subst h
  cases b
  · exact fin
  · exact wpAny_pure hq
end
section
variable {A : Around} {s : Shared} {X : Addr → Prop}
open PySem.SeqAt
theorem eqAt_bytes {b c : Array UInt8} {t u : Tok} : EqAt A s (.bytes b t) (.bytes c u) (b.toList == c.toList) := fun prog w E Q hq => by
  unfold eqBool
  refine wpAny_holding ?_
  refine wpAny_ite ?_
  split
  · rename_i h
    have := eq_of_beq h
    injection this with e _
    subst e
    exact wpAny_bind (wpAny_rule (wpAny_pure (by simpa using hq)))
  have : wpAny (model prog w) A (compareOp .Eq (.bytes b t) (.bytes c u)) (fun r s' => r = .bool (b.toList == c.toList) ∧ s' = s) E s := eq_bytes ⟨rfl, rfl⟩
  refine wpAny_bind (wpAny_mono this (fun r s' h => ?_) fun _ _ e => e)
  obtain ⟨rfl, rfl⟩ := h
  exact wpAny_truthy_bool hq

theorem repL_getE {h : Heap} {xs : List PV} {vs : List Value} (r : RepL X h xs vs) (j : Nat) (hj : j < vs.toArray.size) : ∃ x, xs[j]? = some x ∧ Rep X h x (vs.toArray[j]) := by
  have : vs[j]? = some (vs.toArray[j]) := by simp at hj; simp [hj]
  exact r.get' this

theorem eqAt_of : ∀ (n : Nat) (A : Around) {p q : PV} {v u : Value} {b : Bool}, A.units + n < cLine → NoneBooked s.heap → Rep X s.heap p v → Rep X s.heap q u → pvEq n p q = some b → EqAt A s v u b := by
  intro n
  induction n with
  | zero =>
    intro A p q v u b hu nb hp hq h
    cases p <;> cases q <;> simp only [pvEq] at h <;> try cases h
    · obtain ⟨t, rfl⟩ := hp; obtain ⟨t', rfl⟩ := hq
      exact (MeetsSeq.EqGives.int _ _ _ _).at _ _
    · split at h
      · rename_i e; cases h; obtain ⟨t, rfl, ht⟩ := hp; obtain ⟨t', rfl, ht'⟩ := hq
        obtain ⟨e, nn⟩ := e; subst e
        exact eqAt_float nn ht ht' nb
      · cases h
    · obtain ⟨t, rfl⟩ := hp; obtain ⟨t', rfl⟩ := hq
      exact eqAt_bytes
  | succ n ih =>
    intro A p q v u b hu nb hp hq h
    have hu' : A.in1.units + n < cLine := by simp; omega
    have hu0 : A.units < cLine := by omega
    cases p <;> cases q <;> simp only [pvEq] at h <;> try cases h
    · obtain ⟨t, rfl⟩ := hp; obtain ⟨t', rfl⟩ := hq
      exact (MeetsSeq.EqGives.int _ _ _ _).at _ _
    · split at h
      · rename_i e; cases h; obtain ⟨t, rfl, ht⟩ := hp; obtain ⟨t', rfl, ht'⟩ := hq
        obtain ⟨e, nn⟩ := e; subst e
        exact eqAt_float nn ht ht' nb
      · cases h
    · obtain ⟨t, rfl⟩ := hp; obtain ⟨t', rfl⟩ := hq
      exact eqAt_bytes
    · rename_i xs ys
      have hp0 := hp; have hq0 := hq
      obtain ⟨l, vs, rfl, _, hl, rl⟩ := hp; obtain ⟨l', ws, rfl, _, hl', rl'⟩ := hq
      by_cases hll : l = l'
      · subst hll
        have := Rep.inj hp0 hq0
        cases this
        rw [pvEqL_refl (pvEq_refl n) _ _ h]
        exact EqAt.same _
      · refine EqAt.of_refs hll ?_
        obtain ⟨i1, i2⟩ := pvEqL_idx h
        by_cases hz : xs.length = ys.length
        · have hsz : vs.toArray.size = ws.toArray.size := by simp [rl.length, rl'.length, hz]
          have e : b = (List.range vs.toArray.size).all (eqAtIdx (pvEq n) xs ys) := by rw [i2]; simp [rl.length, hz]
          rw [e]
          refine RcAt.lists hl hl' hsz hu0 fun j h1 h2 => ?_
          obtain ⟨x, ex, rx⟩ := repL_getE rl j h1
          obtain ⟨y, ey, ry⟩ := repL_getE rl' j h2
          exact ih A.in1 hu' nb rx ry (i1 j x y ex ey)
        · have e : b = false := by rw [i2]; simp [hz]
          rw [e]
          exact RcAt.lists_lengths hl hl' (by simpa [rl.length, rl'.length] using hz) hu0
    · rename_i xs ys
      have hp0 := hp; have hq0 := hq
      obtain ⟨l, vs, rfl, _, hl, rl⟩ := hp; obtain ⟨l', ws, rfl, _, hl', rl'⟩ := hq
      by_cases hll : l = l'
      · subst hll
        have := Rep.inj hp0 hq0
        cases this
        rw [pvEqL_refl (pvEq_refl n) _ _ h]
        exact EqAt.same _
      · refine EqAt.of_refs hll ?_
        obtain ⟨i1, i2⟩ := pvEqL_idx h
        have e : b = ((List.range (min vs.toArray.size ws.toArray.size)).all (eqAtIdx (pvEq n) xs ys) && vs.toArray.size == ws.toArray.size) := by rw [i2]; simp [rl.length, rl'.length]
        rw [e]
        refine RcAt.tuples hl hl' hu0 fun j h1 h2 => ?_
        obtain ⟨x, ex, rx⟩ := repL_getE rl j h1
        obtain ⟨y, ey, ry⟩ := repL_getE rl' j h2
        exact ih A.in1 hu' nb rx ry (i1 j x y ex ey)
end

noncomputable def pvInts : List PV → Option (List Int)
  | [] => some []
  | .int i :: r => (pvInts r).map (i :: ·)
  | _ => none
noncomputable def isFF : PV → PV → Option (UInt64 × UInt64)
  | .float a, .float b => some (a, b)
  | _, _ => none
noncomputable def isII : PV → PV → Option (Int × Int)
  | .int a, .int b => some (a, b)
  | _, _ => none
noncomputable def isIn : PV → PV → Option (Int × List PV)
  | .int a, .list b => some (a, b)
  | _, _ => none
theorem isFF_some {a b : PV} {x : UInt64 × UInt64} (h : isFF a b = some x) : a = .float x.1 ∧ b = .float x.2 := by
  cases a <;> first | cases h | (cases b <;> first | cases h | skip)
  exact ⟨rfl, rfl⟩
theorem isII_some {a b : PV} {x : Int × Int} (h : isII a b = some x) : a = .int x.1 ∧ b = .int x.2 := by
  cases a <;> first | cases h | (cases b <;> first | cases h | skip)
  exact ⟨rfl, rfl⟩
theorem isIn_some {a b : PV} {x : Int × List PV} (h : isIn a b = some x) : a = .int x.1 ∧ b = .list x.2 := by
  cases a <;> first | cases h | (cases b <;> first | cases h | skip)
  exact ⟨rfl, rfl⟩
/-- the comparisons that the programs use -/
noncomputable def pvCmp (op : CmpOp) (a b : PV) : Option Bool := match op with
  | .Eq => (match isFF a b with | some x => some (Float64.cmp x.1 x.2 == some .eq) | none => pvEq 6 a b)
  | .NotEq => (match isFF a b with | some x => some (Float64.cmp x.1 x.2 != some .eq) | none => (pvEq 6 a b).map not)
  | .Lt => (match isFF a b with | some x => some (Float64.cmp x.1 x.2 == some .lt) | none => (isII a b).map fun x => decide (x.1 < x.2))
  | .LtE => (match isFF a b with | some x => some (Float64.cmp x.1 x.2 == some .lt || Float64.cmp x.1 x.2 == some .eq) | none => (isII a b).map fun x => decide (x.1 ≤ x.2))
  | .Gt => (match isFF a b with | some x => some (Float64.cmp x.1 x.2 == some .gt) | none => (isII a b).map fun x => decide (x.1 > x.2))
  | .GtE => (isII a b).map fun x => decide (x.1 ≥ x.2)
  | .In => (isIn a b).bind fun x => (pvInts x.2).map fun is => is.contains x.1
  | _ => none

section
variable {C : Ctx} {n : Nat} {A : Around} {X : Addr → Prop} {s : Shared}
open PySem.SeqAt
theorem eq_ok (hA : Lv n A) (gl : C.Gl s.heap) {a b : PV} {r : Bool} {va vb : Value} (ha : Rep X s.heap a va) (hb : Rep X s.heap b vb) (h : pvEq 6 a b = some r) (hf : ∀ x, a ≠ .float x) : wpAny C.M A (compareOp .Eq va vb) (fun v s' => v = .bool r ∧ s' = s) NoE s := by
  have hu := hA.units
  have hu' : A.in1.units + 5 < cLine := by simp; omega
  have hu0 : A.units < cLine := by omega
  cases a <;> cases b <;> simp only [pvEq] at h <;> try cases h
  · obtain ⟨t, rfl⟩ := ha; obtain ⟨u, rfl⟩ := hb
    exact PyProof.Rows.eq_int ⟨rfl, rfl⟩
  · exact absurd rfl (hf _)
  · obtain ⟨t, rfl⟩ := ha; obtain ⟨u, rfl⟩ := hb
    exact eq_bytes ⟨by simp, rfl⟩
  · rename_i xs ys
    obtain ⟨l, vs, rfl, _, hl, rl⟩ := ha; obtain ⟨l', ws, rfl, _, hl', rl'⟩ := hb
    obtain ⟨i1, i2⟩ := pvEqL_idx h
    by_cases hz : xs.length = ys.length
    · have hsz : vs.toArray.size = ws.toArray.size := by simp [rl.length, rl'.length, hz]
      have e : r = (List.range vs.toArray.size).all (eqAtIdx (pvEq 5) xs ys) := by rw [i2]; simp [rl.length, hz]
      rw [e]
      refine eq_listAt hl hl' hsz hu0 (fun j h1 h2 => ?_) ⟨rfl, rfl⟩
      obtain ⟨x, ex, rx⟩ := repL_getE rl j h1
      obtain ⟨y, ey, ry⟩ := repL_getE rl' j h2
      exact eqAt_of 5 A.in1 hu' gl.nb rx ry (i1 j x y ex ey)
    · have e : r = false := by rw [i2]; simp [hz]
      rw [e]
      exact eq_list_lengthsAt hl hl' (by simpa [rl.length, rl'.length] using hz) hu0 ⟨rfl, rfl⟩
  · rename_i xs ys
    obtain ⟨l, vs, rfl, _, hl, rl⟩ := ha; obtain ⟨l', ws, rfl, _, hl', rl'⟩ := hb
    obtain ⟨i1, i2⟩ := pvEqL_idx h
    have e : r = ((List.range (min vs.toArray.size ws.toArray.size)).all (eqAtIdx (pvEq 5) xs ys) && vs.toArray.size == ws.toArray.size) := by rw [i2]; simp [rl.length, rl'.length]
    rw [e]
    refine eq_tupleAt hl hl' hu0 (fun j h1 h2 => ?_) ⟨rfl, rfl⟩
    obtain ⟨x, ex, rx⟩ := repL_getE rl j h1
    obtain ⟨y, ey, ry⟩ := repL_getE rl' j h2
    exact eqAt_of 5 A.in1 hu' gl.nb rx ry (i1 j x y ex ey)
theorem ne_ok (hA : Lv n A) (gl : C.Gl s.heap) {a b : PV} {r : Bool} {va vb : Value} (ha : Rep X s.heap a va) (hb : Rep X s.heap b vb) (h : pvEq 6 a b = some r) (hf : ∀ x, a ≠ .float x) : wpAny C.M A (compareOp .NotEq va vb) (fun v s' => v = .bool (!r) ∧ s' = s) NoE s := by
  have hu := hA.units
  have hu' : A.in1.units + 5 < cLine := by simp; omega
  have hu0 : A.units < cLine := by omega
  cases a <;> cases b <;> simp only [pvEq] at h <;> try cases h
  · obtain ⟨t, rfl⟩ := ha; obtain ⟨u, rfl⟩ := hb
    exact PyProof.Rows.ne_int ⟨by simp [bne], rfl⟩
  · exact absurd rfl (hf _)
  · obtain ⟨t, rfl⟩ := ha; obtain ⟨u, rfl⟩ := hb
    exact ne_bytes ⟨by simp [bne], rfl⟩
  · rename_i xs ys
    obtain ⟨l, vs, rfl, _, hl, rl⟩ := ha; obtain ⟨l', ws, rfl, _, hl', rl'⟩ := hb
    obtain ⟨i1, i2⟩ := pvEqL_idx h
    by_cases hz : xs.length = ys.length
    · have hsz : vs.toArray.size = ws.toArray.size := by simp [rl.length, rl'.length, hz]
      have e : r = (List.range vs.toArray.size).all (eqAtIdx (pvEq 5) xs ys) := by rw [i2]; simp [rl.length, hz]
      rw [e]
      refine RcNeAt.lists hl hl' hsz hu0 (fun j h1 h2 => ?_) _ _ _ _ ⟨rfl, rfl⟩
      obtain ⟨x, ex, rx⟩ := repL_getE rl j h1
      obtain ⟨y, ey, ry⟩ := repL_getE rl' j h2
      exact eqAt_of 5 A.in1 hu' gl.nb rx ry (i1 j x y ex ey)
    · have e : r = false := by rw [i2]; simp [hz]
      rw [e]
      exact RcNeAt.lists_lengths hl hl' (by simpa [rl.length, rl'.length] using hz) hu0 _ _ _ _ ⟨rfl, rfl⟩
  · rename_i xs ys
    obtain ⟨l, vs, rfl, _, hl, rl⟩ := ha; obtain ⟨l', ws, rfl, _, hl', rl'⟩ := hb
    obtain ⟨i1, i2⟩ := pvEqL_idx h
    have e : r = ((List.range (min vs.toArray.size ws.toArray.size)).all (eqAtIdx (pvEq 5) xs ys) && vs.toArray.size == ws.toArray.size) := by rw [i2]; simp [rl.length, rl'.length]
    rw [e]
    refine RcNeAt.tuples hl hl' hu0 (fun j h1 h2 => ?_) _ _ _ _ ⟨rfl, rfl⟩
    obtain ⟨x, ex, rx⟩ := repL_getE rl j h1
    obtain ⟨y, ey, ry⟩ := repL_getE rl' j h2
    exact eqAt_of 5 A.in1 hu' gl.nb rx ry (i1 j x y ex ey)

theorem repL_ints {h : Heap} : ∀ {xs : List PV} {vs : List Value} {is : List Int}, RepL X h xs vs → pvInts xs = some is → ∀ a : Int, ∀ y ∈ vs, ∃ i t, y = .int i t
  | [], vs, is, r, _, a, y, hy => by rw [show vs = [] from r] at hy; cases hy
  | x :: xs, vs, is, ⟨v, w, e, r1, r2⟩, hi, a, y, hy => by
    cases x <;> simp [pvInts] at hi
    obtain ⟨js, h1, rfl⟩ := hi
    rw [e] at hy
    rcases List.mem_cons.mp hy with rfl | hy
    · obtain ⟨t, rfl⟩ := r1; exact ⟨_, t, rfl⟩
    · exact repL_ints r2 h1 a y hy
noncomputable def intOf : Value → Int | .int i _ => i | _ => 0
theorem repL_any {h : Heap} (a : Int) : ∀ {xs : List PV} {vs : List Value} {is : List Int}, RepL X h xs vs → pvInts xs = some is → vs.any (fun y => intOf y == a) = is.contains a
  | [], vs, is, r, hi => by rw [show vs = [] from r]; cases hi; rfl
  | x :: xs, vs, is, ⟨v, w, e, r1, r2⟩, hi => by
    cases x <;> simp [pvInts] at hi
    obtain ⟨js, h1, rfl⟩ := hi
    obtain ⟨t, rfl⟩ := r1
    rw [e, List.any_cons, repL_any a r2 h1, List.contains_cons]
    simp only [intOf]
    congr 1
    exact Bool.beq_comm

theorem float_no {a b : PV} {r : Bool} (e : isFF a b = none) (h : pvEq 6 a b = some r) : ∀ x, a ≠ .float x := fun x q => by
  subst q
  cases b <;> first | cases h | skip
  cases e
theorem cmp_ok (hA : Lv n A) (gl : C.Gl s.heap) {op : CmpOp} {a b : PV} {r : Bool} {va vb : Value} (ha : Rep X s.heap a va) (hb : Rep X s.heap b vb) (h : pvCmp op a b = some r) :
    wpAny C.M A (compareOp op va vb) (fun v s' => v = .bool r ∧ s' = s) NoE s := by
  have fl : ∀ {x : UInt64 × UInt64}, isFF a b = some x → ∃ t u, va = .float x.1 t ∧ vb = .float x.2 u := fun {x} e => by
    obtain ⟨rfl, rfl⟩ := isFF_some e
    obtain ⟨t, rfl, _⟩ := ha; obtain ⟨u, rfl, _⟩ := hb
    exact ⟨t, u, rfl, rfl⟩
  have il : ∀ {x : Int × Int}, isII a b = some x → ∃ t u, va = .int x.1 t ∧ vb = .int x.2 u := fun {x} e => by
    obtain ⟨rfl, rfl⟩ := isII_some e
    obtain ⟨t, rfl⟩ := ha; obtain ⟨u, rfl⟩ := hb
    exact ⟨t, u, rfl, rfl⟩
  cases op with
  | Eq =>
    cases e : isFF a b with
    | some x =>
      obtain ⟨t, u, rfl, rfl⟩ := fl e
      unfold pvCmp at h; rw [e] at h; cases h
      exact AutoFloatOps.eq_0 ⟨rfl, rfl⟩
    | none =>
      unfold pvCmp at h; rw [e] at h
      exact eq_ok hA gl ha hb h (float_no e h)
  | NotEq =>
    cases e : isFF a b with
    | some x =>
      obtain ⟨t, u, rfl, rfl⟩ := fl e
      unfold pvCmp at h; rw [e] at h; cases h
      exact AutoFloatOps.ne_0 ⟨rfl, rfl⟩
    | none =>
      unfold pvCmp at h; rw [e] at h
      obtain ⟨r', h1, rfl⟩ := Option.map_eq_some_iff.mp h
      exact ne_ok hA gl ha hb h1 (float_no e h1)
  | Lt =>
    cases e : isFF a b with
    | some x =>
      obtain ⟨t, u, rfl, rfl⟩ := fl e
      unfold pvCmp at h; rw [e] at h; cases h
      exact AutoFloatOps.lt_0 ⟨rfl, rfl⟩
    | none =>
      unfold pvCmp at h; rw [e] at h
      obtain ⟨x, e2, rfl⟩ := Option.map_eq_some_iff.mp h
      obtain ⟨t, u, rfl, rfl⟩ := il e2
      exact PyProof.Rows.lt_int ⟨rfl, rfl⟩
  | LtE =>
    cases e : isFF a b with
    | some x =>
      obtain ⟨t, u, rfl, rfl⟩ := fl e
      unfold pvCmp at h; rw [e] at h; cases h
      exact AutoFloatOps.le_0 ⟨rfl, rfl⟩
    | none =>
      unfold pvCmp at h; rw [e] at h
      obtain ⟨x, e2, rfl⟩ := Option.map_eq_some_iff.mp h
      obtain ⟨t, u, rfl, rfl⟩ := il e2
      exact PyProof.Rows.le_int ⟨rfl, rfl⟩
  | Gt =>
    cases e : isFF a b with
    | some x =>
      obtain ⟨t, u, rfl, rfl⟩ := fl e
      unfold pvCmp at h; rw [e] at h; cases h
      exact AutoFloatOps.gt_0 ⟨rfl, rfl⟩
    | none =>
      unfold pvCmp at h; rw [e] at h
      obtain ⟨x, e2, rfl⟩ := Option.map_eq_some_iff.mp h
      obtain ⟨t, u, rfl, rfl⟩ := il e2
      exact PyProof.Rows.gt_int ⟨rfl, rfl⟩
  | GtE =>
    obtain ⟨x, e2, rfl⟩ := Option.map_eq_some_iff.mp h
    obtain ⟨t, u, rfl, rfl⟩ := il e2
    exact PyProof.Rows.ge_int ⟨rfl, rfl⟩
  | In =>
    obtain ⟨x, e2, h⟩ := bind_some h
    obtain ⟨is, h1, rfl⟩ := Option.map_eq_some_iff.mp h
    obtain ⟨rfl, rfl⟩ := isIn_some e2
    obtain ⟨a, xs⟩ := x
    obtain ⟨t, rfl⟩ := ha; obtain ⟨l, vs, rfl, _, hl, rl⟩ := hb
    refine in_listAt (fun y => intOf y == a) hl (fun y hy => ?_) ⟨?_, rfl⟩
    · obtain ⟨i, u, rfl⟩ := repL_ints rl h1 a y (by simpa using hy)
      exact (MeetsSeq.EqGives.int i a u t).at _ _
    · rw [List.any_toArray, repL_any a rl h1]
  | Is => cases h
  | IsNot => cases h
  | NotIn => cases h
end

section
variable {C : Ctx} {sc : Scope} {lay : List Str} {n : Nat}
noncomputable def dBin (op : Operator) (d1 d2 : St → Option PV) : St → Option PV := fun σ => (d1 σ).bind fun a => (d2 σ).bind fun b => pvBin op a b
theorem se_bin {l r : Expr} {op : Operator} {pos : Pos} {d1 d2 : St → Option PV} (h1 : SE C sc lay n l d1) (h2 : SE C sc lay n r d2) : SE C sc lay n (.BinOp l op r pos) (dBin op d1 d2) := by
  intro A env X σ s r hA hE hP hd
  obtain ⟨a, e1, hd⟩ := bind_some hd
  obtain ⟨b, e2, hd⟩ := bind_some hd
  refine wpAny_BinOp (h1.then hA hE hP e1 fun va s1 k1 r1 p1 => h2.then hA hE p1 e2 fun vb s2 k2 r2 p2 => ?_)
  exact wpAny_mono (bin_ok hA p2.gl p2.live p2.tok (r1.stays k2.st) r2 hd) (fun v s' x => ⟨(k1.trans' k2).trans' x.1, x.2⟩) fun _ _ x => x

noncomputable def dCmp (op : CmpOp) (d1 d2 : St → Option PV) : St → Option Bool := fun σ => (d1 σ).bind fun a => (d2 σ).bind fun b => pvCmp op a b
theorem se_cmp {l r : Expr} {op : CmpOp} {pos : Pos} {d1 d2 : St → Option PV} (h1 : SE C sc lay n l d1) (h2 : SE C sc lay n r d2) (hm : behindInMarks op r = false) : SE C sc lay n (.Compare l [op] [r] pos) (fun σ => (dCmp op d1 d2 σ).map .bool) := by
  intro A env X σ s r hA hE hP hd
  obtain ⟨bb, hd1, rfl⟩ := Option.map_eq_some_iff.mp hd; clear hd; have hd := hd1; clear hd1
  obtain ⟨a, e1, hd⟩ := bind_some hd
  obtain ⟨b, e2, hd⟩ := bind_some hd
  refine wpAny_Compare1 (h1.then hA hE hP e1 fun va s1 k1 r1 p1 => h2.then hA hE p1 e2 fun vb s2 k2 r2 p2 => ?_) hm
  exact wpAny_mono (cmp_ok hA p2.gl (r1.stays k2.st) r2 hd) (fun v s' x => by obtain ⟨rfl, rfl⟩ := x; exact ⟨k1.trans' k2, rfl⟩) fun _ _ x => x
theorem st_cmp {l r : Expr} {op : CmpOp} {pos : Pos} {d1 d2 : St → Option PV} (h1 : SE C sc lay n l d1) (h2 : SE C sc lay n r d2) (hm : behindInMarks op r = false) : STst C sc lay n (.Compare l [op] [r] pos) (dCmp op d1 d2) := by
  intro A env X σ s r hA hE hP hd
  obtain ⟨a, e1, hd⟩ := bind_some hd
  obtain ⟨b, e2, hd⟩ := bind_some hd
  refine wpAny_isTrue_Compare1 (h1.then hA hE hP e1 fun va s1 k1 r1 p1 => h2.then hA hE p1 e2 fun vb s2 k2 r2 p2 => ?_) hm
  exact wpAny_mono (cmp_ok hA p2.gl (r1.stays k2.st) r2 hd) (fun v s' x => by obtain ⟨rfl, rfl⟩ := x; exact wpAny_truthy_bool ⟨k1.trans' k2, rfl⟩) fun _ _ x => x
theorem st_not {e : Expr} {pos : Pos} {d : St → Option Bool} (h : STst C sc lay n e d) : STst C sc lay n (.UnaryOp .Not e pos) (fun σ => (d σ).map not) := by
  intro A env X σ s r hA hE hP hd
  obtain ⟨b, hd1, rfl⟩ := Option.map_eq_some_iff.mp hd; clear hd; have hd := hd1; clear hd1
  exact wpAny_isTrue_Not (h.then hA hE hP hd fun s1 k1 p1 => ⟨k1, rfl⟩)
/-- a value that is a bool, as a test -/
noncomputable def isPlainTest : Expr → Bool
  | .UnaryOp .Not _ _ => false
  | .BoolOp .. => false
  | .IfExp .. => false
  | .Compare .. => false
  | _ => true
theorem isTrue_plainTest {e : Expr} {env : Env} {whole : Sem Value} (h : isPlainTest e = true) : isTrue e env whole = (do let v ← whole; standAt e.pos; holding [v] (truthy v)) := by
  cases e <;> first | rfl | (rename_i op _ _; cases op <;> first | rfl | cases h) | cases h
noncomputable def asBool : PV → Option Bool | .bool b => some b | _ => none
theorem st_val {e : Expr} {d : St → Option PV} (h : SE C sc lay n e d) (hp : isPlainTest e = true) : STst C sc lay n e (fun σ => (d σ).bind asBool) := by
  intro A env X σ s r hA hE hP hd
  obtain ⟨b, hd1, hb⟩ := bind_some hd; clear hd; have hd := hd1; clear hd1
  cases b <;> simp [asBool] at hb
  subst hb
  exact wpAny_isTrue_value (h.then hA hE hP hd fun v s1 k1 r1 p1 => by rw [show v = _ from r1]; exact wpAny_truthy_bool ⟨k1, rfl⟩) (isTrue_plainTest hp)
noncomputable def dOr : List (St → Option Bool) → St → Option Bool
  | [], _ => some false
  | d :: ds, σ => (d σ).bind fun b => if b then some true else dOr ds σ
inductive STsts (C : Ctx) (sc : Scope) (lay : List Str) (n : Nat) : List Expr → List (St → Option Bool) → Prop
  | nil : STsts C sc lay n [] []
  | cons {e es d ds} : STst C sc lay n e d → STsts C sc lay n es ds → STsts C sc lay n (e :: es) (d :: ds)
theorem st_or_aux : ∀ {es : List Expr} {ds : List (St → Option Bool)}, STsts C sc lay n es ds → ∀ (A : Around) (env : Env) (X : Addr → Prop) (σ : St) (s : Shared) (r : Bool), Lv n A → EnvOk sc env → Pre C lay X env σ s → dOr ds σ = some r →
    wpAny C.M A (allTrue .Or es env) (fun v s' => Kp s s' ∧ v = r) NoE s
  | _, _, .nil, A, env, X, σ, s, r, hA, hE, hP, hd => by cases hd; exact wpAny_allTrue_Or_nil ⟨Kp.refl' s, rfl⟩
  | _, _, .cons h t, A, env, X, σ, s, r, hA, hE, hP, hd => by
    obtain ⟨b, h1, hd⟩ := bind_some hd
    refine wpAny_allTrue_Or_cons (h.then hA hE hP h1 fun s1 k1 p1 => ?_)
    cases b
    · simp only [Bool.false_eq_true, if_false] at hd ⊢
      exact wpAny_mono (st_or_aux t A env X σ s1 r hA hE p1 hd) (fun _ _ x => ⟨k1.trans' x.1, x.2⟩) fun _ _ x => x
    · simp only [if_true] at hd ⊢
      cases hd; exact ⟨k1, rfl⟩
theorem st_or {es : List Expr} {pos : Pos} {ds : List (St → Option Bool)} (h : STsts C sc lay n es ds) : STst C sc lay n (.BoolOp .Or es pos) (dOr ds) :=
  fun A env X σ s r hA hE hP hd => wpAny_isTrue_BoolOp (st_or_aux h A env X σ s r hA hE hP hd)
noncomputable def pvNeg : PV → Option PV | .int i => some (.int (-i)) | _ => none
theorem se_neg {e : Expr} {pos : Pos} {d : St → Option PV} (h : SE C sc lay n e d) : SE C sc lay n (.UnaryOp .USub e pos) (fun σ => (d σ).bind pvNeg) := by
  intro A env X σ s r hA hE hP hd
  obtain ⟨b, hd1, hb⟩ := bind_some hd; clear hd; have hd := hd1; clear hd1
  cases b <;> simp [pvNeg] at hb
  subst hb
  exact wpAny_UnaryOp (h.then hA hE hP hd fun v s1 k1 r1 p1 => by obtain ⟨t, rfl⟩ := r1; exact PyProof.Rows.neg_int ⟨k1.trans' (Kp.toks ..), _, rfl⟩)
end
end Mine

end
section
open PySem PySem.W PyProof.Rows
set_option linter.unusedVariables false
namespace Mine

noncomputable def pickL {α : Type} (xs : List α) (lo hi st : Option Int) : List α :=
  (sliceRange (sliceBounds lo hi st xs.length).1 (sliceBounds lo hi st xs.length).2.1 (sliceBounds lo hi st xs.length).2.2).filterMap (xs[·]?)
theorem slicePick_eq (vs : List Value) (lo hi st : Option Int) : slicePick vs.toArray lo hi st = (pickL vs lo hi st).toArray := by
  unfold slicePick pickL
  simp
theorem RepL.filterMap {X : Addr → Prop} {h : Heap} {ps : List PV} {vs : List Value} (r : RepL X h ps vs) : ∀ is : List Nat, RepL X h (is.filterMap (ps[·]?)) (is.filterMap (vs[·]?))
  | [] => rfl
  | i :: is => by
    have ih := RepL.filterMap r is
    cases e : ps[i]? with
    | none =>
      have : vs[i]? = none := by
        rw [List.getElem?_eq_none_iff] at e ⊢; rw [r.length]; exact e
      simpa [List.filterMap_cons, e, this] using ih
    | some x =>
      obtain ⟨y, ey, ry⟩ := r.get e
      simp only [List.filterMap_cons, e, ey]
      exact .cons ry ih
theorem RepL.pick {X : Addr → Prop} {h : Heap} {ps : List PV} {vs : List Value} (r : RepL X h ps vs) (lo hi st : Option Int) : RepL X h (pickL ps lo hi st) (pickL vs lo hi st) := by
  unfold pickL
  rw [r.length]
  exact r.filterMap _
theorem picked_pick (b : List UInt8) (lo hi : Option Int) : KBy.picked b.toArray lo hi = (pickL b lo hi none).toArray := by
  unfold KBy.picked Builtin.Bytes.sliced pickL
  simp

noncomputable def pvItem : PV → PV → Option PV
  | .list xs, .int i => if 0 ≤ i ∧ i < 9223372036854775807 then xs[i.toNat]? else none
  | .tuple xs, .int i => if 0 ≤ i ∧ i < 9223372036854775807 then xs[i.toNat]? else none
  | .bytes b, .int i => if 0 ≤ i ∧ b.length ≤ 16777216 then (b[i.toNat]?).map fun c => .int (c.toNat : Int) else none
  | _, _ => none
noncomputable def notSlice : Expr → Bool | .Slice .. => false | _ => true
theorem subscripted_item {slice : Expr} (h : notSlice slice = true) (o i : Value) : subscripted slice false o i = operate [o, i] (getItem o i) := by
  cases slice <;> first | rfl | cases h
noncomputable def pvSlice (p : PV) (lo hi st : Option Int) : Option PV := match p with
  | .list xs => if st ≠ some 0 ∧ xs.length ≤ 16777216 then some (.list (pickL xs lo hi st)) else none
  | .bytes b => if st = none ∧ b.length ≤ 16777216 then some (.bytes (pickL b lo hi none)) else none
  | _ => none
noncomputable def sliceOps (st : Option Expr) (o i : Value) : List Value := match st with | none => [i, o] | some _ => [o, i]
theorem subscripted_slice {lo hi st : Option Expr} {p : Pos} (o i : Value) : subscripted (.Slice lo hi st p) false o i = operate (sliceOps st o i) (getItem o i) := by
  cases st <;> rfl

section
variable {C : Ctx} {sc : Scope} {lay : List Str} {n : Nat}
noncomputable def dItem (d1 d2 : St → Option PV) : St → Option PV := fun σ => (d1 σ).bind fun a => (d2 σ).bind fun b => pvItem a b
theorem item_ok {A : Around} {X : Addr → Prop} {s : Shared} {value slice : Expr} {a b r : PV} {va vb : Value} (ha : Rep X s.heap a va) (hb : Rep X s.heap b vb) (hs : notSlice slice = true) (hd : pvItem a b = some r) :
    wpAny C.M A (subscriptTail value slice va vb) (fun v s' => Kp s s' ∧ Rep X s'.heap r v) NoE s := by
  unfold pvItem at hd
  split at hd
  · split at hd
    · rename_i xs i hi
      obtain ⟨l, vs, rfl, _, hl, rl⟩ := ha; obtain ⟨t, rfl⟩ := hb
      obtain ⟨y, ey, ry⟩ := rl.get hd
      exact tail_any hl.typeIs slot_list_getitem.lookup (wpAny_getItem_list hl hi.1 (by omega) (by simpa using ey) ⟨Kp.refl' s, ry⟩) (subscripted_item hs _ _)
    · cases hd
  · split at hd
    · rename_i xs i hi
      obtain ⟨l, vs, rfl, _, hl, rl⟩ := ha; obtain ⟨t, rfl⟩ := hb
      obtain ⟨y, ey, ry⟩ := rl.get hd
      have hlt : i.toNat < vs.length := by
        rcases Nat.lt_or_ge i.toNat vs.length with q | q
        · exact q
        · rw [List.getElem?_eq_none q] at ey; cases ey
      refine item_tupleT hl (by omega) (by omega) (j := i.toNat) ?_ ey ⟨Kp.refl' s, ry⟩ (subscripted_item hs _ _)
      unfold seqIndex?
      have : ¬ i < 0 := by omega
      simp [this]; omega
    · cases hd
  · split at hd
    · rename_i b i hi
      obtain ⟨t, rfl⟩ := ha; obtain ⟨u, rfl⟩ := hb
      obtain ⟨c, ec, rfl⟩ := Option.map_eq_some_iff.mp hd
      have hlt : i.toNat < b.length := by
        rcases Nat.lt_or_ge i.toNat b.length with q | q
        · exact q
        · rw [List.getElem?_eq_none q] at ec; cases ec
      refine tail_any (typeIs_bytes _ _ _) FB.slot_bytes_getitem.lookup (getItem_bytes (by omega) hi.1 (by omega) ⟨Kp.toks .., ?_⟩) (subscripted_item hs _ _)
      refine ⟨s.toks, ?_⟩
      have : b.getD i.toNat 0 = c := by rw [List.getD_eq_getElem?_getD, ec]; rfl
      rw [this]
    · cases hd
  · cases hd
theorem se_item {value slice : Expr} {pos : Pos} {d1 d2 : St → Option PV} (h1 : SE C sc lay n value d1) (h2 : SE C sc lay n slice d2) (hs : notSlice slice = true) : SE C sc lay n (.Subscript value slice pos) (dItem d1 d2) := by
  intro A env X σ s r hA hE hP hd
  obtain ⟨a, e1, hd⟩ := bind_some hd
  obtain ⟨b, e2, hd⟩ := bind_some hd
  refine Subscript_ (h1.then hA hE hP e1 fun va s1 k1 r1 p1 => h2.then hA hE p1 e2 fun vb s2 k2 r2 p2 => ?_)
  exact wpAny_mono (item_ok (r1.stays k2.st) r2 hs hd) (fun v s' x => ⟨(k1.trans' k2).trans' x.1, x.2⟩) fun _ _ x => x

noncomputable def OptE (C : Ctx) (sc : Scope) (lay : List Str) (n : Nat) (e : Option Expr) (d : St → Option (Option Int)) : Prop :=
  ∀ (A : Around) (env : Env) (X : Addr → Prop) (σ : St) (s : Shared) (r : Option Int), Lv n A → EnvOk sc env → Pre C lay X env σ s → d σ = some r →
    wpAny C.M A (evalPart e env) (fun v s' => Kp s s' ∧ IsPart v r) NoE s
theorem opt_none : OptE C sc lay n none (fun _ => some none) := by
  intro A env X σ s r hA hE hP hd; cases hd
  exact wpAny_pure ⟨Kp.refl' s, .none⟩
noncomputable def asInt : PV → Option Int | .int i => some i | _ => none
theorem opt_some {e : Expr} {d : St → Option PV} (h : SE C sc lay n e d) : OptE C sc lay n (some e) (fun σ => (d σ).bind fun p => (asInt p).map some) := by
  intro A env X σ s r hA hE hP hd
  obtain ⟨p, h1, hd⟩ := bind_some hd
  cases p <;> simp [asInt] at hd
  subst hd
  exact h.then hA hE hP h1 fun v s1 k1 r1 p1 => by obtain ⟨t, rfl⟩ := r1; exact ⟨k1, .int _ _⟩
theorem OptE.then {e : Option Expr} {d : St → Option (Option Int)} (h : OptE C sc lay n e d) {A : Around} {env : Env} {X : Addr → Prop} {σ : St} {s : Shared} {r : Option Int} (hA : Lv n A) (hE : EnvOk sc env) (hP : Pre C lay X env σ s) (hd : d σ = some r)
    {Q : Value → Shared → Prop} (hQ : ∀ v s', Kp s s' → IsPart v r → Pre C lay X env σ s' → Q v s') : wpAny C.M A (evalPart e env) Q NoE s :=
  wpAny_mono (wpAny_toks (h A env X σ s r hA hE hP hd)) (fun v s' x => hQ v s' x.2.1 x.2.2 (hP.kp x.2.1 x.1)) fun _ _ x => x.2

noncomputable def dSlice (d : St → Option PV) (lo hi st : St → Option (Option Int)) : St → Option PV := fun σ =>
  (d σ).bind fun p => (lo σ).bind fun a => (hi σ).bind fun b => (st σ).bind fun c => pvSlice p a b c
theorem slice_ok {A : Around} {X : Addr → Prop} {s : Shared} {value : Expr} {lo hi st : Option Expr} {p : Pos} {pv r : PV} {a b c : Option Int} {vo va vb vc : Value} (lv : Live X s.heap) (r0 : Rep X s.heap pv vo) (r1 : IsPart va a) (r2 : IsPart vb b) (r3 : IsPart vc c) (hd : pvSlice pv a b c = some r) :
    wpAny C.M A (subscriptTail value (.Slice lo hi st p) vo (.ref s.heap.objs.size)) (fun v s' => Kp s s' ∧ Rep X s'.heap r v) NoE { s with heap := s.heap.push { cls := .type "slice", data := .fields #[va, vb, vc] } } := by
  have st1 := stays_push s.heap { cls := .type "slice", data := .fields #[va, vb, vc] }
  have kk : Kp s { s with heap := s.heap.push { cls := .type "slice", data := .fields #[va, vb, vc] } } := Kp.of' st1
  have sl : (s.heap.push { cls := .type "slice", data := .fields #[va, vb, vc] }).IsSliceOf s.heap.objs.size va vb vc := Heap.IsSliceOf.new ..
  unfold pvSlice at hd
  split at hd
  · split at hd
    · rename_i xs hc; cases hd
      obtain ⟨l, vs, rfl, _, hl, rl⟩ := r0
      have hl' := hl.push { cls := .type "slice", data := .fields #[va, vb, vc] }
      refine tail_any (s := { s with heap := s.heap.push { cls := .type "slice", data := .fields #[va, vb, vc] } }) (Heap.IsList.typeIs (s := { s with heap := s.heap.push { cls := .type "slice", data := .fields #[va, vb, vc] } }) hl') slot_list_getitem.lookup (wpAny_getItem_list_slice hl' sl r1 r2 r3 hc.1 ?_ (by simp [rl.length, sizeLine_eq, hc.2])) (subscripted_slice _ _)
      dsimp only
      rw [slicePick_eq]
      have st2 := stays_push (s.heap.push { cls := .type "slice", data := .fields #[va, vb, vc] }) { cls := .type "list", data := .seq (pickL vs a b c).toArray }
      exact ⟨kk.trans' (Kp.of' st2), _, pickL vs a b c, rfl, (lv.stays st1).fresh (size_none _), ⟨_, Heap.get?_push_size _ rfl, rfl, 0, rfl⟩, ((rl.stays st1).stays st2).pick _ _ _⟩
    · cases hd
  · split at hd
    · rename_i bs hc; cases hd
      obtain ⟨t, rfl⟩ := r0
      obtain ⟨hc1, hc2⟩ := hc
      subst hc1
      cases r3
      refine tail_any (s := { s with heap := s.heap.push { cls := .type "slice", data := .fields #[va, vb, .none] } }) (typeIs_bytes _ _ _) FB.slot_bytes_getitem.lookup (getItem_meets (typeIs_bytes _ _ _) (by decide) FB.slot_bytes_getitem FB.entry_bytes_getitem (FB.args_bytes_getitem_2 _ _) (KBc.meets_slice2 bs.toArray t _ r1 r2)
        ⟨sl, Nat.le_trans (KBc.size_picked_le _ _ _) (by simpa [sizeLine_eq] using hc2), fun t' k' => ?_⟩) (subscripted_slice _ _)
      exact ⟨kk.trans' (Kp.toks ..), t', by rw [picked_pick]⟩
    · cases hd
  · cases hd
theorem se_slice {value : Expr} {lo hi st : Option Expr} {p pos : Pos} {d : St → Option PV} {dl dh ds : St → Option (Option Int)} (h : SE C sc lay n value d) (hl : OptE C sc lay n lo dl) (hh : OptE C sc lay n hi dh) (hs : OptE C sc lay n st ds) :
    SE C sc lay n (.Subscript value (.Slice lo hi st p) pos) (dSlice d dl dh ds) := by
  intro A env X σ s r hA hE hP hd
  obtain ⟨pv, e0, hd⟩ := bind_some hd
  obtain ⟨a, e1, hd⟩ := bind_some hd
  obtain ⟨b, e2, hd⟩ := bind_some hd
  obtain ⟨c, e3, hd⟩ := bind_some hd
  refine Subscript_ (h.then hA hE hP e0 fun vo s0 k0 r0 p0 => wpAny_Slice (hl.then hA hE p0 e1 fun va s1 k1 r1 p1 => hh.then hA hE p1 e2 fun vb s2 k2 r2 p2 => hs.then hA hE p2 e3 fun vc s3 k3 r3 p3 => ?_))
  have k13 := (k1.trans' k2).trans' k3
  exact wpAny_mono (slice_ok p3.live (r0.stays k13.st) r1 r2 r3 hd) (fun v s' x => ⟨(k0.trans' k13).trans' x.1, x.2⟩) fun _ _ x => x
end
end Mine

end
section
open PySem PySem.W PySem.Calls PyProof.Rows
set_option linter.unusedVariables false
namespace Mine

/-- what a call gives -/
noncomputable def CallOk (C : Ctx) (n : Nat) (f : Value) (spec : List PV → Option PV) : Prop :=
  ∀ (A : Around) (X : Addr → Prop) (s : Shared) (vs : List Value) (ps : List PV) (r : PV), Lv n A → C.Gl s.heap → Live X s.heap → 0 < s.toks → RepL X s.heap ps vs → spec ps = some r →
    wpAny C.M A (call f vs) (fun v s' => Kp s s' ∧ Rep X s'.heap r v) NoE s

structure Callee (C : Ctx) (x : Str) (f : Value) : Prop where
  load : ∀ {A : Around} {sc : Scope} {env : Env} {s : Shared} {Q : Value → Shared → Prop}, EnvOk sc env → sc.names.lookup x = some .globalImplicit → C.Gl s.heap → Q f s → wpAny C.M A (loadName env x) Q NoE s
  keep : ∀ h, C.Gl h → ∃ k, (k = Keeper.frame ∨ k = Keeper.machine ∨ k = Keeper.boundFrame) ∧ Looks C.M h (keeperOf f) k

theorem loadName_global {C : Ctx} {A : Around} {sc : Scope} {env : Env} {x : Str} {s : Shared} {Q : Value → Shared → Prop} (hE : EnvOk sc env) (hk : sc.names.lookup x = some .globalImplicit)
    (h : wpAny C.M A (loadGlobal env x) Q NoE s) : wpAny C.M A (loadName env x) Q NoE s := by
  have hk' : env.kindOf x = some .globalImplicit := by unfold Env.kindOf; rw [hE.scope]; exact hk
  unfold loadName
  simp only [Env.blockKind, hE.kind, hk', ScopeKind.isAnnotationScope, Bool.false_and, Bool.false_eq_true, if_false]
  exact h
theorem load_mg {C : Ctx} {A : Around} {sc : Scope} {env : Env} {x : Str} {v : Value} {s : Shared} {Q : Value → Shared → Prop} (hm : C.mg x = some v) (hE : EnvOk sc env) (hk : sc.names.lookup x = some .globalImplicit) (gl : C.Gl s.heap) (hQ : Q v s) :
    wpAny C.M A (loadName env x) Q NoE s := by
  refine loadName_global hE hk ?_
  unfold loadGlobal
  rw [hE.globals]
  refine wpAny_bind (wpAny_nsGet gl.top.g ?_)
  rw [hm]
  exact wpAny_pure hQ
theorem load_mb {C : Ctx} {A : Around} {sc : Scope} {env : Env} {x : Str} {v : Value} {s : Shared} {Q : Value → Shared → Prop} (hm : C.mg x = none) (hb : C.mb x = some v) (hE : EnvOk sc env) (hk : sc.names.lookup x = some .globalImplicit) (gl : C.Gl s.heap) (hQ : Q v s) :
    wpAny C.M A (loadName env x) Q NoE s := by
  refine loadName_global hE hk ?_
  unfold loadGlobal
  rw [hE.globals, hE.builtins]
  refine wpAny_bind (wpAny_nsGet gl.top.g ?_)
  rw [hm]
  refine wpAny_bind (wpAny_nsGet gl.top.b ?_)
  rw [hb]
  exact wpAny_pure hQ
noncomputable def notRef : Value → Bool | .ref _ => false | _ => true
theorem Callee.builtin {C : Ctx} {x : Str} {f : Value} (hm : C.mg x = none) (hb : C.mb x = some f) (hf : notRef f = true) : Callee C x f where
  load := fun hE hk gl hQ => load_mb hm hb hE hk gl hQ
  keep := fun h _ => ⟨.machine, .inr (.inl rfl), by cases f <;> first | exact .now | cases hf⟩
theorem Callee.fn {C : Ctx} {x : Str} {a : Addr} (hm : C.mg x = some (.ref a)) (hf : ∀ h, C.Gl h → ∃ o fd, h.get? a = some o ∧ o.data = .func fd) : Callee C x (.ref a) where
  load := fun hE hk gl hQ => load_mg hm hE hk gl hQ
  keep := fun h g => ⟨.frame, .inl rfl, by
    obtain ⟨o, fd, h1, h2⟩ := hf h g
    unfold keeperOf
    refine (Looks.ld (part := none) h1).andThen ?_
    rw [h2]; exact .now⟩

section
variable {C : Ctx} {sc : Scope} {lay : List Str} {n : Nat}
theorem se_gfloat {x : Str} {pos : Pos} {b : UInt64} {t : Tok} (hm : C.mg x = some (.float b t)) (ht : t ≠ 0) (hk : sc.names.lookup x = some .globalImplicit) (hd : (x == ("__debug__" : Str)) = false) : SE C sc lay n (.Name x pos) (fun _ => some (.float b)) := by
  intro A env X σ s r hA hE hP hd'; cases hd'
  exact wpAny_Name (load_mg hm hE hk hP.gl ⟨Kp.refl' s, t, rfl, ht⟩) hd

theorem callName {A : Around} {env : Env} {s : Shared} {x : Str} {f : Value} {e : Expr} {es : List Expr} {p pos : Pos} {Q : Value → Shared → Prop} (hc : Callee C x f) (hE : EnvOk sc env) (gl : C.Gl s.heap) (hk : sc.names.lookup x = some .globalImplicit) (hd : (x == ("__debug__" : Str)) = false) (hs : notStar e = true)
    (hss : (backTo pos (starEach es env)).any (·.1) = false)
    (h : wpAny C.M A (spliced (backTo pos (starEach (e :: es) env))) (fun vs s1 => C.Gl s1.heap ∧ wpAny C.M A (call f vs) Q NoE s1) NoE s) : wpAny C.M A (eval (.Call (.Name x p) (e :: es) [] pos) env) Q NoE s := by
  show wpAny C.M A (do callWith pos (← eval (.Name x p) env) [] (backTo pos (starEach (e :: es) env)) (backToKw pos (keywordEach [] env))) Q NoE s
  refine wpAny_bind (wpAny_Name (hc.load hE hk gl ?_) hd)
  show wpAny C.M A (callWith pos f [] (backTo pos (starEach (e :: es) env)) []) Q NoE s
  rw [starEach_cons hs] at h ⊢
  exact callWith_of (first := []) (by show ((false || (backTo pos (starEach es env)).any (·.1)) || false) = false; rw [hss]; rfl) hc.keep (evalArgs_plain h)
noncomputable def allNotStar : List Expr → Bool | [] => true | e :: es => notStar e && allNotStar es
theorem noStars {pos : Pos} {env : Env} : ∀ {es : List Expr}, allNotStar es = true → (backTo pos (starEach es env)).any (·.1) = false
  | [], _ => rfl
  | e :: es, h => by
    obtain ⟨h1, h2⟩ := Bool.and_eq_true_iff.mp h
    rw [starEach_cons h1]
    exact (Bool.false_or _).trans (noStars h2)
noncomputable def dCall (spec : List PV → Option PV) (ds : St → Option (List PV)) : St → Option PV := fun σ => (ds σ).bind spec
theorem se_call {x : Str} {f : Value} {e : Expr} {es : List Expr} {p pos : Pos} {ds : St → Option (List PV)} {spec : List PV → Option PV} (hc : Callee C x f) (ho : CallOk C n f spec) (hk : sc.names.lookup x = some .globalImplicit) (hd : (x == ("__debug__" : Str)) = false)
    (hs : allNotStar (e :: es) = true) (h : SEs C sc lay n (e :: es) ds) : SE C sc lay n (.Call (.Name x p) (e :: es) [] pos) (dCall spec ds) := by
  intro A env X σ s r hA hE hP hd'
  obtain ⟨ps, e1, hd'⟩ := bind_some hd'
  obtain ⟨h1, h2⟩ := Bool.and_eq_true_iff.mp hs
  refine callName hc hE hP.gl hk hd h1 (noStars h2) (h.then hA hE hP e1 fun vs s1 k1 r1 p1 => ⟨p1.gl, ?_⟩)
  exact wpAny_mono (ho A X s1 vs ps r hA p1.gl p1.live p1.tok r1 hd') (fun v s' x => ⟨k1.trans' x.1, x.2⟩) fun _ _ x => x
end

/-! builtins -/
section
variable {C : Ctx} {n : Nat}
open PySem.Flt

noncomputable def spLen : List PV → Option PV
  | [.list xs] => if xs.length ≤ 16777216 then some (.int xs.length) else none
  | [.bytes b] => if b.length ≤ 16777216 then some (.int b.length) else none
  | _ => none
theorem ok_len : CallOk C n (.builtin "len") spLen := by
  intro A X s vs ps r hA gl lv tk hr h
  unfold spLen at h
  split at h
  · split at h
    · rename_i xs hl; cases h
      obtain ⟨v, q, rfl, hv, hq⟩ := hr; rw [show q = [] from hq]
      obtain ⟨l, ws, rfl, _, hl1, rl⟩ := hv
      exact call_len_list hl1 (by simp [rl.length]; omega) ⟨Kp.toks .., s.toks + 1, by simp [rl.length]⟩
    · cases h
  · split at h
    · rename_i xs hl; cases h
      obtain ⟨v, q, rfl, hv, hq⟩ := hr; rw [show q = [] from hq]
      obtain ⟨t, rfl⟩ := hv
      exact len_bytes (by simp; omega) ⟨Kp.toks .., s.toks + 1, by simp⟩
    · cases h
  · cases h

noncomputable def spAbs : List PV → Option PV
  | [.int i] => some (.int (if i < 0 then -i else i))
  | _ => none
theorem ok_abs : CallOk C n (.builtin "abs") spAbs := by
  intro A X s vs ps r hA gl lv tk hr h
  unfold spAbs at h
  split at h
  · cases h
    obtain ⟨v, q, rfl, hv, hq⟩ := hr; rw [show q = [] from hq]
    obtain ⟨t, rfl⟩ := hv
    exact call_abs_int fun u k => ⟨Kp.toks .., _, rfl⟩
  · cases h

noncomputable def spRound : List PV → Option PV
  | [.float x] => if Float64.isFinite x = true then some (.int (toInt Float64.nearestOf x)) else none
  | _ => none
theorem fin_not {x : UInt64} (h : Float64.isFinite x = true) : Float64.isNaN x = false ∧ Float64.isInf x = false := by
  unfold Float64.isFinite at h; unfold Float64.isNaN Float64.isInf
  cases e : Float64.decode x <;> rw [e] at h <;> simp_all
theorem ok_round : CallOk C n (.builtin "round") spRound := by
  intro A X s vs ps r hA gl lv tk hr h
  unfold spRound at h
  split at h
  · split at h
    · rename_i x hf; cases h
      obtain ⟨v, q, rfl, hv, hq⟩ := hr; rw [show q = [] from hq]
      obtain ⟨t, rfl, _⟩ := hv
      obtain ⟨f1, f2⟩ := fin_not hf
      exact call_round_float hA.hh (fun c => by rw [f1] at c; cases c) (fun c => by rw [f2] at c; cases c) fun _ => ⟨Kp.toks .., _, rfl⟩
    · cases h
  · cases h

noncomputable def spInt : List PV → Option PV
  | [.float x] => match Float64.decode x with | .fin sg m e => some (.int (Float64.truncOf sg m e)) | _ => none
  | _ => none
theorem ok_int : CallOk C n (.type "int") spInt := by
  intro A X s vs ps r hA gl lv tk hr h
  unfold spInt at h
  split at h
  · split at h
    · rename_i x sg m e hd; cases h
      obtain ⟨v, q, rfl, hv, hq⟩ := hr; rw [show q = [] from hq]
      obtain ⟨t, rfl, _⟩ := hv
      exact call_int_float hd ⟨Kp.toks .., _, rfl⟩
    · cases h
  · cases h

/-- less, of two numbers of one kind -/
noncomputable def pvLt : PV → PV → Option Bool
  | .int a, .int b => some (decide (a < b))
  | .float a, .float b => some (Float64.cmp a b == some .lt)
  | _, _ => none
noncomputable def max2 (a b : PV) : Option PV := (pvLt a b).map fun c => if c then b else a
noncomputable def min2 (a b : PV) : Option PV := (pvLt b a).map fun c => if c then b else a
theorem numV_of {X : Addr → Prop} {h : Heap} {p q : PV} {v u : Value} {c : Bool} (hp : Rep X h p v) (hq : Rep X h q u) (hl : pvLt p q = some c) : NumV v ∧ NumV u ∧ ltV v u = c := by
  unfold pvLt at hl
  split at hl
  · cases hl; obtain ⟨t, rfl⟩ := hp; obtain ⟨t', rfl⟩ := hq
    exact ⟨.int .., .int .., rfl⟩
  · cases hl; obtain ⟨t, rfl, _⟩ := hp; obtain ⟨t', rfl, _⟩ := hq
    exact ⟨.float .., .float .., rfl⟩
  · cases hl
end
end Mine

end
section
open PySem PySem.W PySem.Calls PyProof.Rows
set_option linter.unusedVariables false
namespace Mine
section
variable {C : Ctx} {n : Nat} {A : Around} {X : Addr → Prop} {s : Shared}
open PySem.Flt

theorem push2_old {h h' : Heap} {o1 o2 : Obj} (hsz : (h.push o1).objs.size = h.objs.size + 1) (hk : ∀ b o, b ∉ [(h.push o1).objs.size] → ((h.push o1).push o2).get? b = some o → h'.get? b = some o) : Stays h h' := fun d o e => by
  refine hk d o (fun hm => ?_) (Heap.get?_push_of_some _ (Heap.get?_push_of_some _ e))
  rcases List.mem_cons.mp hm with e1 | hm
  · have := Heap.lt_size e; rw [e1, hsz] at this; exact Nat.lt_irrefl _ (Nat.lt_of_succ_lt this)
  · cases hm

theorem max3_num {a b c : Value} {Q : Value → Shared → Prop} {E : Value → Shared → Prop} (hh : A.handled = none) (ha : NumV a) (hb : NumV b) (hc : NumV c)
    (h : ∀ h' tk, Stays s.heap h' → Q (if ltV a b then (if ltV b c then c else b) else (if ltV a c then c else a)) { s with heap := h', toks := tk }) :
    wpAny C.M A (call (.builtin "max") [a, b, c]) Q E s := by
  have hT : (s.heap.push { cls := .type "tuple", data := .seq #[a, b, c] }).IsTuple s.heap.objs.size #[a, b, c] := ⟨_, Heap.get?_push_size _ rfl, rfl, 0, rfl⟩
  refine call_max_three (wpAny_pyIter_tuple hT ?_)
  have hsz : (s.heap.push { cls := .type "tuple", data := .seq #[a, b, c] }).objs.size = s.heap.objs.size + 1 := Heap.size_push ..
  refine ⟨_, [_, s.heap.objs.size], [_], _, _, _, _, rfl, Walks.tuple (A := A.in1) hh _ s.heap.objs.size (by rw [hsz]; exact Nat.ne_of_lt (Nat.lt_succ_self _)) #[a, b, c],
    ⟨⟨_, Heap.get?_push_size _ rfl, rfl, rfl⟩, hT.push _⟩, fun d hd => ?_, by simp, cmpOf_gt #[a, b, c] (by simp [ha, hb, hc]), fun v h' tk hP hk => ?_⟩
  · show d < ((s.heap.push _).push _).objs.size
    rw [Heap.size_push, hsz]
    rcases List.mem_cons.mp hd with rfl | hd
    · rw [hsz]; exact Nat.lt_succ_self _
    · rcases List.mem_cons.mp hd with rfl | hd
      · exact Nat.lt_succ_of_lt (Nat.lt_succ_self _)
      · cases hd
  · have := h h' tk (push2_old hsz hk)
    have hv : v = (if ltV a b then (if ltV b c then c else b) else (if ltV a c then c else a)) := by
      cases h1 : ltV a b <;> cases h2 : ltV b c <;> cases h3 : ltV a c <;> simp_all [argBest, Array.getD]
    rw [hv]; exact this
theorem min3_num {a b c : Value} {Q : Value → Shared → Prop} {E : Value → Shared → Prop} (hh : A.handled = none) (ha : NumV a) (hb : NumV b) (hc : NumV c)
    (h : ∀ h' tk, Stays s.heap h' → Q (if ltV b a then (if ltV c b then c else b) else (if ltV c a then c else a)) { s with heap := h', toks := tk }) :
    wpAny C.M A (call (.builtin "min") [a, b, c]) Q E s := by
  have hT : (s.heap.push { cls := .type "tuple", data := .seq #[a, b, c] }).IsTuple s.heap.objs.size #[a, b, c] := ⟨_, Heap.get?_push_size _ rfl, rfl, 0, rfl⟩
  refine call_min_three (wpAny_pyIter_tuple hT ?_)
  have hsz : (s.heap.push { cls := .type "tuple", data := .seq #[a, b, c] }).objs.size = s.heap.objs.size + 1 := Heap.size_push ..
  refine ⟨_, [_, s.heap.objs.size], [_], _, _, _, _, rfl, Walks.tuple (A := A.in1) hh _ s.heap.objs.size (by rw [hsz]; exact Nat.ne_of_lt (Nat.lt_succ_self _)) #[a, b, c],
    ⟨⟨_, Heap.get?_push_size _ rfl, rfl, rfl⟩, hT.push _⟩, fun d hd => ?_, by simp, cmpOf_lt #[a, b, c] (by simp [ha, hb, hc]), fun v h' tk hP hk => ?_⟩
  · show d < ((s.heap.push _).push _).objs.size
    rw [Heap.size_push, hsz]
    rcases List.mem_cons.mp hd with rfl | hd
    · rw [hsz]; exact Nat.lt_succ_self _
    · rcases List.mem_cons.mp hd with rfl | hd
      · exact Nat.lt_succ_of_lt (Nat.lt_succ_self _)
      · cases hd
  · have := h h' tk (push2_old hsz hk)
    have hv : v = (if ltV b a then (if ltV c b then c else b) else (if ltV c a then c else a)) := by
      cases h1 : ltV b a <;> cases h2 : ltV c b <;> cases h3 : ltV c a <;> simp_all [argBest, Array.getD]
    rw [hv]; exact this

noncomputable def maxInts : List Int → Option Int
  | [] => none
  | i :: is => some (is.foldl max i)
noncomputable def spMax : List PV → Option PV
  | [a, b] => max2 a b
  | [a, b, c] => (pvLt a b).bind fun x => (pvLt b c).bind fun y => (pvLt a c).bind fun z => some (if x then (if y then c else b) else (if z then c else a))
  | [.list xs] => (pvInts xs).bind fun is => (maxInts is).map .int
  | _ => none
noncomputable def spMin : List PV → Option PV
  | [a, b] => min2 a b
  | [a, b, c] => (pvLt b a).bind fun x => (pvLt c b).bind fun y => (pvLt c a).bind fun z => some (if x then (if y then c else b) else (if z then c else a))
  | _ => none

theorem rep_ite {h : Heap} {p q : PV} {v u : Value} {c : Bool} (hp : Rep X h p v) (hq : Rep X h q u) : Rep X h (if c then p else q) (if c then v else u) := by cases c <;> simp [hp, hq]

/-- the ints of a list of ints -/
theorem repL_intItems {h : Heap} : ∀ {xs : List PV} {vs : List Value} {is : List Int}, RepL X h xs vs → pvInts xs = some is → ∃ ts : List (Int × Tok), vs = ts.map (fun p => Value.int p.1 p.2) ∧ ts.map (·.1) = is
  | [], vs, is, r, hi => by cases hi; exact ⟨[], by rw [show vs = [] from r]; rfl, rfl⟩
  | x :: xs, vs, is, ⟨v, w, e, r1, r2⟩, hi => by
    cases x <;> simp [pvInts] at hi
    obtain ⟨js, h1, rfl⟩ := hi
    obtain ⟨t, rfl⟩ := r1
    obtain ⟨ts, e1, e2⟩ := repL_intItems r2 h1
    exact ⟨(_, t) :: ts, by rw [e, e1]; rfl, by simp [e2]⟩
theorem foldl_max_ge : ∀ (is : List Int) (i : Int), i ≤ is.foldl max i ∧ ∀ j ∈ is, j ≤ is.foldl max i
  | [], i => ⟨Int.le_refl _, by simp⟩
  | k :: is, i => by
    obtain ⟨h1, h2⟩ := foldl_max_ge is (max i k)
    refine ⟨by simp only [List.foldl_cons]; omega, fun j hj => ?_⟩
    simp only [List.foldl_cons]
    rcases List.mem_cons.mp hj with rfl | hj
    · omega
    · exact h2 j hj
theorem foldl_max_mem : ∀ (is : List Int) (i : Int), is.foldl max i ∈ i :: is
  | [], i => by simp
  | k :: is, i => by
    have := foldl_max_mem is (max i k)
    simp only [List.foldl_cons]
    rcases List.mem_cons.mp this with e | e
    · rw [e]
      by_cases q : i ≤ k
      · rw [Int.max_eq_right q]; simp
      · rw [Int.max_eq_left (by omega)]; simp
    · exact List.mem_cons_of_mem _ (List.mem_cons_of_mem _ e)
theorem argBest_ge (val : Nat → Int) : ∀ k j, j ≤ k → val j ≤ val (argBest (fun i j => decide (val i > val j)) k) ∧ argBest (fun i j => decide (val i > val j)) k ≤ k
  | 0, j, h => by simp [argBest, Nat.le_zero.mp h]
  | k + 1, j, h => by
    have ih := argBest_ge val k
    unfold argBest
    by_cases q : val (k + 1) > val (argBest (fun i j => decide (val i > val j)) k)
    · rw [if_pos (by simpa using q)]
      refine ⟨?_, Nat.le_refl _⟩
      rcases Nat.lt_or_ge j (k + 1) with l | l
      · have := (ih j (by omega)).1; omega
      · have : j = k + 1 := by omega
        rw [this]; omega
    · rw [if_neg (by simpa using q)]
      have i2 := (ih k (Nat.le_refl _)).2
      refine ⟨?_, by omega⟩
      rcases Nat.lt_or_ge j (k + 1) with l | l
      · exact (ih j (by omega)).1
      · have : j = k + 1 := by omega
        rw [this]; omega

theorem ok_max : CallOk C n (.builtin "max") spMax := by
  intro A X s vs ps r hA gl lv tk hr h
  unfold spMax at h
  split at h
  · obtain ⟨v1, q, rfl, hv1, v2, q2, rfl, hv2, hq⟩ := hr; rw [show q2 = [] from hq]
    obtain ⟨c, hc, rfl⟩ := Option.map_eq_some_iff.mp h
    obtain ⟨n1, n2, e⟩ := numV_of hv1 hv2 hc
    refine max_two_num hA.hh n1 n2 fun h' k st => ⟨Kp.of k st, ?_⟩
    rw [e]
    exact rep_ite (hv2.stays st) (hv1.stays st)
  · obtain ⟨v1, q, rfl, hv1, v2, q2, rfl, hv2, v3, q3, rfl, hv3, hq⟩ := hr; rw [show q3 = [] from hq]
    obtain ⟨x, hx, h⟩ := bind_some h
    obtain ⟨y, hy, h⟩ := bind_some h
    obtain ⟨z, hz, h⟩ := bind_some h
    cases h
    obtain ⟨n1, n2, e1⟩ := numV_of hv1 hv2 hx
    obtain ⟨_, n3, e2⟩ := numV_of hv2 hv3 hy
    obtain ⟨_, _, e3⟩ := numV_of hv1 hv3 hz
    refine max3_num hA.hh n1 n2 n3 fun h' k st => ⟨Kp.of k st, ?_⟩
    rw [e1, e2, e3]
    exact rep_ite (rep_ite (hv3.stays st) (hv2.stays st)) (rep_ite (hv3.stays st) (hv1.stays st))
  · obtain ⟨v1, q, rfl, hv1, hq⟩ := hr; rw [show q = [] from hq]
    obtain ⟨is, hi, h⟩ := bind_some h
    obtain ⟨m, hm, rfl⟩ := Option.map_eq_some_iff.mp h
    obtain ⟨l, ws, rfl, _, hl, rl⟩ := hv1
    obtain ⟨ts, e1, e2⟩ := repL_intItems rl hi
    cases is with
    | nil => cases hm
    | cons i0 is =>
      cases hm
      have hl' : s.heap.IsList l (intItems ts.toArray) := by unfold intItems; simpa [e1] using hl
      have hlen : 0 < ts.toArray.size := by
        have : ts ≠ [] := by intro q; rw [q] at e2; cases e2
        simp; exact List.length_pos_iff.mpr this
      refine max_intList hA.hh hl' hlen fun v h' k hv st => ⟨Kp.of k st, ?_⟩
      obtain ⟨t, rfl⟩ := intItems_at hv
      refine ⟨t, ?_⟩
      congr 1
      have hnum : ∀ j, j < ts.length → numAt ts.toArray j = (i0 :: is)[j]?.getD 0 := fun j hj => by
        unfold numAt; rw [← e2]; simp [hj]
      have hb := argBest_ge (numAt ts.toArray) (ts.toArray.size - 1)
      generalize hbb : argBest (fun i j => decide (numAt ts.toArray i > numAt ts.toArray j)) (ts.toArray.size - 1) = b at hb ⊢
      have hlen2 : ts.length = is.length + 1 := by have := congrArg List.length e2; simpa using this
      have hbl : b < ts.length := by have := (hb 0 (Nat.zero_le _)).2; simp at this hlen; omega
      apply Int.le_antisymm
      · rw [hnum b hbl]
        have hmem : (i0 :: is)[b]?.getD 0 ∈ i0 :: is := by
          have : b < (i0 :: is).length := by simp; omega
          rw [List.getElem?_eq_getElem this]; exact List.getElem_mem this
        rcases List.mem_cons.mp hmem with e | e
        · rw [e]; exact (foldl_max_ge is i0).1
        · exact (foldl_max_ge is i0).2 _ e
      · obtain ⟨j, hj, e⟩ := List.mem_iff_getElem.mp (foldl_max_mem is i0)
        rw [← e]
        have hj' : j < ts.length := by simp at hj; omega
        have := (hb j (by simp; omega)).1
        rw [hnum j hj', List.getElem?_eq_getElem hj] at this
        simpa using this
  · cases h
theorem ok_min : CallOk C n (.builtin "min") spMin := by
  intro A X s vs ps r hA gl lv tk hr h
  unfold spMin at h
  split at h
  · obtain ⟨v1, q, rfl, hv1, v2, q2, rfl, hv2, hq⟩ := hr; rw [show q2 = [] from hq]
    obtain ⟨c, hc, rfl⟩ := Option.map_eq_some_iff.mp h
    obtain ⟨n2, n1, e⟩ := numV_of hv2 hv1 hc
    refine min_two_num hA.hh n1 n2 fun h' k st => ⟨Kp.of k st, ?_⟩
    rw [e]
    exact rep_ite (hv2.stays st) (hv1.stays st)
  · obtain ⟨v1, q, rfl, hv1, v2, q2, rfl, hv2, v3, q3, rfl, hv3, hq⟩ := hr; rw [show q3 = [] from hq]
    obtain ⟨x, hx, h⟩ := bind_some h
    obtain ⟨y, hy, h⟩ := bind_some h
    obtain ⟨z, hz, h⟩ := bind_some h
    cases h
    obtain ⟨n2, n1, e1⟩ := numV_of hv2 hv1 hx
    obtain ⟨n3, _, e2⟩ := numV_of hv3 hv2 hy
    obtain ⟨_, _, e3⟩ := numV_of hv3 hv1 hz
    refine min3_num hA.hh n1 n2 n3 fun h' k st => ⟨Kp.of k st, ?_⟩
    rw [e1, e2, e3]
    exact rep_ite (rep_ite (hv3.stays st) (hv2.stays st)) (rep_ite (hv3.stays st) (hv1.stays st))
  · cases h

noncomputable def spRange : List PV → Option PV
  | [.int b] => some (.range 0 b 1)
  | [.int a, .int b] => some (.range a b 1)
  | [.int a, .int b, .int c] => if c ≠ 0 ∧ c.natAbs < 1073741824 then some (.range a b c) else none
  | _ => none
theorem ok_range : CallOk C n (.type "range") spRange := by
  intro A X s vs ps r hA gl lv tk hr h
  unfold spRange at h
  split at h
  · cases h
    obtain ⟨v1, q, rfl, ⟨t, rfl⟩, hq⟩ := hr; rw [show q = [] from hq]
    exact call_range_1 ⟨Kp.of _ (stays_push _ _), _, _, _, _, rfl, lv.fresh (size_none _), IsRange.new ..⟩
  · cases h
    obtain ⟨v1, q, rfl, ⟨t, rfl⟩, v2, q2, rfl, ⟨u, rfl⟩, hq⟩ := hr; rw [show q2 = [] from hq]
    exact call_range_2 ⟨Kp.of _ (stays_push _ _), _, _, _, _, rfl, lv.fresh (size_none _), IsRange.new ..⟩
  · split at h
    · rename_i hc; cases h
      obtain ⟨v1, q, rfl, ⟨t, rfl⟩, v2, q2, rfl, ⟨u, rfl⟩, v3, q3, rfl, ⟨z, rfl⟩, hq⟩ := hr; rw [show q3 = [] from hq]
      exact call_range_3 hc.1 ⟨Kp.of _ (stays_push _ _), _, _, _, _, rfl, lv.fresh (size_none _), IsRange.new ..⟩ (.inl (PyProof.noPylong_small hc.2))
    · cases h
  · cases h

noncomputable def byteOk (i : Int) : Bool := decide (0 ≤ i ∧ i < 256)
noncomputable def spBytes : List PV → Option PV
  | [.list xs] => (pvInts xs).bind fun is => if is.all byteOk = true ∧ is.length ≤ 16777216 then some (.bytes (is.map fun i => i.toNat.toUInt8)) else none
  | _ => none
theorem intsAre_of {h : Heap} : ∀ {xs : List PV} {vs : List Value} {is : List Int}, RepL X h xs vs → pvInts xs = some is → IntsAre vs is
  | [], vs, is, r, hi => by cases hi; rw [show vs = [] from r]; exact .nil
  | x :: xs, vs, is, ⟨v, w, e, r1, r2⟩, hi => by
    cases x <;> simp [pvInts] at hi
    obtain ⟨js, h1, rfl⟩ := hi
    obtain ⟨t, rfl⟩ := r1
    rw [e]; exact .cons _ _ (intsAre_of r2 h1)
theorem ok_bytes_list : CallOk C n (.type "bytes") spBytes := by
  intro A X s vs ps r hA gl lv tk hr h
  unfold spBytes at h
  split at h
  · obtain ⟨v1, q, rfl, hv1, hq⟩ := hr; rw [show q = [] from hq]
    obtain ⟨is, hi, h⟩ := bind_some h
    split at h
    · rename_i hc; cases h
      obtain ⟨l, ws, rfl, _, hl, rl⟩ := hv1
      have hia := intsAre_of rl hi
      refine call_bytes_ints hl hia (fun n hn => ?_) (by rw [hia.length, sizeLine_eq]; exact hc.2) hA.hh fun h' t k st => ⟨Kp.of k st, t, ?_⟩
      · have := List.all_eq_true.mp hc.1 n hn
        simpa [byteOk] using this
      · simp [byteArr]
    · cases h
  · cases h
end
end Mine

end
section
open PySem PySem.W PySem.Calls PyProof.Rows
set_option linter.unusedVariables false
set_option maxRecDepth 100000
namespace Mine
section
variable {C : Ctx} {n : Nat} {A : Around} {X : Addr → Prop} {s : Shared}

abbrev ByteAt (b : Array UInt8) : Nat → Value → Prop := fun i v => ∃ c u, b[i]? = some c ∧ v = Value.int (c.toNat : Int) u

theorem extend_bytes {prog : Program} {w : World} {R : Result → Shared → Prop} (hh : A.handled = none) (b : Array UInt8) (t : Tok) (S : Addr) (res : Value) (c₀ : Nat) (hS : s.heap.get? S = some { cls := .type "list", data := .seq #[] c₀ })
    (hR : ∀ h' tk acc' c', (∀ d o, d ≠ S → s.heap.get? d = some o → h'.get? d = some o) → h'.get? S = some { cls := .type "list", dict := none, data := .seq acc' c', slots := #[] } →
      ItemsOf (ByteAt b) acc' b.size → R (.ok (.ret res)) { s with heap := h', toks := tk }) (hn : b.size ≤ sizeLine) :
    wpAny (model prog w) A.in1 (Builtin.List.listExtendWith (.ref S) (.bytes b t) res)
      (fun fin s' => match fin with | .done f => R (.ok f) s' | .again c' => c'.quiet = true ∧ codeAny (model prog w) A c' R s') (fun e s' => R (.error e) s') s := by
  have hSI : S ≠ s.heap.objs.size := Nat.ne_of_lt (Heap.lt_size hS)
  have hSf : S ∉ [s.heap.objs.size] := fun hm => hSI (List.mem_singleton.mp hm)
  unfold Builtin.List.listExtendWith
  refine wpAny_bind (wpAny_typeOf (typeIs_bytes _ b t) ?_)
  have h1 : Builtin.List.listSameRef (.ref S) (.bytes b t) = false := rfl
  have h2 : (Value.type "bytes" == Value.type "list") = false := by decide
  have h3 : (Value.type "bytes" == Value.type "tuple") = false := by decide
  simp only [h1, h2, h3, Bool.or_false, Bool.false_eq_true, if_false]
  refine wpAny_bind (KBw.pyIter_bytes ?_)
  refine wpAny_bind (wpAny_holding ?_)
  unfold Builtin.List.listLengthHint
  refine wpAny_bind (wpAny_specialOf (typeIs_bytes _ b t) FB.slot_bytes_len.lookup ?_)
  dsimp only
  rw [show splitId "bytes.__len__" = some ("bytes", "__len__") from by decide +kernel]
  dsimp only
  refine wpAny_bind (wpAny_isInstance (typeIs_bytes _ b t) F.sub_bytes_bytes ?_)
  simp only [Bool.not_true, Bool.false_eq_true, if_false]
  refine wpAny_ite ?_
  rw [if_pos (by decide +kernel)]
  refine wpAny_bind (wpAny_typeOf (typeIs_bytes _ b t) ?_)
  refine wpAny_pure ?_
  rw [if_neg (by decide)]
  refine wpAny_pure ⟨plainId_quiet F.plain_extend_loop _, codeAny_extend_loopS (KBw.walks (prog := prog) (w := w) (A := A.in1) hh s.heap.objs.size b t).toS hn _ hSf _ b.size 0 _ _ _ rfl (Nat.zero_le _) ⟨_, Heap.get?_push_size _ rfl, rfl, rfl⟩ (Heap.get?_push_of_some _ hS) (ItemsOf.nil _) fun s' acc' c' hm hS' hacc => ?_⟩
  rw [Moved.eq_with hm]
  refine hR s'.heap s'.toks acc' c' (fun d ob hb e => hm.heap d ob (fun hmem => ?_) (Heap.get?_push_of_some _ e)) hS' hacc
  rcases List.mem_cons.mp hmem with e' | hmem
  · exact hb e'
  · exact absurd (Heap.lt_size e) (by rw [List.mem_singleton.mp hmem]; exact Nat.lt_irrefl _)

theorem init_bytes {prog : Program} {w : World} {R : Result → Shared → Prop} (hh : A.handled = none) (b : Array UInt8) (t : Tok) (S : Addr) (hS : s.heap.get? S = some { cls := .type "list", data := .seq #[] })
    (hR : ∀ h' tk acc' c', (∀ d o, d ≠ S → s.heap.get? d = some o → h'.get? d = some o) → h'.get? S = some { cls := .type "list", dict := none, data := .seq acc' c', slots := #[] } →
      ItemsOf (ByteAt b) acc' b.size → R (.ok (.ret .none)) { s with heap := h', toks := tk }) (hn : b.size ≤ sizeLine) :
    wpAny (model prog w) A.in1 (Builtin.«list.__init__» ⟨[.ref S, .bytes b t], []⟩)
      (fun fin s' => match fin with | .done f => R (.ok f) s' | .again c' => c'.quiet = true ∧ codeAny (model prog w) A c' R s') (fun e s' => R (.error e) s') s := by
  show wpAny _ _ (do let old ← Builtin.List.listItems (.ref S); Builtin.List.listUpdate (.ref S) (fun _ => #[]); letGo old.toList.reverse; Builtin.List.listExtendWith (.ref S) (.bytes b t) .none) _ _ s
  refine wpAny_bind ?_
  unfold Builtin.List.listItems
  refine wpAny_bind (wpAny_seqItems hS rfl (wpAny_pure ?_))
  show wpAny _ _ (updateSeq S (fun _ => #[]) >>= fun _ => letGo (#[] : Array Value).toList.reverse >>= fun _ => Builtin.List.listExtendWith (.ref S) (.bytes b t) .none) _ _ s
  refine wpAny_bind (wpAny_updateSeq hS rfl ?_)
  have hS₂ := Heap.get?_update_self (Obj.mapSeq (fun _ => (#[] : Array Value))) hS rfl
  refine wpAny_bind (wpAny_letGo ?_)
  refine extend_bytes (hn := hn) hh b t S .none _ hS₂ fun h' tk acc' c' hk hS' hacc => ?_
  exact hR h' tk acc' c' (fun d o hb e => hk d o hb ((Heap.get?_update_other _ _ (Ne.symm hb)).trans e)) hS' hacc

noncomputable def byteInts (b : List UInt8) : List PV := b.map fun c => PV.int (c.toNat : Int)
noncomputable def spList : List PV → Option PV
  | [.bytes b] => if b.length ≤ 16777216 then some (.list (byteInts b)) else none
  | _ => none
theorem repL_bytes {h : Heap} : ∀ (b : List UInt8) (vs : List Value), vs.length = b.length → (∀ (j : Nat) (v : Value), vs[j]? = some v → ∃ (c : UInt8) (u : Tok), b[j]? = some c ∧ v = Value.int (c.toNat : Int) u) → RepL X h (byteInts b) vs
  | [], [], _, _ => rfl
  | c :: b, v :: vs, hl, hv => by
    obtain ⟨c', u, e1, e2⟩ := hv 0 v rfl
    cases e1
    exact .cons ⟨u, e2⟩ (repL_bytes b vs (by simpa using hl) fun j w e => by simpa using hv (j + 1) w (by simpa using e))
  | [], _ :: _, hl, _ => by simp at hl
  | _ :: _, [], hl, _ => by simp at hl
theorem ok_list_bytes : CallOk C n (.type "list") spList := by
  intro A X s vs ps r hA gl lv tk hr h
  unfold spList at h
  split at h
  · split at h
    · rename_i b hl; cases h
      obtain ⟨v1, q, rfl, ⟨t, rfl⟩, hq⟩ := hr; rw [show q = [] from hq]
      refine callType_codes (Q₁ := fun obj s₁ => obj = .ref s.heap.objs.size ∧ s₁ = { s with heap := s.heap.push { cls := .type "list", data := .seq #[] } }) F.called_list (F.typeCall_list_1 _) F.entry_list_init
        (code_list_new _ ⟨rfl, rfl⟩) fun obj s₁ h₁ => ?_
      obtain ⟨rfl, rfl⟩ := h₁
      have hS : (s.heap.push { cls := .type "list", data := .seq #[] }).get? s.heap.objs.size = some { cls := .type "list", data := .seq #[] } := Heap.get?_push_size _ rfl
      refine ⟨⟨_, hS, rfl⟩, F.args_list_init_2 _ _, init_bytes (A := A.in1) (hn := by simpa [sizeLine_eq] using hl) hA.hh b.toArray t _ hS fun h' tk acc' c' hk hS' hacc => ?_⟩
      have st : Stays s.heap h' := fun d o e => hk d o (Nat.ne_of_lt (Heap.lt_size e)) (Heap.get?_push_of_some _ e)
      refine ⟨rfl, Kp.of tk st, s.heap.objs.size, acc'.toList, rfl, lv.fresh (size_none _), ⟨_, hS', rfl, c', by simp⟩, ?_⟩
      refine repL_bytes b acc'.toList (by simpa using hacc.1) fun j v e => ?_
      obtain ⟨c, u, h1, h2⟩ := hacc.2 j v (by simpa using e)
      exact ⟨c, u, by simpa using h1, h2⟩
    · cases h
  · cases h
end
end Mine

end
section
open PySem PySem.W PySem.Calls PyProof.Rows
set_option linter.unusedVariables false
set_option maxRecDepth 100000
namespace Mine
open PySem.Sem (wp)

/-- codes that hold a bytearray -/
noncomputable def holdIds : List String := ["bytearray.__contains__", "bytearray.__mod__", "bytearray.__rmod__", "_struct.pack_into.held", "bytearray.find.held"] ++ Builtin.Bytes.decodersThatHold
noncomputable def holdsB : Code → Bool
  | .builtin id _ => holdIds.contains id
  | _ => false
noncomputable def OkG (Γ : PySem.Ctx) : Prop := holdsB Γ.code = false ∧ ∀ c ∈ Γ.below, holdsB c.1 = false

structure GOk (G : PySem.Ctx → Prop) : Prop where
  goto : ∀ Γ c, G Γ → holdsB c = false → G (Γ.goto c)
  enter : ∀ Γ c h p, G Γ → holdsB c = false → G (Γ.enter c h p)
theorem gok_true : GOk fun _ => True := ⟨fun _ _ _ _ => trivial, fun _ _ _ _ _ _ => trivial⟩
theorem gok_ok : GOk OkG := ⟨fun Γ c h hc => ⟨hc, h.2⟩, fun Γ c h p g hc => ⟨hc, fun x hx => by
  rcases List.mem_cons.mp hx with rfl | hx
  · exact g.1
  · exact g.2 x hx⟩⟩

variable {G : PySem.Ctx → Prop}
noncomputable def wpG {α : Type} (G : PySem.Ctx → Prop) (M : Model) (A : Around) (t : Sem α) (Q : α → Shared → Prop) (E : Value → Shared → Prop) (s : Shared) : Prop :=
  ∀ Γ p, Γ.In A → G Γ → wp M Γ t (fun a _ s' => Q a s') (fun e _ s' => E e s') p s
noncomputable def codeG (G : PySem.Ctx → Prop) (M : Model) (A : Around) (c : Code) (R : Result → Shared → Prop) (s : Shared) : Prop :=
  ∀ Γ p, Γ.code = c → Γ.Below A → G Γ → wpCode M Γ R p s

section
variable {α β : Type} {M : Model} {A : Around} {E : Value → Shared → Prop} {s : Shared}
theorem wpG_of {t : Sem α} {Q : α → Shared → Prop} (h : wpAny M A t Q E s) : wpG G M A t Q E s := fun Γ p hΓ _ => h Γ p hΓ
theorem wpG_true {t : Sem α} {Q : α → Shared → Prop} (h : wpG (fun _ => True) M A t Q E s) : wpAny M A t Q E s := fun Γ p hΓ => h Γ p hΓ trivial
theorem wpG_pure {a : α} {Q : α → Shared → Prop} (h : Q a s) : wpG G M A (pure a) Q E s := fun _ _ _ _ => h
theorem wpG_mono {t : Sem α} {Q Q' : α → Shared → Prop} {E' : Value → Shared → Prop} (h : wpG G M A t Q E s) (hQ : ∀ a s, Q a s → Q' a s) (hE : ∀ e s, E e s → E' e s) : wpG G M A t Q' E' s :=
  fun Γ p hΓ g => Sem.wp_mono M Γ t (fun a _ s => hQ a s) (fun e _ s => hE e s) p s (h Γ p hΓ g)
theorem wpG_bind {m : Sem α} {f : α → Sem β} {Q : β → Shared → Prop} (h : wpG G M A m (fun a s' => wpG G M A (f a) Q E s') E s) : wpG G M A (m >>= f) Q E s := fun Γ p hΓ g => by
  rw [Sem.wp_bind']
  exact Sem.wp_mono M Γ m (fun a p' s' h' => h' Γ p' hΓ g) (fun _ _ _ h' => h') p s (h Γ p hΓ g)
theorem wpG_bindA {m : Sem α} {f : α → Sem β} {Q : β → Shared → Prop} (h : wpAny M A m (fun a s' => wpG G M A (f a) Q E s') E s) : wpG G M A (m >>= f) Q E s := wpG_bind (wpG_of h)
theorem wpG_onRaise {m : Sem α} {k : Value → Sem Unit} {Q : α → Shared → Prop} (h : wpG G M A m Q NoE s) : wpG G M A (m.onRaise k) Q E s := fun Γ p hΓ g => by
  rw [Sem.wp_onRaise]
  exact Sem.wp_mono M Γ m (fun _ _ _ h' => h') (fun e p' s' h' => h'.elim) p s (h Γ p hΓ g)
theorem wpG_holding {vs : List Value} {m : Sem α} {Q : α → Shared → Prop} (h : wpG G M A m Q E s) : wpG G M A (holding vs m) Q E s :=
  fun Γ p hΓ g => by rw [Sem.wp_holding]; exact h Γ p hΓ g
theorem wpG_keep {vs : List Value} {m : Sem α} {Q : α → Shared → Prop} (h : wpG G M A m Q E s) : wpG G M A (m.keep vs) Q E s :=
  fun Γ p hΓ g => by rw [Sem.wp_keep]; exact h Γ p hΓ g
theorem wpG_standAt {pos : Pos} {Q : Unit → Shared → Prop} (h : Q () s) : wpG G M A (standAt pos) Q E s := wpG_of (wpAny_standAt h)
theorem wpG_noE {t : Sem α} {Q : α → Shared → Prop} (h : wpG G M A t Q NoE s) : wpG G M A t Q E s := wpG_mono h (fun _ _ x => x) fun _ _ x => x.elim

theorem wpG_run (hG : GOk G) {c : Code} {h : Option Value} {Q : Flow → Shared → Prop} (hb : holdsB c = false)
    (hc : codeG G M (A.mark h) c (fun r s' => match r with | .ok f => Q f s' | .error e => E e s') s) (hnb : h ≠ some byPass := by intro x; cases x) : wpG G M A (run c h) Q E s :=
  fun Γ p hΓ g => by rw [Sem.wp_run]; exact hc _ p rfl (hΓ.enter c h p hnb) (hG.enter Γ c h p g hb)
theorem wpG_runValue (hG : GOk G) {c : Code} {Q : Value → Shared → Prop} (hb : holdsB c = false)
    (hc : codeG G M A c (fun r s' => match r with | .ok (.ret v) => Q v s' | .ok _ => False | .error e => E e s') s) : wpG G M A (runValue c) Q E s :=
  fun Γ p hΓ g => by rw [Sem.wp_runValue]; exact hc _ p rfl (hΓ.enter c none p (by intro x; cases x)) (hG.enter Γ c none p g hb)
theorem wpG_call (hG : GOk G) {f : Value} {pos : List Value} {kw : List (Str × Value)} {Q : Value → Shared → Prop}
    (hc : codeG G M A (.call f ⟨pos, kw⟩) (fun r s' => match r with | .ok (.ret v) => Q v s' | .ok _ => False | .error e => E e s') s) : wpG G M A (call f pos kw) Q E s := wpG_runValue hG rfl hc
theorem codeG_mono {c : Code} {R R' : Result → Shared → Prop} (h : codeG G M A c R s) (hR : ∀ r s, R r s → R' r s) : codeG G M A c R' s := fun Γ p hc hΓ g => wpCode_mono hR (h Γ p hc hΓ g)
theorem codeG_of_tree (hG : GOk G) {c : Code} {R : Result → Shared → Prop}
    (h : wpG G M (A.under c) (M.den c) (fun fin s' => match fin with | .done f => R (.ok f) s' | .again c' => c'.quiet = true ∧ holdsB c' = false ∧ codeG G M A c' R s') (fun e s' => R (.error e) s') s) : codeG G M A c R s := fun Γ p hc hΓ g => by
  rw [wpCode_iff_wp, hc]
  refine Sem.wp_mono M Γ _ (fun fin p' s' h' => ?_) (fun _ _ _ h' => h') p s (h Γ p (hc ▸ hΓ.in) g)
  cases fin with
  | done f => exact h'
  | again c' => exact ⟨h'.1, h'.2.2 (Γ.goto c') p' rfl (hΓ.goto c') (hG.goto Γ c' g h'.2.1)⟩
theorem codeG_loop (hG : GOk G) {c : Code} {R : Result → Shared → Prop} (hq : c.quiet = true) (hb : holdsB c = false) (I : Nat → Shared → Prop)
    (turn : ∀ n s, I n s → wpG G M (A.under c) (M.den c)
      (fun fin s' => match fin with
        | .done f => R (.ok f) s'
        | .again c' => (c' = c ∧ ∃ m, m < n ∧ I m s') ∨ (c'.quiet = true ∧ holdsB c' = false ∧ codeG G M A c' R s')) (fun e s' => R (.error e) s') s)
    (n : Nat) (h : I n s) : codeG G M A c R s := by
  induction n using Nat.strongRecOn generalizing s with
  | ind n ih =>
    refine codeG_of_tree hG (wpG_mono (turn n s h) (fun fin s' hf => ?_) fun _ _ h' => h')
    cases fin with
    | done f => exact hf
    | again c' =>
      rcases hf with ⟨rfl, m, hm, hI⟩ | hf
      · exact ⟨hq, hb, ih m hm hI⟩
      · exact hf
end

section
variable {prog : Program} {w : World} {A : Around} {E : Value → Shared → Prop} {R : Result → Shared → Prop} {s : Shared} {env : Env}
theorem wpG_execs_nil {Q : Flow → Shared → Prop} (h : Q .next s) : wpG G (model prog w) A (execs [] env) Q E s := wpG_of (wpAny_execs_nil h)
theorem wpG_execs_cons {st : Stmt} {rest : List Stmt} {Q : Flow → Shared → Prop}
    (h : wpG G (model prog w) A (exec st env) (fun f s' => match f with | .next => wpG G (model prog w) A (execs rest env) Q E s' | f => Q f s') E s) : wpG G (model prog w) A (execs (st :: rest) env) Q E s := by
  rw [execs_cons]
  refine wpG_bind (wpG_mono h (fun f s' h' => ?_) fun _ _ x => x)
  cases f <;> first | exact h' | exact wpG_pure h'
theorem wpG_If {test : Expr} {body orelse : List Stmt} {pos : Pos} {Q : Flow → Shared → Prop}
    (h : wpAny (model prog w) A (isTrue test env (eval test env)) (fun b s₂ => if b then wpG G (model prog w) A (execs body env) Q E s₂ else wpG G (model prog w) A (execs orelse env) Q E s₂) E s) :
    wpG G (model prog w) A (exec (.If test body orelse pos) env) Q E s := by
  rw [exec_If]
  refine wpG_bind (wpG_standAt (wpG_bindA (wpAny_mono h (fun b s' h' => ?_) fun _ _ x => x)))
  cases b <;> exact h'
theorem codeG_func (hG : GOk G) {body : List Stmt}
    (h : wpG G (model prog w) (A.deeper env) (execs body env) (fun f s' => R (.ok (.ret (match f with | .ret v => v | _ => .none))) s') NoE s) : codeG G (model prog w) A (.func body env) R s := by
  refine codeG_of_tree hG ?_
  show wpG G _ (A.deeper env) (do point; match ← (execs body env).onRaise (leaving env) with | .ret v => ret v | _ => ret .none) _ _ s
  refine wpG_bind (wpG_of (wpAny_point (wpG_bind (wpG_onRaise (wpG_mono h (fun f s' h' => ?_) fun _ _ h' => h')))))
  cases f <;> exact wpG_pure h'
theorem codeG_block (hG : GOk G) {stmts : List Stmt} (h : wpG G (model prog w) A (execs stmts env) (fun f s' => R (.ok f) s') NoE s) : codeG G (model prog w) A (.block stmts env) R s := by
  refine codeG_of_tree hG ?_
  show wpG G _ _ (do return Fin.done (← (execs stmts env).onRaise (fun x => do noteFrame x env; theTreesLotGoes x))) _ _ s
  exact wpG_bind (wpG_onRaise (wpG_mono h (fun f s' h' => wpG_pure h') fun _ _ h' => h'))
theorem codeG_call_function (hG : GOk G) {a : Addr} {args : Args} {o : Obj} {fd : FuncData} {body : List Stmt} (hroom : A.depth < recursionLimit)
    (ho : s.heap.get? a = some o) (hd' : o.data = .func fd) (hco : fd.scope.isCoroutine = false) (hgen : fd.scope.isGenerator = false) (hbody : fd.body = .stmts body) (hcd : s.heap.CodeRec fd.code fd.qualname)
    (h : wpAny (model prog w) A.in1 (bindArgs fd args) (fun binds s₁ =>
      wpAny (model prog w) A.in1 (newFunctionEnv fd.scope fd.globals fd.closure binds (fd.qualname ++ ".<locals>.") (some a) fd.code none fd.builtins)
        (fun env s₂ => s₂.heap.NoLimit ∧ codeG G (model prog w) A (.func body env) R s₂) NoE s₁) NoE s) :
    codeG G (model prog w) A (.call (.ref a) args) R s := by
  refine codeG_of_tree hG (wpG_noE ?_)
  show wpG G _ A.in1 (callAny (.ref a) args) _ _ s
  simp only [callAny]
  refine wpG_bindA (wpAny_load ho ?_)
  obtain ⟨c, oc, vs, tq, hc, hoc, hdc, hq⟩ := hcd
  simp only [hd', callFunction, hco, hgen, hbody, hc]
  rw [hc] at h
  refine wpG_bindA (m := field (.ref c) 1) (wpAny_field hoc hdc hq (wpG_bindA (wpAny_pure ?_)))
  exact wpG_bindA (wpAny_mono h (fun binds s₁ h₁ => wpG_bindA (wpAny_mono h₁ (fun env s₂ h₂ => wpG_bindA (wpAny_enterFrame h₂.1 hroom
    (wpG_pure (And.intro rfl (And.intro rfl h₂.2))))) fun _ _ h' => h')) fun _ _ h' => h')
theorem callG_cells (hG : GOk G) {name : Str} {params : Arguments} {body : List Stmt} {scope : Scope} {pm cd doc : Value} {a : Addr} {o : Obj} {args : List Value} {binds : List (Str × Value)}
    (hroom : A.depth < recursionLimit) (ho : s.heap.get? a = some o) (hdata : o.data = .func (Calls.docDef name params body scope pm cd doc)) (hlim : s.heap.NoLimit) (hcd : s.heap.CodeRec cd name)
    (hbind : bindArgs (Calls.docDef name params body scope pm cd doc) ⟨args, []⟩ = pure binds)
    (hkind : ∀ x ∈ binds, scope.names.lookup x.1 = some .local ∨ (scope.names.lookup x.1 = some .cell ∧ ((cellsFrom (s.heap.objs.size + 1) scope.names []).lookup x.1).isSome = true))
    (h : ∀ h₁ tk, Fr s.heap s.heap.objs.size h₁ (bindL (envOfC name scope s.heap.objs.size a cd).kindOf binds fun _ => none) →
      Cl s.heap.objs.size (cellsFrom (s.heap.objs.size + 1) scope.names []) h₁ (bindC (envOfC name scope s.heap.objs.size a cd).kindOf binds fun _ => none) → s.toks ≤ tk →
      wpG G (model prog w) (A.deeper (envOfC name scope s.heap.objs.size a cd)) (execs body (envOfC name scope s.heap.objs.size a cd))
        (fun f s' => R (.ok (.ret (match f with | .ret v => v | _ => .none))) s') NoE { s with heap := h₁, toks := tk })
    (hco : scope.isCoroutine = false) (hgen : scope.isGenerator = false) (hk : scope.kind = .function) :
    codeG G (model prog w) A (.call (.ref a) ⟨args, []⟩) R s := by
  refine codeG_call_function hG (fd := Calls.docDef name params body scope pm cd doc) hroom ho hdata hco hgen rfl hcd ?_
  rw [hbind]
  refine wpAny_pure (wpAny_mono (wpAny_toks (wpAny_newFunctionEnv_cells (Q := fun env s' => env = envOfC name scope s.heap.objs.size a cd ∧ InCallC s env.locals (bindL env.kindOf binds fun _ => none) env.cells (bindC env.kindOf binds fun _ => none) s') (E := NoE) hk hkind fun env he s' x => ⟨he, x⟩)) (fun env s' x => ?_) fun _ _ x => x.2)
  obtain ⟨tk, rfl, x⟩ := x
  refine ⟨hlim.keeps x.toInCall.keep, codeG_func hG ?_⟩
  obtain ⟨h₁, tk', rfl, _⟩ := x.done
  exact h h₁ tk' ⟨x.toInCall.ns, x.toInCall.keep, x.toInCall.fresh⟩ ⟨x.cell, x.apart, x.above⟩ tk

theorem codeG_forLoop (hG : GOk G) {target : Expr} {it : Value} {body : List Stmt} (I : Nat → Shared → Prop)
    (turn : ∀ n s, I n s → wpAny (model prog w) A (pyNext it) (fun r s₁ => match r with
      | none => R (.ok .next) s₁
      | some v => wpAny (model prog w) A (letOwnedTupleGo target it v) (fun _ s₁' =>
          wpAny (model prog w) A (assign target env v) (fun _ s₂ => wpG G (model prog w) A (execs body env) (fun f s₃ => match f with
            | .next | .cont => ∃ m, m < n ∧ I m s₃
            | .brk => R (.ok .next) s₃
            | .ret v => R (.ok (.ret v)) s₃) NoE s₂) NoE s₁') NoE s₁) NoE s)
    (n : Nat) (h : I n s) : codeG G (model prog w) A (.forLoop target it body [] env) R s := by
  refine codeG_loop hG rfl rfl I (fun n s hI => ?_) n h
  show wpG G _ A ((forTurn target it body [] env).onRaise (fun x => do noteFrame x env; theTreesLotGoes x)) _ _ s
  refine wpG_onRaise ?_
  simp only [forTurn]
  refine wpG_bindA (wpAny_standAt (wpG_bindA (wpAny_onRaise (wpAny_mono (turn n s hI) (fun r s₁ h₁ => ?_) fun _ _ h' => h'.elim))))
  cases r with
  | none => exact wpG_pure (.inr ⟨rfl, rfl, codeG_block hG (wpG_execs_nil h₁)⟩)
  | some v =>
    refine wpG_bindA (wpAny_mono h₁ (fun _ s₁' h₁' => ?_) fun _ _ h' => h')
    refine wpG_bindA (wpAny_mono h₁' (fun _ s₂ h₂ => wpG_bind (wpG_mono h₂ (fun f s₃ h₃ => ?_) fun _ _ h' => h')) fun _ _ h' => h')
    cases f with
    | next => exact wpG_pure (.inl ⟨rfl, h₃⟩)
    | cont => exact wpG_pure (.inl ⟨rfl, h₃⟩)
    | brk => exact wpG_pure h₃
    | ret v => exact wpG_pure h₃
theorem wpG_runOwn (hG : GOk G) {c : Code} {Q : Flow → Shared → Prop} (hb : holdsB c = false) (hc : codeG G (model prog w) A c (fun r s' => match r with | .ok f => Q f s' | .error e => False) s) : wpG G (model prog w) A (runOwn c env none) Q E s := by
  unfold runOwn
  refine wpG_onRaise (wpG_run hG hb ?_)
  have : A.mark none = A := by unfold Around.mark; cases A; simp
  rw [this]
  refine codeG_mono hc fun r s' x => ?_
  cases r with
  | ok f => exact x
  | error e => exact x
theorem wpG_For (hG : GOk G) {target iter : Expr} {body : List Stmt} {pos : Pos} {Q : Flow → Shared → Prop}
    (h : wpAny (model prog w) A (eval iter env) (fun x s₁ => wpAny (model prog w) A (pyIter x) (fun it s₂ =>
      codeG G (model prog w) A (.forLoop target it body [] env) (fun r s' => match r with | .ok f => Q f s' | .error e => False) s₂) NoE s₁) NoE s)
    (hs : ∀ x, foldedSetIterable iter env x = pure x) : wpG G (model prog w) A (exec (.For target iter body [] pos) env) Q E s := by
  refine wpG_noE ?_
  rw [exec_For]
  exact wpG_bindA (wpAny_standAt (wpG_bindA (wpAny_mono h (fun x s₁ h₁ => wpG_bindA (wpAny_of_eq (hs x) (wpG_bindA (wpAny_standAt (wpG_bindA (wpAny_holding
    (wpAny_mono h₁ (fun it s₂ h₂ => wpG_runOwn hG rfl h₂) fun _ _ h' => h'))))))) fun _ _ h' => h')))
end
end Mine

end
section
open PySem PySem.W PySem.Calls PyProof.Rows
set_option linter.unusedVariables false
set_option maxRecDepth 100000
namespace Mine
open PySem.Sem (wp)

noncomputable def ctx0 : PySem.Ctx := ⟨.builtin "claim.caller" {}, none, none, [], none⟩
theorem ok_ctx0 : OkG ctx0 := ⟨by decide +kernel, fun c hc => nomatch hc⟩

/-- one call from the claim's caller alone -/
abbrev WalkZ (q : Program) (loose : List Str) (XP : (Str → Option Value) → Heap → Prop) (YP : World → Heap → Prop) (r : RowW) (d : DefRec) (kwd : List (Str × Expr)) : Prop :=
  ∀ (w : World) (s₀ s₁ : Shared) (mg mb : Str → Option Value), Ground q loose r.records XP w s₀ mg mb s₁.heap → YP w s₁.heap → ∀ (a : Addr) (o : Obj) (pm cd doc dV kV : Value), s₁.heap.get? a = some o →
    o.data = .func { docDef d.name d.params d.body d.scope pm cd doc with defaults := dV, kwdefaults := kV } → s₁.heap.CodeRec cd d.name → Dflts mg s₁.heap d.params kwd dV kV → mg d.name = some (.ref a) → s₁.gens = #[] →
    ∀ (args : List WData) (vals : List Value) (as : List Addr), r.claim.pre args = true → WData.layableAll args = true → ReadsAllW r.records (classAt s₀.heap) s₁.heap vals args as → WellAll w.params s₁.heap vals args → (∀ a ∈ as, (a == sysModules) = false) →
      wpG OkG (model r.prog w) callerA (call (.ref a) vals) (fun v s' => GoodWG r.claim (classAt s₀.heap) (ExcName.means s₀.heap) args s₁ (.ok (.ret v)) s') NoE s₁

/-- what the head proves, under a name of its own: so the whole top is checked at once -/
abbrev LeftQ (p q : Program) (loose : List Str) (Xt : Shared → Bool) {α : Type} (Yf : Shared → α) (Ya : World → α) (N : Nat) : Prop := LeftO p q loose Xt Yf Ya N
theorem PySem.W.holds_open {r : OpenRow} {q : Program} {loose : List Str} {Xt : Shared → Bool} {XP : (Str → Option Value) → Heap → Prop} {α : Type} {Yf : Shared → α} {Ya : World → α} {YP : World → Heap → Prop} {d : DefRec} {kwd : List (Str × Expr)} {N : Nat}
    (left : LeftQ r.prog q loose Xt Yf Ya N) (hY : ∀ w s, Yf s = Ya w → YP w s.heap) (hYk : ∀ w h h', YP w h → (∀ b o, h.get? b = some o → h'.get? b = some o) → YP w h')
    (hX : ∀ s, Xt s = true → XP (s.heap.nsMap mainGlobals) s.heap) (hXk : ∀ mg h h', XP mg h → (∀ b o, h.get? b = some o → h'.get? b = some o) → XP mg h')
    (hdef : defOf q r.name = some (d, kwd)) (hp : r.prog.theDef r.name = some (d.params, d.body, d.scope)) (hk : kwWritten? d.params.kwonlyargs d.params.kw_defaults = some kwd) (hRf : ∀ s, Xt s = true → RecFacts r.records s.heap) (hwr : r.writes = false)
    (k1 : r.wellSaid = true) (ok : (chainsOk q && opensWell r.prog && (frees r.toRowW && r.within.isEmpty)) = true) (hb : r.prog.bare) (hw : r.toRowW.promised)
    (walk : WalkZ q loose XP YP r.toRowW d kwd) : r.Holds := by
  refine ⟨k1, hw, ?_⟩
  obtain ⟨ok, k5⟩ := Bool.and_eq_true_iff.mp ok
  obtain ⟨hch, o1⟩ := Bool.and_eq_true_iff.mp ok
  obtain ⟨k5, k6⟩ := Bool.and_eq_true_iff.mp k5
  obtain ⟨hsame, hu, ha, hap, hm⟩ := frees_parts k5
  have hi := ident_freeW hu ha hap
  have hwi : r.toRowW.claim.within = [] := List.isEmpty_iff.mp k6
  refine ⟨⟨hb, o1, by show r.makers.map _ = []; rw [hm]; rfl⟩, hw.witness, fun w => ⟨(LeftO.behind left hX hch w).1, fun s' hs' => ?_⟩⟩
  obtain ⟨s₀, hf, hg0, s, hT, hz, hgens, hg, G00, y⟩ := (LeftO.behind left (XP := fun mg h => XP mg h ∧ RecFacts r.records h) (fun s hs => ⟨hX s hs, hRf s hs⟩) hch w).2 s' hs'
  have G0 : Ground q loose [] XP w s (s.heap.nsMap mainGlobals) (s.heap.nsMap builtinsNs) s.heap := ⟨G00.T, G00.B, G00.D, G00.TE, G00.TD, G00.W, G00.X.1, G00.cls, G00.has, G00.apart, G00.once, G00.K⟩
  have RF := G00.X.2
  refine ⟨s₀, hf, hg0, s, hT, (fun n hn => ?_), RF.1, RF.2.1, ?_⟩
  · obtain rfl : n = r.name := by split at hn <;> simp_all
    exact pinned_of_view hg G0 hdef hp hk
  have hgens : s.gens = #[] := Array.eq_empty_of_size_eq_zero (beq_iff_eq.mp hgens)
  have G : Ground q loose r.records XP w s _ _ s.heap := RF.ground G0
  intro args hpre hlay ord hord
  obtain ⟨⟨vs, s₁⟩, hlaid⟩ := Option.isSome_iff_exists.mp (layAllW_isSome (P := w.params) (ord := ord) G.has args r.args s (pre_splitW hpre).1)
  have keeps := layAllW_keeps _ _ _ hlaid
  have hal := layAllW_rest _ _ _ hlaid
  obtain ⟨as, hrd, hin, hold⟩ := reads_layAllW hord _ _ _ hlaid hlay s₁.heap (fun _ _ e => e)
  have L : Laid r.records w s s₁ args vs as := ⟨⟨ord, hord, hlaid⟩, hrd, hin, hold, keeps, hal.1.trans hgens, hal.2.2.1⟩
  have G₁ := G.keeps hXk keeps
  obtain ⟨a, o, pm, cd, doc, dV, kV, f1, f2, f3, f4, f5⟩ := G₁.fn hdef
  have hmg := defOf_name hdef ▸ f1
  have run := walk w s s₁ _ _ G₁ (hYk _ _ _ (hY w s y) keeps) a o pm cd doc dV kV f2 f3 f4 f5 hmg L.gens args vs as hpre hlay L.reads L.well (L.low G.low)
  have tree : wpG OkG (model r.prog w) callerA (do match ← nsGet mainNs r.name with | some f => do ret (← PySem.call f vs) | none => unsupported "claim.caller:no-such-global")
      (fun fin s' => ∃ fl, fin = .done fl ∧ ((r.toRowW.claim.Ends s args vs s₁ (.ok fl) s' ∧ s'.os = s.os) ∧ leftWithCleanup s'.gens = false)) NoE s₁ := by
    refine wpG_bindA (wpAny_nsGet G₁.T.g ?_)
    rw [f1]
    refine wpG_bind (wpG_mono run (fun v s' g => wpG_pure ⟨_, rfl, ?_⟩) fun _ _ x => x)
    have z := g.laid (c := r.toRowW.claim) hsame hwi hi L
    exact ⟨⟨z.1, z.2.1⟩, leftWithCleanup_false_of_bare z.2.2⟩
  have base := tree ctx0 default caller_in ok_ctx0
  obtain ⟨k, res, s2, s3, hsched, hrun, hfo, hcase, hos⟩ := wp_halts_full (M := model r.prog w) (R := fun x s' => r.toRowW.claim.Ends s args vs s₁ x s' ∧ s'.os = s.os) (Shared.asleep_of_life hal.2.2.2 hz)
    (Sem.wp_mono _ _ _ (fun fin p' s' h' => by obtain ⟨fl, rfl, h2⟩ := h'; exact h2) (fun _ _ _ h' => h'.elim) _ _ base)
  obtain ⟨eh, _, _, eo, _⟩ := Shared.forget_eq hfo
  have hcase := hcase.congr eh
  rw [← eo] at hos
  have hlife : s3.heap.life = s.heap.life := (runN_life _ _ _ hrun).trans hal.2.2.2
  refine ⟨vs, s₁, hlaid, k, _, s3, hsched, ?_, (fun _ i x hx => by rw [hgens] at hx; simp at hx), (fun q => by have q' : r.writes = true := q; rw [hwr] at q'; cases q'), by rw [hlife], Shared.rest_eq hos⟩
  rcases hcase with ⟨v, rfl, d1, d2, d3, d4, d5⟩ | ⟨e, ob, cls, rfl, d1, d2, d3, d4, d5⟩
  · exact .inl ⟨v, rfl, d1, d2, d3, fun b o y _ => d4 b o y, d5⟩
  · exact .inr ⟨e, ob, cls, rfl, d1, d2, d3, d4, fun b o y _ => d5 b o y⟩
end Mine

end
section
open PySem PySem.W PySem.Calls PyProof.Rows
set_option linter.unusedVariables false
set_option maxRecDepth 100000
namespace Mine
open PySem.Sem (wp)

theorem ba_mro : mroOf (.type "bytearray") = pure [.type "bytearray", .type "object"] := by rw [mroOf_type]; kernel_rfl
theorem ba_lookup_new : typeLookup (.type "bytearray") "__new__" = pure (some (.builtin "bytearray.__new__")) := by rw [typeLookup_type, builtinLookup_eq_fast]; kernel_rfl
theorem ba_made : Bind.madeBy (.type "bytearray") = pure (some "bytearray.__new__") := madeBy_type ba_mro ba_lookup_new (by decide +kernel)
theorem ba_typeCall (a : Value) : checkTypeCall "bytearray" ⟨[a], []⟩ = pure () := by kernel_rfl
theorem ba_newCall (a : Value) : checkBuiltinCall "bytearray.__new__" ⟨[.type "bytearray", a], []⟩ = pure () := by kernel_rfl
theorem ba_entry_new : entryFor table "bytearray.__new__" = some Builtin.«list.__new__» := entryFor_alias (id' := "list.__new__") (by kernel_rfl) (by first | rfl | decide +kernel) (by decide +kernel) (by kernel_rfl)
theorem ba_plain_new : plainId "bytearray.__new__" = true := by decide +kernel
theorem ba_owner_new : ("bytearray.__new__".splitOn ".__new__").headD "" = "bytearray" := by simp +decide [String.splitOn, String.splitOnAux]
theorem ba_sub : isSubtype (.type "bytearray") (.type "bytearray") = pure true := by rw [isSubtype_type]; kernel_rfl
theorem ba_slot_init : PySem.Slot "bytearray" "__init__" "bytearray.__init__" :=
  PySem.Slot.of (T := "bytearray") (name := "__init__") (id := "bytearray.__init__") (owner := "bytearray") (n := "__init__") (by rw [typeLookup_type, builtinLookup_eq_fast]; kernel_rfl) (by decide +kernel) (by decide +kernel) (by decide +kernel) (by first | exact .inl (by kernel_rfl) | exact .inr (by kernel_rfl)) ba_sub
theorem ba_entry_init : entryFor table "bytearray.__init__" = some Builtin.«bytearray.__init__» := by first | exact entryFor_of_tree (by kernel_rfl) | exact entryFor_of_fast (by kernel_rfl)
theorem ba_args_init (a b : Value) : argsOk "bytearray.__init__" ⟨[a, b], []⟩ := by unfold argsOk; kernel_rfl
theorem ba_bind (v : Value) : Builtin.Bytes.bindOptional "bytearray.__init__" "bytearray" ["source", "encoding", "errors"] [v] [] = pure [some v, none, none] := by kernel_rfl
theorem ba_release : typeLookup (.type "bytearray") "__release_buffer__" = pure (some (.builtin "bytearray.__release_buffer__")) := by rw [typeLookup_type, builtinLookup_eq_fast]; kernel_rfl
theorem int_index : typeLookup (.type "int") "__index__" = pure (some (.builtin "int.__index__")) := by rw [typeLookup_type, builtinLookup_eq_fast]; kernel_rfl

section
variable {prog : Program} {w : World} {A : Around} {E : Value → Shared → Prop} {s : Shared}

theorem code_ba_new (a : Value) {Q₁ : Value → Shared → Prop}
    (h : Q₁ (.ref s.heap.objs.size) { s with heap := s.heap.push { cls := .type "bytearray", data := .bytearray #[] } }) :
    codeAny (model prog w) A (.call (.builtin "bytearray.__new__") ⟨[.type "bytearray", a], []⟩) (wants Q₁ E) s := by
  refine codeAny_of_tree ?_
  show wpAny _ A.in1 (do checkBuiltinCall "bytearray.__new__" ⟨[.type "bytearray", a], []⟩; again (.builtin "bytearray.__new__" ⟨[.type "bytearray", a], []⟩)) _ _ s
  refine wpAny_bind (wpAny_of_eq (ba_newCall a) (wpAny_pure ⟨plainId_quiet ba_plain_new _, codeAny_builtin_stack ba_entry_new rfl fun p st => ?_⟩))
  rw [Around.under_plainId ba_plain_new _]
  have hsub := ba_sub
  have hown := ba_owner_new
  obtain ⟨hp, g, d, tk, os⟩ := s
  simp only [hown]
  wp_walk
  exact h

theorem wpG_exported {self : Value} {Q : Bool → Shared → Prop} (h : Q false s) : wpG OkG (model prog w) A (Builtin.Bytes.exported self) Q E s := fun Γ p hΓ g => by
  unfold Builtin.Bytes.exported
  rw [Sem.wp_bind']
  unfold stack
  rw [Sem.wp_stack]
  refine (congrArg (fun b => Q b s) (?_ : List.any _ _ = false)).mpr h
  rw [List.any_eq_false]
  intro x hx
  obtain ⟨c, q⟩ := x
  have hc : holdsB c = false := by
    rcases List.mem_cons.mp hx with e | hx
    · cases e; exact g.1
    · exact g.2 _ hx
  rw [Bool.not_eq_true]
  clear hx h g hΓ
  cases c with
  | builtin id args =>
    have hn : holdIds.contains id = false := hc
    clear hc
    split
    · rename_i he; injection he with he _; injection he with he _; subst he; exact absurd hn (by decide +kernel)
    · rename_i he; injection he with he _; injection he with he _; subst he; exact absurd hn (by decide +kernel)
    · rename_i he; injection he with he _; injection he with he _; subst he; exact absurd hn (by decide +kernel)
    · rename_i he; injection he with he _; injection he with he _; subst he; exact absurd hn (by decide +kernel)
    · rename_i he; injection he with he _; injection he with he _; subst he; exact absurd hn (by decide +kernel)
    · rename_i he
      injection he with he _
      injection he with he _
      subst he
      have : Builtin.Bytes.decodersThatHold.contains id = false := by
        cases hq : Builtin.Bytes.decodersThatHold.contains id with
        | false => rfl
        | true =>
          have hm : id ∈ Builtin.Bytes.decodersThatHold := by simpa using hq
          have : holdIds.contains id = true := by simp only [List.contains_iff_mem, holdIds]; exact List.mem_append_right _ hm
          rw [this] at hn; cases hn
      rw [this, Bool.and_false]
    · rfl
  | _ => rfl

theorem ba_update {a : Addr} {o : Obj} {b : Array UInt8} {k : Nat} {f : Array UInt8 → Array UInt8} {Q : Unit → Shared → Prop} (ho : s.heap.get? a = some o) (hd : o.data = .bytearray b k) (hz : (f b).size ≤ sizeLine)
    (h : Q () { s with heap := s.heap.update a (Obj.mapBytearray f) }) : wpAny (model prog w) A (updateBytearray a f) Q E s := by
  unfold updateBytearray
  refine wpAny_bind (wpAny_load ho ?_)
  obtain ⟨c, d, dt, sl⟩ := o
  simp only at hd; subst hd
  dsimp only
  refine wpAny_bind (wpAny_update ho ?_)
  refine wpAny_lookBehind (o := Obj.mapBytearray f ⟨c, d, .bytearray b k, sl⟩) (Heap.get?_update_self _ ho rfl) ?_ h
  show Data.pastItsLine (.bytearray (f b) k) = none
  exact if_neg (Nat.not_lt.mpr hz)
abbrev baObj (b : Array UInt8) : Obj := { cls := .type "bytearray", data := .bytearray b 0 }
theorem ba_typeIs {S : Addr} {b : Array UInt8} (h : s.heap.get? S = some (baObj b)) : s.TypeIs (.ref S) "bytearray" := ⟨_, h, rfl⟩

theorem ba_ownRelease {S : Addr} {b : Array UInt8} (hS : s.heap.get? S = some (baObj b)) {Q : Bool → Shared → Prop} (h : Q false s) : wpAny (model prog w) A (Builtin.Bytes.ownRelease (.ref S)) Q E s := by
  unfold Builtin.Bytes.ownRelease Builtin.Bytes.slotIsOwn
  refine wpAny_bind (wpAny_bind (wpAny_specialOf (ba_typeIs hS) ba_release ?_))
  dsimp only
  rw [if_neg (by decide +kernel)]
  rw [show ("bytearray.__release_buffer__".dropRight ("__release_buffer__".length + 1)) = "bytearray" from by decide +kernel]
  exact wpAny_isInstance (ba_typeIs hS) ba_sub (wpAny_pure h)

theorem ba_init {S : Addr} {n : Int} {t : Tok} (hn0 : 0 ≤ n) (hn1 : n ≤ 16777216) (hS : s.heap.get? S = some (baObj #[])) {P : Fin → Shared → Prop}
    (h : ∀ h', h'.get? S = some (baObj (Array.replicate n.toNat 0)) → (∀ d o, d ≠ S → s.heap.get? d = some o → h'.get? d = some o) → P (.done (.ret .none)) { s with heap := h' }) :
    wpG OkG (model prog w) A (Builtin.«bytearray.__init__» ⟨[.ref S, .int n t], []⟩) P E s := by
  unfold Builtin.«bytearray.__init__»
  dsimp only
  refine wpG_bindA (ba_ownRelease hS ?_)
  simp only [Bool.false_eq_true, if_false]
  rw [ba_bind]
  refine wpG_bindA (wpAny_pure ?_)
  dsimp only
  refine wpG_bindA (wpAny_of_eq (a := ()) rfl ?_)
  refine wpG_bindA (wpAny_of_eq (a := ()) rfl ?_)
  refine wpG_bind ?_
  show wpG OkG _ A (Builtin.Bytes.exported (.ref S) >>= fun b => _) _ _ _
  refine wpG_bind (wpG_exported ?_)
  refine wpG_of ?_
  show wpAny _ A (Builtin.Bytes.exportsOf (.ref S) >>= fun k => pure (decide (k > 0))) _ _ _
  refine wpAny_bind ?_
  show wpAny _ A (load S >>= fun o => _) _ _ _
  refine wpAny_bind (wpAny_load hS ?_)
  refine wpAny_pure (wpAny_pure ?_)
  refine wpG_of ?_
  rw [if_neg (by decide)]
  have u1 := Heap.get?_update_self (Obj.mapBytearray fun _ => (#[] : Array UInt8)) hS rfl
  refine wpAny_bind (ba_update hS rfl (Nat.zero_le _) ?_)
  refine wpAny_bind (wpAny_of_eq (a := none) rfl ?_)
  simp only [Option.isSome_none, Bool.false_eq_true, if_false]
  refine wpAny_bind (wpAny_pure ?_)
  refine wpAny_bind (wpAny_specialOf (typeIs_int _ n t) int_index ?_)
  simp only [Option.isSome_some, if_true]
  refine wpAny_bind (wpAny_attempt (wpAny_of_eq (a := n) rfl ?_))
  dsimp only
  have e1 : Builtin.Bytes.fitsIndex n = true := by simp [Builtin.Bytes.fitsIndex]; omega
  have e2 : ¬ n < 0 := by omega
  have e3 : (n == 2 ^ 63 - 1) = false := by simp; omega
  have e4 : Builtin.Bytes.tooLong n.toNat = false := KBy.tooLong_not (by omega)
  simp only [e1, e3, e4, Bool.not_true, Bool.false_eq_true, if_false, e2]
  refine wpAny_bind (wpAny_rule ?_)
  by_cases hp : n > 0
  · simp only [hp, if_true]
    refine wpAny_bind (ba_update u1 rfl (by simp [sizeLine_eq]; omega) (wpAny_pure ?_))
    refine h _ (Heap.get?_update_self _ u1 rfl) fun d o hd e => ?_
    exact (Heap.get?_update_ne _ _ _ _ hd).trans ((Heap.get?_update_ne _ _ _ _ hd).trans e)
  · simp only [hp, if_false]
    have : n.toNat = 0 := by omega
    refine wpAny_pure (h _ (by rw [this]; exact u1) fun d o hd e => (Heap.get?_update_ne _ _ _ _ hd).trans e)

theorem codeG_builtin {G : PySem.Ctx → Prop} (hG : GOk G) {id : String} {args : Args} {b : Builtin} {R : Result → Shared → Prop} (hb : entryFor table id = some b)
    (h : wpG G (model prog w) (A.under (.builtin id args)) (b args) (fun fin s' => match fin with | .done f => R (.ok f) s' | .again c' => c'.quiet = true ∧ holdsB c' = false ∧ codeG G (model prog w) A c' R s') (fun e s' => R (.error e) s') s) :
    codeG G (model prog w) A (.builtin id args) R s := by
  refine codeG_of_tree hG ?_
  have hden : (model prog w).den (.builtin id args) = b args := by
    show (match entryFor table id with | some b => b args | none => unsupported ((withoutEnding? id "#data").getD id)) = _
    rw [hb]
  rw [hden]; exact h

theorem ba_call_new (a : Value) : wpAny (model prog w) A (call (.builtin "bytearray.__new__") [.type "bytearray", a]) (fun v s' => v = .ref s.heap.objs.size ∧ s' = { s with heap := s.heap.push (baObj #[]) }) NoE s := by
  refine wpAny_call (codeAny_mono (code_ba_new (Q₁ := fun v s' => v = .ref s.heap.objs.size ∧ s' = { s with heap := s.heap.push (baObj #[]) }) (E := NoE) _ ⟨rfl, rfl⟩) fun r s' x => ?_)
  cases r with
  | error e => exact x
  | ok f => cases f <;> exact x
theorem call_bytearray {n : Int} {t : Tok} {Q : Value → Shared → Prop} (hn0 : 0 ≤ n) (hn1 : n ≤ 16777216)
    (h : ∀ h', h'.get? s.heap.objs.size = some (baObj (Array.replicate n.toNat 0)) → Stays s.heap h' → Q (.ref s.heap.objs.size) { s with heap := h' }) :
    wpG OkG (model prog w) A (call (.type "bytearray") [.int n t]) Q NoE s := by
  refine wpG_call gok_ok (codeG_of_tree gok_ok ?_)
  show wpG OkG _ _ (callAny (.type "bytearray") _) _ _ _
  refine wpG_pure ⟨Code.quiet_builtin _ (by decide +kernel), (by show holdIds.contains "type.__call__" = false; decide +kernel), codeG_builtin gok_ok F.entry_type_call ?_⟩
  rw [Around.under_plain (weight_type_call_type "bytearray" _ []) rfl]
  unfold Builtin.«type.__call__»
  dsimp only
  rw [if_neg (by decide)]
  rw [if_neg (by rw [show ((Manifest.find? "bytearray").bind fun x => List.findSome? (fun t => (Manifest.find? t).bind fun b => if b.noNew = true then some true else if (b.attrs.any fun x => x.fst == "__new__") = true then some false else none) x.mro).getD false = false from by decide +kernel]; exact Bool.false_ne_true)]
  rw [ba_typeCall]
  refine wpG_bindA (wpAny_pure ?_)
  rw [ba_mro]
  refine wpG_bindA (wpAny_pure ?_)
  rw [if_neg (by decide)]
  rw [ba_made]
  refine wpG_bindA (wpAny_pure ?_)
  dsimp only
  refine wpG_bindA (wpAny_pure ?_)
  refine wpG_bindA (wpAny_holding (wpAny_mono (ba_call_new _) (fun v s' x => ?_) fun _ _ x => x.elim))
  obtain ⟨rfl, rfl⟩ := x
  have hS : (s.heap.push (baObj #[])).get? s.heap.objs.size = some (baObj #[]) := Heap.get?_push_size _ rfl
  have hT : Shared.TypeIs { s with heap := s.heap.push (baObj #[]) } (.ref s.heap.objs.size) "bytearray" := ⟨_, hS, rfl⟩
  refine wpG_bindA (wpAny_isInstance hT ba_sub ?_)
  simp only [Bool.not_true, Bool.false_eq_true, if_false]
  refine wpG_bind (wpG_holding ?_)
  simp only [callSpecial?]
  refine wpG_bindA (wpAny_specialOf hT ba_slot_init.lookup ?_)
  simp only [ba_slot_init.bind]
  refine wpG_holding (wpG_bindA (wpAny_pure ?_))
  dsimp only
  refine wpG_bind (wpG_call gok_ok (codeG_of_tree gok_ok ?_))
  show wpG OkG _ _ (callAny (.builtin "bytearray.__init__") _) _ _ _
  simp only [callAny]
  refine wpG_bindA (ba_slot_init.check _ _ _ _ _ _ _ _ hT (ba_args_init _ _) ?_)
  refine wpG_pure ⟨plainId_quiet ba_slot_init.plain _, (by show holdIds.contains "bytearray.__init__" = false; decide +kernel), codeG_builtin gok_ok ba_entry_init ?_⟩
  refine ba_init hn0 hn1 hS fun h' e1 e2 => ?_
  refine wpG_pure ?_
  dsimp only
  rw [if_neg (by decide)]
  exact wpG_pure (h h' e1 fun d o e => e2 d o (Nat.ne_of_lt (Heap.lt_size e)) (Heap.get?_push_of_some _ e))
end
end Mine

end
section
open PySem PySem.W PySem.Calls PyProof.Rows
set_option linter.unusedVariables false
set_option maxRecDepth 100000
namespace Mine

theorem ba_slot_setitem : PySem.Slot "bytearray" "__setitem__" "bytearray.__setitem__" :=
  PySem.Slot.of (T := "bytearray") (name := "__setitem__") (id := "bytearray.__setitem__") (owner := "bytearray") (n := "__setitem__") (by rw [typeLookup_type, builtinLookup_eq_fast]; kernel_rfl) (by decide +kernel) (by decide +kernel) (by decide +kernel) (by first | exact .inl (by kernel_rfl) | exact .inr (by kernel_rfl)) ba_sub
theorem ba_entry_setitem : entryFor table "bytearray.__setitem__" = some Builtin.«bytearray.__setitem__» := by first | exact entryFor_of_tree (by kernel_rfl) | exact entryFor_of_fast (by kernel_rfl)
theorem ba_args_setitem (a b c : Value) : argsOk "bytearray.__setitem__" ⟨[a, b, c], []⟩ := by unfold argsOk; kernel_rfl
theorem ba_no_bytes : typeLookup (.type "bytearray") "__bytes__" = pure none := by rw [typeLookup_type, builtinLookup_eq_fast]; kernel_rfl
theorem ba_no_index : typeLookup (.type "bytearray") "__index__" = pure none := by rw [typeLookup_type, builtinLookup_eq_fast]; kernel_rfl
theorem ba_buffer : typeLookup (.type "bytearray") "__buffer__" = pure (some (.builtin "bytearray.__buffer__")) := by rw [typeLookup_type, builtinLookup_eq_fast]; kernel_rfl

section
variable {prog : Program} {w : World} {A : Around} {E : Value → Shared → Prop} {s : Shared}

theorem ba_payload {S : Addr} {b : Array UInt8} (hS : s.heap.get? S = some (baObj b)) {Q : Array UInt8 → Shared → Prop} (h : Q b s) : wpAny (model prog w) A (Builtin.Bytes.payload (.ref S)) Q E s := by
  unfold Builtin.Bytes.payload
  refine wpAny_bind ?_
  show wpAny _ A (load S >>= fun o => _) _ _ _
  refine wpAny_bind (wpAny_load hS (wpAny_pure (wpAny_pure h)))
theorem ba_setItem {S : Addr} {b : Array UInt8} {k v : Int} {t u : Tok} {Q : Unit → Shared → Prop} (hS : s.heap.get? S = some (baObj b)) (h0 : 0 ≤ k) (h1 : k < b.size) (hz : b.size ≤ 16777216) (v0 : 0 ≤ v) (v1 : v < 256)
    (h : ∀ h', h'.get? S = some (baObj (b.setIfInBounds k.toNat v.toNat.toUInt8)) → Heap.SameBut S s.heap h' → Q () { s with heap := h' }) :
    wpAny (model prog w) A (setItem (.ref S) (.int k t) (.int v u)) Q E s := by
  unfold setItem
  refine wpAny_holding ?_
  refine wpAny_bind (wpAny_sequenceKey (ba_typeIs hS) (by decide) ?_)
  refine wpAny_bind (wpAny_callSpecial?_slot (ba_typeIs hS) ba_slot_setitem (wpAny_call_entry ba_slot_setitem (ba_typeIs hS) ba_entry_setitem ?_ (ba_args_setitem _ _ _)))
  unfold Builtin.«bytearray.__setitem__»
  dsimp only
  rw [if_neg (by decide)]
  refine wpAny_bind ?_
  unfold Builtin.Bytes.subscript?
  refine wpAny_bind (wpAny_specialOf (typeIs_int _ k t) int_index ?_)
  rw [if_neg (by decide)]
  refine wpAny_bind (wpAny_of_eq (a := k) rfl ?_)
  have e1 : Builtin.Bytes.fitsIndex k = true := by simp [Builtin.Bytes.fitsIndex]; omega
  rw [if_neg (by rw [e1]; decide)]
  refine wpAny_pure ?_
  dsimp only
  refine wpAny_bind ?_
  unfold Builtin.Bytes.byteValue
  refine wpAny_bind (wpAny_of_eq (a := v) rfl ?_)
  rw [if_neg (by simp; omega)]
  refine wpAny_pure ?_
  refine wpAny_bind (ba_payload hS ?_)
  have e2 : seqIndex? k b.size = some k.toNat := by
    unfold seqIndex?
    have : ¬ k < 0 := by omega
    simp [this]; omega
  rw [e2]
  dsimp only
  refine wpAny_bind (ba_update hS rfl (by simp [sizeLine_eq]; omega) (wpAny_pure ⟨.none, rfl, ?_⟩))
  exact wpAny_pure (h _ (Heap.get?_update_self _ hS rfl) (Heap.SameBut.update ..))

theorem ba_bytes_new {S : Addr} {b : Array UInt8} {Q : Value → Shared → Prop} (hS : s.heap.get? S = some (baObj b)) (hz : b.size ≤ 16777216)
    (hQ : Q (.bytes b s.toks) { s with toks := s.toks + 1 }) :
    codeAny (model prog w) A (.call (.builtin "bytes.__new__") ⟨[.type "bytes", .ref S], []⟩) (wants Q E) s := by
  refine codeAny_of_tree ?_
  show wpAny _ A.in1 (do checkBuiltinCall "bytes.__new__" ⟨[.type "bytes", .ref S], []⟩; again (.builtin "bytes.__new__" ⟨[.type "bytes", .ref S], []⟩)) _ _ s
  refine wpAny_bind (wpAny_of_eq (F.bm_newCall _) (wpAny_pure ⟨plainId_quiet F.bm_plain _, codeAny_builtin F.bm_entry ?_⟩))
  rw [Around.under_plainId F.bm_plain _]
  have hT : s.TypeIs (.ref S) "bytearray" := ba_typeIs hS
  unfold Builtin.«bytes.__new__»
  refine wpAny_bind (wpAny_of_eq (a := true) rfl ?_)
  refine bm_if_false rfl ?_
  refine wpAny_bind (wpAny_of_eq F.bm_sub ?_)
  refine bm_if_false rfl ?_
  refine wpAny_bind (wpAny_of_eq (F.bm_bind _) ?_)
  refine wpAny_bind (wpAny_of_eq (a := ()) rfl ?_)
  refine wpAny_bind (wpAny_of_eq (a := ()) rfl ?_)
  refine bm_if_false rfl ?_
  refine wpAny_bind (wpAny_specialOf hT ba_no_bytes ?_)
  refine wpAny_bind (wpAny_bind ?_)
  show wpAny _ _ (load S >>= _) _ _ _
  refine wpAny_bind (wpAny_load hS ?_)
  refine wpAny_pure (wpAny_pure ?_)
  refine bm_if_false rfl ?_
  refine wpAny_bind (wpAny_specialOf hT ba_no_index ?_)
  refine bm_if_true rfl ?_
  first
    | show wpAny _ _ (Builtin.Bytes.buffer? "bytes.__new__" (.ref S) true >>= _) _ _ _
    | (refine wpAny_bind ?_; show wpAny _ _ (Builtin.Bytes.buffer? "bytes.__new__" (.ref S) true >>= _) _ _ _)
  refine wpAny_bind ?_
  unfold Builtin.Bytes.buffer?
  refine wpAny_bind (wpAny_specialOf hT ba_buffer ?_)
  dsimp only
  refine wpAny_bind ?_
  unfold Builtin.Bytes.slotIsOwn
  refine wpAny_bind (wpAny_specialOf hT ba_buffer ?_)
  dsimp only
  rw [if_neg (by decide +kernel)]
  rw [show ("bytearray.__buffer__".dropRight ("__buffer__".length + 1)) = "bytearray" from by decide +kernel]
  refine wpAny_isInstance hT ba_sub ?_
  refine bm_if_false rfl ?_
  refine wpAny_bind (wpAny_specialOf hT ba_buffer ?_)
  refine wpAny_bind (ba_ownRelease hS ?_)
  refine bm_if_false rfl ?_
  refine wpAny_bind (ba_payload hS (wpAny_pure ?_))
  refine wpAny_bind (wpAny_rule (wpAny_bind (wpAny_mkBytes ?_ (by rw [sizeLine_eq]; exact hz))))
  exact wpAny_of_eq (a := Fin.done (.ret (.bytes b s.toks))) (by rfl) hQ

theorem call_bytes_ba {S : Addr} {b : Array UInt8} {Q : Value → Shared → Prop} (hS : s.heap.get? S = some (baObj b)) (hz : b.size ≤ 16777216) (hQ : Q (.bytes b s.toks) { s with toks := s.toks + 1 }) :
    wpAny (model prog w) A (call (.type "bytes") [.ref S]) Q E s := by
  refine callType_codes (Q₁ := fun obj s₁ => s₁.TypeIs obj "bytes" ∧ Q obj s₁) F.bm_called (F.bm_typeCall _) F.entry_object_init
    (ba_bytes_new hS hz ⟨PySem.W.typeIs_bytes _ _ _, hQ⟩) fun obj s₁ h₁ => ?_
  exact ⟨h₁.1, F.args_object_init_2 obj _, object_init_meets F.bm_called.init.lookup F.bm_called.made (by decide) prog w A.in1 _ s₁ ⟨h₁.1, rfl, h₁.2⟩⟩
end

noncomputable def spBytes2 : List PV → Option PV
  | [.barr b] => if b.length ≤ 16777216 then some (.bytes b) else none
  | ps => spBytes ps
theorem ok_bytes {C : Ctx} {n : Nat} : CallOk C n (.type "bytes") spBytes2 := by
  intro A X s vs ps r hA gl lv tk hr h
  unfold spBytes2 at h
  split at h
  · split at h
    · rename_i b hz; cases h
      obtain ⟨v1, q, rfl, ⟨a, rfl, _, he⟩, hq⟩ := hr; rw [show q = [] from hq]
      exact call_bytes_ba he (by simpa using hz) ⟨Kp.toks .., s.toks, rfl⟩
    · cases h
  · exact ok_bytes_list A X s vs ps r hA gl lv tk hr h
end Mine

end
section
open PySem PySem.W PySem.Calls PyProof.Rows
set_option linter.unusedVariables false
set_option maxRecDepth 100000
namespace Mine

inductive Out where
  | next
  | ret (v : PV)

noncomputable def Slot.isOwn : Slot → Bool
  | .ol _ => true
  | .ob _ => true
  | _ => false
noncomputable def ownedAt (σ : St) (i : Nat) : Prop := ∃ sl, σ[i]? = some sl ∧ sl.isOwn = true

noncomputable def MList (h : Heap) (a : Addr) (vs : Array Value) : Prop := ∃ o, h.get? a = some o ∧ o.cls = .type "list" ∧ o.dict = none ∧ ∃ n, o.data = .seq vs n
theorem MList.isList {h : Heap} {a : Addr} {vs : Array Value} (x : MList h a vs) : h.IsList a vs := let ⟨o, e, c, _, n, d⟩ := x; ⟨o, e, c, n, d⟩
theorem MList.plain {h : Heap} {a : Addr} {vs : Array Value} (x : MList h a vs) : PlainL h a vs := let ⟨o, e, c, q, n, d⟩ := x; ⟨o, n, e, c, q, d⟩
theorem MList.of {h : Heap} {a : Addr} {vs : Array Value} (x : PlainL h a vs) : MList h a vs := let ⟨o, n, e, c, q, d⟩ := x; ⟨o, e, c, q, n, d⟩

/-- what a slot of the store says of the heap -/
noncomputable def SlotOk (X : Addr → Prop) (h : Heap) (env : Env) (m : Str → Option Value) (a : Addr) (x : Str) : Option Slot → Prop
  | some (.fz p) => (env.kindOf x = some .local ∧ ∃ v, m x = some v ∧ Rep X h p v) ∨
      ((env.kindOf x = some .cell ∨ env.kindOf x = some .free) ∧ ∃ c v, env.cells.lookup x = some c ∧ h.IsCell c (some v) ∧ Rep X h p v)
  | some (.ol xs) => env.kindOf x = some .local ∧ m x = some (.ref a) ∧ X a ∧ ∃ vs, MList h a (List.toArray vs) ∧ RepL X h xs vs
  | some (.ob b) => env.kindOf x = some .local ∧ m x = some (.ref a) ∧ X a ∧ h.get? a = some (baObj b.toArray)
  | _ => True

abbrev Base := Addr → Option Obj
noncomputable def Held (base : Base) (h : Heap) : Prop := ∀ b o, base b = some o → h.get? b = some o
structure SR (C : Ctx) (lay : List Str) (base : Base) (P : Addr → Prop) (wr : Bool) (env : Env) (X : Addr → Prop) (σ : St) (h : Heap) : Prop where
  gl : ∀ h, Held base h → C.Gl h
  keep : Held base h
  liveP : ∀ a, P a → (base a).isSome = true
  sub : ∀ a, P a → X a
  new : ∀ a, X a → P a ∨ base a = none
  live : Live X h
  locX : X env.locals
  locN : base env.locals = none
  cells : wr = true → ∀ x c, env.cells.lookup x = some c → X c ∧ base c = none ∧ ∃ v, h.IsCell c v
  apart : wr = true → ∀ x y c, env.cells.lookup x = some c → env.cells.lookup y = some c → x = y
  hasCell : wr = true → ∀ x, env.kindOf x = some .cell → ∃ c, env.cells.lookup x = some c
  nodup : lay.Nodup
  len : σ.length ≤ lay.length
  slots : ∃ (m : Str → Option Value) (own : Nat → Addr), h.Ns env.locals m ∧ (∀ (i : Nat) (x : Str), lay[i]? = some x → SlotOk X h env m (own i) x (σ[i]?)) ∧
    (∀ i, ownedAt σ i → base (own i) = none) ∧ (∀ i j, ownedAt σ i → ownedAt σ j → own i = own j → i = j)

noncomputable def Frz (X : Addr → Prop) (h h' : Heap) : Prop := ∀ b o, h.get? b = some o → ¬ X b → h'.get? b = some o
theorem Frz.of {X : Addr → Prop} {h h' : Heap} (s : Stays h h') : Frz X h h' := fun b o e _ => s b o e
theorem Rep.frz {X : Addr → Prop} {h h' : Heap} (s : Frz X h h') {p : PV} {v : Value} (r : Rep X h p v) : Rep X h' p v := r.mono fun b o e n _ => ⟨s b o e n, n⟩
theorem RepL.frz {X : Addr → Prop} {h h' : Heap} (s : Frz X h h') {p : List PV} {v : List Value} (r : RepL X h p v) : RepL X h' p v := r.mono fun b o e n _ => ⟨s b o e n, n⟩
/-- from one hidden set to the next -/
structure Tr (X : Addr → Prop) (h : Heap) (X' : Addr → Prop) (h' : Heap) : Prop where
  frz : Frz X h h'
  sub : ∀ a, X' a → X a ∨ h.get? a = none
theorem Tr.refl (X : Addr → Prop) (h : Heap) : Tr X h X h := ⟨fun _ _ e _ => e, fun _ x => .inl x⟩
theorem Tr.trans {X Y Z : Addr → Prop} {h h' h'' : Heap} (a : Tr X h Y h') (b : Tr Y h' Z h'') : Tr X h Z h'' where
  frz := fun i o e n => b.frz i o (a.frz i o e n) fun y => (a.sub i y).elim n fun x => by rw [e] at x; cases x
  sub := fun i z => by
    rcases b.sub i z with y | y
    · exact a.sub i y
    · cases e : h.get? i with
      | none => exact .inr rfl
      | some o =>
        by_cases x : X i
        · exact .inl x
        · rw [a.frz i o e x] at y; cases y
theorem Tr.stays {X : Addr → Prop} {h h' : Heap} (s : Stays h h') : Tr X h X h' := ⟨Frz.of s, fun _ x => .inl x⟩

theorem ns_ne_list {h : Heap} {L a : Addr} {m : Str → Option Value} {vs : Array Value} (n : h.Ns L m) (l : h.IsList a vs) : a ≠ L := by
  rintro rfl
  obtain ⟨o, es, ep, e1, e2, _⟩ := n
  obtain ⟨o', f1, _, k, f2⟩ := l
  rw [e1] at f1; cases f1; rw [e2] at f2; cases f2
theorem ns_ne_ba {h : Heap} {L a : Addr} {m : Str → Option Value} {b : Array UInt8} (n : h.Ns L m) (l : h.get? a = some (baObj b)) : a ≠ L := by
  rintro rfl
  obtain ⟨o, es, ep, e1, e2, _⟩ := n
  rw [e1] at l; cases l; cases e2
theorem ns_ne_cell {h : Heap} {L c : Addr} {m : Str → Option Value} {v : Option Value} (n : h.Ns L m) (l : h.IsCell c v) : c ≠ L := by
  rintro rfl
  obtain ⟨o, es, ep, e1, e2, _⟩ := n
  obtain ⟨o', f1, f2⟩ := l
  rw [e1] at f1; cases f1; rw [e2] at f2; cases f2
theorem cell_ne_list {h : Heap} {c a : Addr} {v : Option Value} {vs : Array Value} (n : h.IsCell c v) (l : h.IsList a vs) : a ≠ c := by
  rintro rfl
  obtain ⟨o, e1, e2⟩ := n
  obtain ⟨o', f1, _, k, f2⟩ := l
  rw [e1] at f1; cases f1; rw [e2] at f2; cases f2
theorem cell_ne_ba {h : Heap} {c a : Addr} {v : Option Value} {b : Array UInt8} (n : h.IsCell c v) (l : h.get? a = some (baObj b)) : a ≠ c := by
  rintro rfl
  obtain ⟨o, e1, e2⟩ := n
  rw [e1] at l; cases l; cases e2

section
variable {C : Ctx} {lay : List Str} {base : Base} {P X : Addr → Prop} {wr : Bool} {env : Env} {σ : St} {h h' : Heap}

theorem SlotOk.stays {m : Str → Option Value} {a : Addr} {x : Str} {o : Option Slot} (s : Stays h h') (k : SlotOk X h env m a x o) : SlotOk X h' env m a x o := by
  cases o with
  | none => trivial
  | some o =>
    cases o with
    | un => trivial
    | fz p =>
      rcases k with ⟨k1, v, e, r⟩ | ⟨k1, c, v, e1, e2, r⟩
      · exact .inl ⟨k1, v, e, r.stays s⟩
      · exact .inr ⟨k1, c, v, e1, e2.keeps s, r.stays s⟩
    | ol xs => obtain ⟨k1, e, x, vs, l, r⟩ := k; exact ⟨k1, e, x, vs, (let ⟨o, ho, q⟩ := l; ⟨o, s _ _ ho, q⟩), r.stays s⟩
    | ob b => obtain ⟨k1, e, x, l⟩ := k; exact ⟨k1, e, x, s _ _ l⟩

theorem SR.stays (R : SR C lay base P wr env X σ h) (s : Stays h h') : SR C lay base P wr env X σ h' where
  gl := R.gl
  keep := fun b o e => s b o (R.keep b o e)
  liveP := R.liveP
  sub := R.sub
  new := R.new
  live := R.live.stays s
  locX := R.locX
  locN := R.locN
  cells := fun q x c e => let ⟨a, b, v, d⟩ := R.cells q x c e; ⟨a, b, v, d.keeps s⟩
  apart := R.apart
  hasCell := R.hasCell
  nodup := R.nodup
  len := R.len
  slots := let ⟨m, own, n, k, e1, e2⟩ := R.slots; ⟨m, own, n.keeps s, fun i x e => (k i x e).stays s, e1, e2⟩

/-- mode A: the frozen slots -/
theorem SR.pre {s : Shared} (R : SR C lay base P wr env X σ s.heap) (tk : 0 < s.toks) : Pre C lay X env σ s where
  gl := R.gl _ R.keep
  live := R.live
  tok := tk
  sees := by
    obtain ⟨m, own, n, k, _, _⟩ := R.slots
    intro i x p e1 e2
    have := k i x e1
    rw [e2] at this
    rcases this with ⟨k1, v, e, r⟩ | ⟨k1, c, v, e1, e2, r⟩
    · exact .inl ⟨k1, m, v, n, e, r⟩
    · exact .inr ⟨k1, c, v, e1, e2, r⟩

noncomputable def Slot.shown : Slot → Slot
  | .ol xs => .fz (.list xs)
  | .ob b => .fz (.barr b)
  | s => s
noncomputable def viewB (σ : St) : St := σ.map Slot.shown
/-- mode B: all slots, to be read at once; the result bears no hidden thing of the callers -/
theorem SR.preB {s : Shared} (R : SR C lay base P wr env X σ s.heap) (tk : 0 < s.toks) : ∃ Y, (∀ a, Y a → X a) ∧ (∀ a, P a → Y a) ∧ Pre C lay Y env (viewB σ) s := by
  obtain ⟨m, own, n, k, f1, f2⟩ := R.slots
  refine ⟨fun a => X a ∧ ∀ i x, lay[i]? = some x → ownedAt σ i → own i ≠ a, fun a y => y.1, fun a p => ⟨R.sub a p, fun i x e o q => ?_⟩, R.gl _ R.keep, fun a y => R.live a y.1, ?_, tk⟩
  · have := R.liveP a p
    rw [← q, f1 i o] at this; cases this
  · intro i x p e1 e2
    unfold viewB at e2
    rw [List.getElem?_map] at e2
    obtain ⟨sl, e3, e4⟩ := Option.map_eq_some_iff.mp e2
    have ks := k i x e1
    rw [e3] at ks
    have weak : ∀ a, (X a ∧ ∀ i x, lay[i]? = some x → ownedAt σ i → own i ≠ a) → X a := fun a y => y.1
    cases sl with
    | un => cases e4
    | fz q =>
      cases e4
      rcases ks with ⟨k1, v, e, r⟩ | ⟨k1, c, v, e1, e2, r⟩
      · exact .inl ⟨k1, m, v, n, e, r.weak weak⟩
      · exact .inr ⟨k1, c, v, e1, e2, r.weak weak⟩
    | ol xs =>
      cases e4
      obtain ⟨k1, e, hx, vs, l, r⟩ := ks
      exact .inl ⟨k1, m, _, n, e, own i, vs, rfl, fun y => y.2 i x e1 ⟨_, e3, rfl⟩ rfl, l.isList, r.weak weak⟩
    | ob b =>
      cases e4
      obtain ⟨k1, e, hx, l⟩ := ks
      exact .inl ⟨k1, m, _, n, e, own i, rfl, fun y => y.2 i x e1 ⟨_, e3, rfl⟩ rfl, l⟩

theorem getElem?_set {σ : St} {i j : Nat} {v : Slot} : (σ.set i v)[j]? = if i = j then (if i < σ.length then some v else none) else σ[j]? := List.getElem?_set

/-- a slot that is kept through a change that spares what it rests on -/
theorem SlotOk.frz {m m' : Str → Option Value} {a : Addr} {x : Str} {o : Option Slot} (f : Frz X h h') (hm : env.kindOf x = some .local → m' x = m x) (hc : ∀ c v, env.cells.lookup x = some c → h.IsCell c v → h'.IsCell c v)
    (ho : ∀ sl, o = some sl → sl.isOwn = true → ∀ ob, h.get? a = some ob → h'.get? a = some ob) (k : SlotOk X h env m a x o) : SlotOk X h' env m' a x o := by
  cases o with
  | none => trivial
  | some o =>
    cases o with
    | un => trivial
    | fz p =>
      rcases k with ⟨k1, v, e, r⟩ | ⟨k1, c, v, e1, e2, r⟩
      · exact .inl ⟨k1, v, (hm k1).trans e, r.frz f⟩
      · exact .inr ⟨k1, c, v, e1, hc c _ e1 e2, r.frz f⟩
    | ol xs =>
      obtain ⟨k1, e, x, vs, l, r⟩ := k
      exact ⟨k1, (hm k1).trans e, x, vs, (let ⟨o, e1, q⟩ := l; ⟨o, ho _ rfl rfl o e1, q⟩), r.frz f⟩
    | ob b => obtain ⟨k1, e, x, l⟩ := k; exact ⟨k1, (hm k1).trans e, x, ho _ rfl rfl _ l⟩

theorem live_but {a : Addr} (lv : Live X h) (hs : Heap.SameBut a h h') (ha : (h'.get? a).isSome = true) : Live X h' := fun b x => by
  by_cases q : b = a
  · rw [q]; exact ha
  · rw [hs.2 b q]; exact lv b x
theorem frz_but {a : Addr} (xa : X a) (hs : Heap.SameBut a h h') : Frz X h h' := fun b o e n => (hs.2 b fun q => n (q ▸ xa)).trans e
theorem keep_but {a : Addr} (k : Held base h) (ha : base a = none) (hs : Heap.SameBut a h h') : Held base h' := fun b o e => (hs.2 b fun q => by rw [q, ha] at e; cases e).trans (k b o e)

theorem ownedAt_set {i : Nat} {v : Slot} (hv : v.isOwn = false) {j : Nat} (h : ownedAt (σ.set i v) j) : ownedAt σ j ∧ j ≠ i := by
  obtain ⟨sl, e, o⟩ := h
  rw [getElem?_set] at e
  split at e
  · split at e
    · cases e; rw [hv] at o; cases o
    · cases e
  · rename_i q; exact ⟨⟨sl, e, o⟩, fun z => q z.symm⟩

theorem lay_inj {i j : Nat} {x : Str} (nd : lay.Nodup) (hi : lay[i]? = some x) (hj : lay[j]? = some x) : i = j :=
  (List.getElem?_inj (List.getElem?_eq_some_iff.mp hi).1 nd).mp (hi.trans hj.symm)
/-- a local name is stored -/
theorem SR.store_local (R : SR C lay base P wr env X σ h) {i : Nat} {x : Str} {v : Value} {p : PV} (hi : lay[i]? = some x) (hk : env.kindOf x = some .local) (hr : Rep X h p v)
    (hn : ∀ m, h.Ns env.locals m → h'.Ns env.locals (fun y => if y = x then some v else m y)) (hs : Heap.SameBut env.locals h h') : SR C lay base P wr env X (σ.set i (.fz p)) h' := by
  obtain ⟨m, own, n, k, f1, f2⟩ := R.slots
  have hl : (h'.get? env.locals).isSome = true := by obtain ⟨o, _, _, e, _⟩ := hn m n; rw [e]; rfl
  have fz := frz_but R.locX hs
  exact {
    gl := R.gl, liveP := R.liveP, sub := R.sub, new := R.new, locX := R.locX, locN := R.locN, apart := R.apart, hasCell := R.hasCell, nodup := R.nodup, len := by simpa using R.len
    keep := keep_but R.keep R.locN hs
    live := live_but R.live hs hl
    cells := fun q y c e => let ⟨a, b, w, d⟩ := R.cells q y c e; ⟨a, b, w, d.sameBut hs (ns_ne_cell n d)⟩
    slots := by
      refine ⟨_, own, hn m n, fun j y e => ?_, fun j o => f1 j (ownedAt_set rfl o).1, fun j l o o' => f2 j l (ownedAt_set rfl o).1 (ownedAt_set rfl o').1⟩
      rw [getElem?_set]
      split
      · rename_i q; subst q
        rw [hi] at e; cases e
        split
        · exact .inl ⟨hk, v, by simp, hr.frz fz⟩
        · trivial
      · rename_i q
        have hne : y ≠ x := fun z => q (lay_inj R.nodup hi (z ▸ e))
        refine (k j y e).frz fz (fun _ => by simp [hne]) (fun c w e1 e2 => e2.sameBut hs (ns_ne_cell n e2)) (fun sl e1 e2 ob e3 => ?_)
        have kj := k j y e
        rw [e1] at kj
        have : own j ≠ env.locals := by
          cases sl with
          | ol xs => obtain ⟨_, _, _, vs, l, _⟩ := kj; exact ns_ne_list n l.isList
          | ob b => obtain ⟨_, _, _, l⟩ := kj; exact ns_ne_ba n l
          | _ => cases e2
        exact (hs.2 _ this).trans e3 }

/-- an owned thing is changed in its place -/
theorem SR.mutate (R : SR C lay base P wr env X σ h) {i : Nat} {x : Str} {a : Addr} {sl sl' : Slot} (hi : lay[i]? = some x) (hsl : σ[i]? = some sl) (ho : sl.isOwn = true) (ho' : sl'.isOwn = true)
    (ha : ∀ (m : Str → Option Value) (own : Nat → Addr), h.Ns env.locals m → SlotOk X h env m (own i) x (some sl) → own i = a ∧ SlotOk X h' env m (own i) x (some sl'))
    (hal : (h'.get? a).isSome = true) (hs : Heap.SameBut a h h') : SR C lay base P wr env X (σ.set i sl') h' := by
  obtain ⟨m, own, n, k, f1, f2⟩ := R.slots
  have ki := k i x hi
  rw [hsl] at ki
  obtain ⟨ea, ki'⟩ := ha m own n ki
  have oi : ownedAt σ i := ⟨sl, hsl, ho⟩
  have hil : i < σ.length := (List.getElem?_eq_some_iff.mp hsl).1
  have hXa : X (own i) ∧ (∃ vs, h.IsList (own i) vs) ∨ X (own i) ∧ ∃ b, h.get? (own i) = some (baObj b) := by
    cases sl with
    | ol xs => obtain ⟨_, _, q, vs, l, _⟩ := ki; exact .inl ⟨q, _, l.isList⟩
    | ob b => obtain ⟨_, _, q, l⟩ := ki; exact .inr ⟨q, _, l⟩
    | _ => cases ho
  have xa : X a := by rw [← ea]; exact hXa.elim (·.1) (·.1)
  have neL : env.locals ≠ a := by
    rw [← ea]
    rcases hXa with ⟨_, vs, l⟩ | ⟨_, b, l⟩
    · exact fun q => ns_ne_list n l q.symm
    · exact fun q => ns_ne_ba n l q.symm
  have neC : ∀ c v, h.IsCell c v → c ≠ a := fun c v hc => by
    rw [← ea]
    rcases hXa with ⟨_, vs, l⟩ | ⟨_, b, l⟩
    · exact fun q => cell_ne_list hc l q.symm
    · exact fun q => cell_ne_ba hc l q.symm
  have fz := frz_but xa hs
  have own' : ∀ j, ownedAt (σ.set i sl') j → ownedAt σ j := fun j o => by
    by_cases q : i = j
    · subst q; exact oi
    · obtain ⟨s2, e, o2⟩ := o
      rw [getElem?_set, if_neg q] at e
      exact ⟨s2, e, o2⟩
  exact {
    gl := R.gl, liveP := R.liveP, sub := R.sub, new := R.new, locX := R.locX, locN := R.locN, apart := R.apart, hasCell := R.hasCell, nodup := R.nodup, len := by simpa using R.len
    keep := keep_but R.keep (ea ▸ f1 i oi) hs
    live := live_but R.live hs hal
    cells := fun q y c e => let ⟨u, b, w, d⟩ := R.cells q y c e; ⟨u, b, w, d.sameBut hs (neC c w d)⟩
    slots := by
      refine ⟨m, own, n.sameBut hs neL, fun j y e => ?_, fun j o => f1 j (own' j o), fun j l o o' => f2 j l (own' j o) (own' l o')⟩
      rw [getElem?_set]
      split
      · rename_i q; subst q
        rw [hi] at e; cases e
        first | exact ki' | (rw [if_pos hil]; exact ki')
      · rename_i q
        refine (k j y e).frz fz (fun _ => rfl) (fun c w e1 e2 => e2.sameBut hs (neC c w e2)) (fun s2 e1 e2 ob e3 => ?_)
        have : own j ≠ a := fun z => q (f2 i j oi ⟨s2, e1, e2⟩ (ea.trans z.symm))
        exact (hs.2 _ this).trans e3 }

/-- an owned thing is frozen -/
theorem SR.freeze (R : SR C lay base P wr env X σ h) {i : Nat} {x : Str} (hi : lay[i]? = some x) : ∃ Y, SR C lay base P wr env Y (σ.modify i Slot.shown) h ∧ Tr X h Y h := by
  obtain ⟨m, own, n, k, f1, f2⟩ := R.slots
  have gm : ∀ j, (σ.modify i Slot.shown)[j]? = if i = j then (σ[j]?).map Slot.shown else σ[j]? := fun j => by
    rw [List.getElem?_modify]
    split <;> cases σ[j]? <;> simp
  by_cases ho : ownedAt σ i
  · obtain ⟨sl, hsl, hown⟩ := ho
    have ki := k i x hi
    rw [hsl] at ki
    have oi : ownedAt σ i := ⟨sl, hsl, hown⟩
    have hX : X (own i) := by
      cases sl with
      | ol xs => exact ki.2.2.1
      | ob b => exact ki.2.2.1
      | _ => cases hown
    have neL : own i ≠ env.locals := by
      cases sl with
      | ol xs => obtain ⟨_, _, _, vs, l, _⟩ := ki; exact ns_ne_list n l.isList
      | ob b => obtain ⟨_, _, _, l⟩ := ki; exact ns_ne_ba n l
      | _ => cases hown
    have neC : ∀ c v, h.IsCell c v → own i ≠ c := fun c v hc => by
      cases sl with
      | ol xs => obtain ⟨_, _, _, vs, l, _⟩ := ki; exact cell_ne_list hc l.isList
      | ob b => obtain ⟨_, _, _, l⟩ := ki; exact cell_ne_ba hc l
      | _ => cases hown
    have weak : ∀ a, (X a ∧ a ≠ own i) → X a := fun a y => y.1
    have own' : ∀ j, ownedAt (σ.modify i Slot.shown) j → ownedAt σ j ∧ j ≠ i := fun j ⟨s2, e, o⟩ => by
      rw [gm] at e
      split at e
      · rename_i q; subst q
        rw [hsl] at e
        cases sl <;> cases e <;> cases o
      · rename_i q; exact ⟨⟨s2, e, o⟩, fun z => q z.symm⟩
    refine ⟨fun a => X a ∧ a ≠ own i, {
      gl := R.gl, liveP := R.liveP, locN := R.locN, apart := R.apart, hasCell := R.hasCell, nodup := R.nodup, len := by simpa using R.len, keep := R.keep
      sub := fun a p => ⟨R.sub a p, fun q => by have := R.liveP a p; rw [q, f1 i oi] at this; cases this⟩
      new := fun a y => R.new a y.1
      live := fun a y => R.live a y.1
      locX := ⟨R.locX, fun q => neL q.symm⟩
      cells := fun q y c e => let ⟨u, b, w, d⟩ := R.cells q y c e; ⟨⟨u, fun z => neC c w d z.symm⟩, b, w, d⟩
      slots := ⟨m, own, n, fun j y e => ?_, fun j o => f1 j (own' j o).1, fun j l o o' => f2 j l (own' j o).1 (own' l o').1⟩ }, ⟨fun b o e _ => e, fun a y => .inl y.1⟩⟩
    rw [gm]
    split
    · rename_i q; subst q
      rw [hi] at e; cases e
      rw [hsl]
      cases sl with
      | ol xs => obtain ⟨k1, e, _, vs, l, r⟩ := ki; exact .inl ⟨k1, _, e, own i, vs, rfl, fun y => y.2 rfl, l.isList, r.weak weak⟩
      | ob b => obtain ⟨k1, e, _, l⟩ := ki; exact .inl ⟨k1, _, e, own i, rfl, fun y => y.2 rfl, l⟩
      | _ => cases hown
    · rename_i q
      have kj := k j y e
      cases hj : σ[j]? with
      | none => trivial
      | some s2 =>
        rw [hj] at kj
        cases s2 with
        | un => trivial
        | fz p =>
          rcases kj with ⟨k1, v, e, r⟩ | ⟨k1, c, v, e1, e2, r⟩
          · exact .inl ⟨k1, v, e, r.weak weak⟩
          · exact .inr ⟨k1, c, v, e1, e2, r.weak weak⟩
        | ol xs => obtain ⟨k1, e, u, vs, l, r⟩ := kj; exact ⟨k1, e, ⟨u, fun z => q (f2 i j oi ⟨_, hj, rfl⟩ z.symm)⟩, vs, l, r.weak weak⟩
        | ob b => obtain ⟨k1, e, u, l⟩ := kj; exact ⟨k1, e, ⟨u, fun z => q (f2 i j oi ⟨_, hj, rfl⟩ z.symm)⟩, l⟩
  · refine ⟨X, ?_, Tr.refl X h⟩
    have : σ.modify i Slot.shown = σ := by
      apply List.ext_getElem?
      intro j
      rw [gm]
      split
      · rename_i q; subst q
        cases hj : σ[i]? with
        | none => rfl
        | some s2 =>
          cases s2 with
          | ol xs => exact absurd ⟨_, hj, rfl⟩ ho
          | ob b => exact absurd ⟨_, hj, rfl⟩ ho
          | _ => rfl
      · rfl
    rw [this]; exact R

/-- a new thing, held by a local name alone -/
theorem SR.own (R : SR C lay base P wr env X σ h) {i : Nat} {x : Str} {a : Addr} {sl : Slot} {h1 : Heap} (hi : lay[i]? = some x) (hk : env.kindOf x = some .local) (ha : h.get? a = none) (hsl : sl.isOwn = true)
    (hs1 : Stays h h1) (hok : ∀ Y, (∀ b, Y b → X b ∨ b = a) → Y a → ∀ m, m x = some (.ref a) → SlotOk Y h' env m a x (some sl)) (hal : (h1.get? a).isSome = true)
    (hn : ∀ m, h1.Ns env.locals m → h'.Ns env.locals (fun y => if y = x then some (.ref a) else m y)) (hs : Heap.SameBut env.locals h1 h') : ∃ Y, SR C lay base P wr env Y (σ.set i sl) h' ∧ Tr X h Y h' := by
  have R1 := R.stays hs1
  obtain ⟨m, own, n, k, f1, f2⟩ := R1.slots
  have baseA : base a = none := by
    cases e : base a with
    | none => rfl
    | some o => rw [R.keep a o e] at ha; cases ha
  have neL : a ≠ env.locals := fun q => by have := R.live _ R.locX; rw [← q, ha] at this; cases this
  have hl : (h'.get? env.locals).isSome = true := by obtain ⟨o, _, _, e, _⟩ := hn m n; rw [e]; rfl
  have fz : Frz (fun b => X b ∨ b = a) h1 h' := frz_but (.inl R.locX) hs
  have up : ∀ {p : PV} {v : Value}, Rep X h p v → Rep (fun b => X b ∨ b = a) h' p v := fun {p v} r => r.mono fun b o e nx _ => ⟨fz b o (hs1 b o e) (fun y => y.elim nx fun q => by rw [q, ha] at e; cases e), fun y => y.elim nx fun q => by rw [q, ha] at e; cases e⟩
  obtain ⟨m0, own0, n0, k0, g1, g2⟩ := R.slots
  have upL : ∀ {p : List PV} {v : List Value}, RepL X h p v → RepL (fun b => X b ∨ b = a) h' p v := fun {p v} r => r.mono fun b o e nx _ => ⟨fz b o (hs1 b o e) (fun y => y.elim nx fun q => by rw [q, ha] at e; cases e), fun y => y.elim nx fun q => by rw [q, ha] at e; cases e⟩
  have n1 := n0.keeps hs1
  refine ⟨fun b => X b ∨ b = a, {
    gl := R.gl, liveP := R.liveP, locN := R.locN, apart := R.apart, hasCell := R.hasCell, nodup := R.nodup, len := by simpa using R.len
    keep := keep_but R1.keep R.locN hs
    sub := fun b p => .inl (R.sub b p)
    new := fun b y => y.elim (R.new b) fun q => .inr (q ▸ baseA)
    live := live_but (h := h1) (fun b y => y.elim (R1.live b) fun q => q ▸ hal) hs hl
    locX := .inl R.locX
    cells := fun q y c e => let ⟨u, b, w, d⟩ := R1.cells q y c e; ⟨.inl u, b, w, d.sameBut hs (ns_ne_cell n d)⟩
    slots := by
      refine ⟨_, fun j => if j = i then a else own0 j, hn m0 n1, fun j y e => ?_, fun j o => ?_, fun j l o o' e => ?_⟩
      · rw [getElem?_set]
        split
        · rename_i q; subst q
          rw [hi] at e; cases e
          split
          · simp only [if_true]
            exact hok _ (fun b y => y) (.inr rfl) _ (by simp)
          · trivial
        · rename_i q
          have hne : y ≠ x := fun z => q (lay_inj R.nodup hi (z ▸ e))
          have q' : ¬ j = i := fun z => q z.symm
          show SlotOk _ _ _ _ (if j = i then a else own0 j) _ _
          rw [if_neg q']
          have kj := k0 j y e
          cases hj : σ[j]? with
          | none => trivial
          | some s2 =>
            rw [hj] at kj
            cases s2 with
            | un => trivial
            | fz p =>
              rcases kj with ⟨k1, v, e, r⟩ | ⟨k1, c, v, e1, e2, r⟩
              · exact .inl ⟨k1, v, by simp [hne, e], up r⟩
              · exact .inr ⟨k1, c, v, e1, (e2.keeps hs1).sameBut hs (ns_ne_cell n1 (e2.keeps hs1)), up r⟩
            | ol xs =>
              obtain ⟨k1, e, u, vs, l, r⟩ := kj
              refine ⟨k1, by simp [hne, e], .inl u, vs, ?_, upL r⟩
              obtain ⟨o, ho, w⟩ := l
              exact ⟨o, (hs.2 _ (ns_ne_list n0 (MList.isList ⟨o, ho, w⟩))).trans (hs1 _ _ ho), w⟩
            | ob b =>
              obtain ⟨k1, e, u, l⟩ := kj
              exact ⟨k1, by simp [hne, e], .inl u, (hs.2 _ (ns_ne_ba n0 l)).trans (hs1 _ _ l)⟩
      · dsimp only
        split
        · exact baseA
        · rename_i q
          obtain ⟨s2, e, o2⟩ := o
          rw [getElem?_set, if_neg (fun z => q z.symm)] at e
          exact g1 j ⟨s2, e, o2⟩
      · dsimp only at e
        have alive : ∀ j, ownedAt σ j → ∀ y, lay[j]? = some y → own0 j ≠ a := fun j ⟨s2, e, o2⟩ y ey q => by
          have kj := k0 j y ey
          rw [e] at kj
          cases s2 with
          | ol xs => obtain ⟨_, _, _, vs, ⟨o, ho, _⟩, _⟩ := kj; rw [q, ha] at ho; cases ho
          | ob b => obtain ⟨_, _, _, l⟩ := kj; rw [q, ha] at l; cases l
          | _ => cases o2
        have back : ∀ j, j ≠ i → ownedAt (σ.set i sl) j → ownedAt σ j := fun j q ⟨s2, e, o2⟩ => ⟨s2, by rw [getElem?_set, if_neg (fun z => q z.symm)] at e; exact e, o2⟩
        have alive' : ∀ j, ownedAt σ j → own0 j ≠ a := fun j hj => by
          have hl : j < lay.length := by
            obtain ⟨s2, e, _⟩ := hj
            exact Nat.lt_of_lt_of_le (List.getElem?_eq_some_iff.mp e).1 R.len
          exact alive j hj _ (List.getElem?_eq_getElem hl)
        by_cases qj : j = i <;> by_cases ql : l = i
        · rw [qj, ql]
        · rw [if_pos qj, if_neg ql] at e; exact absurd e.symm (alive' l (back l ql o'))
        · rw [if_neg qj, if_pos ql] at e; exact absurd e (alive' j (back j qj o))
        · rw [if_neg qj, if_neg ql] at e; exact g2 j l (back j qj o) (back l ql o') e }, ⟨fun b o e nx => fz b o (hs1 b o e) (fun y => y.elim nx fun q => by rw [q, ha] at e; cases e), fun b y => y.elim .inl fun q => .inr (q ▸ ha)⟩⟩
end
end Mine

end
section
open PySem PySem.W PySem.Calls PyProof.Rows
set_option linter.unusedVariables false
set_option maxRecDepth 100000
namespace Mine

noncomputable def stepInts (a c : Int) (n : Nat) : List PV := (List.range n).map fun (i : Nat) => PV.int (a + (i : Int) * c)
noncomputable def byteInts' (b : List UInt8) : List PV := b.map fun c => PV.int (c.toNat : Int)
theorem stepInts_succ (a c : Int) (n : Nat) : stepInts a c (n + 1) = .int a :: stepInts (a + c) c n := by
  unfold stepInts
  rw [List.range_succ_eq_map]
  simp only [List.map_cons, List.map_map]
  congr 1
  · simp
  · apply List.map_congr_left
    intro i _
    simp only [Function.comp]
    congr 1
    rw [Nat.succ_eq_add_one]; push_cast; rw [Int.add_mul, Int.one_mul]; omega

noncomputable def pvIter : PV → Option (List PV)
  | .list xs => some xs
  | .tuple xs => some xs
  | .bytes b => some (byteInts' b)
  | .range a b c => if Builtin.Range.small a b c = true then some (stepInts a c (Builtin.Range.rangeSize a b c).toNat) else none
  | _ => none

noncomputable def ItAt (X : Addr → Prop) (h : Heap) (I : Addr) (xs : List PV) : Prop :=
  (∃ l vs i, h.IsListIter I l i ∧ ¬ X l ∧ h.IsList l (List.toArray vs) ∧ RepL X h xs (vs.drop i)) ∨
  (∃ l vs i, h.IsTupleIter I l i ∧ ¬ X l ∧ h.IsTuple l (List.toArray vs) ∧ RepL X h xs (vs.drop i)) ∨
  (∃ a c n, IsRangeIter h I a ((n : Nat) : Int) c ∧ xs = stepInts a c n) ∨
  (∃ b t i, KBw.IsBytesIter h I (List.toArray b) t i ∧ xs = byteInts' (b.drop i))

theorem ItAt.mono {X Y : Addr → Prop} {h h' : Heap} {I : Addr} {xs : List PV} (y : ItAt X h I xs) (hI : ∀ o, h.get? I = some o → h'.get? I = some o) (hs : ∀ b o, h.get? b = some o → ¬ X b → h'.get? b = some o ∧ ¬ Y b) : ItAt Y h' I xs := by
  rcases y with ⟨l, vs, i, ⟨o, e, q⟩, e2, ⟨o', e', q'⟩, r⟩ | ⟨l, vs, i, ⟨o, e, q⟩, e2, ⟨o', e', q'⟩, r⟩ | ⟨a, c, n, e, q⟩ | ⟨b, t, i, ⟨o, e, q⟩, r⟩
  · exact .inl ⟨l, vs, i, ⟨o, hI _ e, q⟩, (hs _ _ e' e2).2, ⟨o', (hs _ _ e' e2).1, q'⟩, r.mono fun b o e n _ => hs b o e n⟩
  · exact .inr (.inl ⟨l, vs, i, ⟨o, hI _ e, q⟩, (hs _ _ e' e2).2, ⟨o', (hs _ _ e' e2).1, q'⟩, r.mono fun b o e n _ => hs b o e n⟩)
  · exact .inr (.inr (.inl ⟨a, c, n, hI _ e, q⟩))
  · exact .inr (.inr (.inr ⟨b, t, i, ⟨o, hI _ e, q⟩, r⟩))
theorem ItAt.alive {X : Addr → Prop} {h : Heap} {I : Addr} {xs : List PV} (y : ItAt X h I xs) : (h.get? I).isSome = true := by
  rcases y with ⟨l, vs, i, ⟨o, e, q⟩, _⟩ | ⟨l, vs, i, ⟨o, e, q⟩, _⟩ | ⟨a, c, n, e, q⟩ | ⟨b, t, i, ⟨o, e, q⟩, r⟩
  · rw [e]; rfl
  · rw [e]; rfl
  · rw [show h.get? I = some _ from e]; rfl
  · rw [e]; rfl

section
variable {C : Ctx} {A : Around} {X : Addr → Prop} {s : Shared} {E : Value → Shared → Prop}
theorem Rep.hide {h h' : Heap} {I : Addr} {p : PV} {v : Value} (r : Rep X h p v) (f : h.get? I = none) (s : Stays h h') : Rep (fun a => X a ∨ a = I) h' p v :=
  r.mono fun b o e n _ => ⟨s b o e, fun y => y.elim n fun q => by rw [q, f] at e; cases e⟩
theorem RepL.hide {h h' : Heap} {I : Addr} {p : List PV} {v : List Value} (r : RepL X h p v) (f : h.get? I = none) (s : Stays h h') : RepL (fun a => X a ∨ a = I) h' p v :=
  r.mono fun b o e n _ => ⟨s b o e, fun y => y.elim n fun q => by rw [q, f] at e; cases e⟩

/-- iter(v) -/
theorem iter_ok {p : PV} {v : Value} {xs : List PV} (hr : Rep X s.heap p v) (hp : pvIter p = some xs) :
    wpAny C.M A (pyIter v) (fun it s' => ∃ I, it = .ref I ∧ s.heap.get? I = none ∧ Kp s s' ∧ ItAt (fun a => X a ∨ a = I) s'.heap I xs) E s := by
  have fr := size_none s.heap
  cases p with
  | list ps =>
    cases hp
    obtain ⟨l, vs, rfl, nx, hl, rl⟩ := hr
    have st := stays_push s.heap { cls := .type "list_iterator", data := .fields #[.ref l, .int 0 0] }
    refine wpAny_pyIter_list hl ⟨_, rfl, fr, Kp.of' st, .inl ⟨l, vs, 0, ⟨_, Heap.get?_push_size _ rfl, rfl, rfl⟩, ?_, ?_, ?_⟩⟩
    · rintro (q | q)
      · exact nx q
      · obtain ⟨o, e, _⟩ := hl; rw [q, fr] at e; cases e
    · obtain ⟨o, e, q⟩ := hl; exact ⟨o, st _ _ e, q⟩
    · exact rl.hide fr st
  | tuple ps =>
    cases hp
    obtain ⟨l, vs, rfl, nx, hl, rl⟩ := hr
    have st := stays_push s.heap { cls := .type "tuple_iterator", data := .fields #[.ref l, .int 0 0] }
    refine wpAny_pyIter_tuple hl ⟨_, rfl, fr, Kp.of' st, .inr (.inl ⟨l, vs, 0, ⟨_, Heap.get?_push_size _ rfl, rfl, rfl⟩, ?_, ?_, ?_⟩)⟩
    · rintro (q | q)
      · exact nx q
      · obtain ⟨o, e, _⟩ := hl; rw [q, fr] at e; cases e
    · obtain ⟨o, e, q⟩ := hl; exact ⟨o, st _ _ e, q⟩
    · exact rl.hide fr st
  | bytes b =>
    cases hp
    obtain ⟨t, rfl⟩ := hr
    exact KBw.pyIter_bytes ⟨_, rfl, fr, Kp.of' (stays_push _ _), .inr (.inr (.inr ⟨b, t, 0, ⟨_, Heap.get?_push_size _ rfl, rfl, rfl⟩, rfl⟩))⟩
  | range a b c =>
    change (if Builtin.Range.small a b c = true then some (stepInts a c (Builtin.Range.rangeSize a b c).toNat) else none) = some xs at hp
    split at hp
    · rename_i hsm
      cases hp
      obtain ⟨q, t, u, z, rfl, nx, hr⟩ := hr
      refine wpAny_pyIter_range hr hsm ⟨_, rfl, fr, Kp.of' (stays_push _ _), .inr (.inr (.inl ⟨a, c, (Builtin.Range.rangeSize a b c).toNat, ?_, rfl⟩))⟩
      have h0 : 0 ≤ Builtin.Range.rangeSize a b c := by
        unfold Builtin.Range.rangeSize
        split
        · split
          · have := Int.ediv_nonneg (a := b - a - 1) (b := c) (by omega) (by omega); omega
          · omega
        · split
          · have : 0 ≤ (a - b - 1) / (-c) := by
              rcases Int.lt_or_le c 0 with h | h
              · exact Int.ediv_nonneg (by omega) (by omega)
              · have : c = 0 := by omega
                subst this; simp
            omega
          · omega
      show IsRangeIter _ _ a ((Builtin.Range.rangeSize a b c).toNat : Int) c
      rw [Int.toNat_of_nonneg h0]
      exact Heap.get?_push_size _ rfl
    · cases hp
  | _ => cases hp

/-- what next(it) gives -/
noncomputable def NextIs (X : Addr → Prop) (I : Addr) (h : Heap) (r : Option Value) : List PV → Prop
  | [] => r = none
  | x :: rest => ∃ v, r = some v ∧ Rep X h x v ∧ ItAt X h I rest
/-- next(it) -/
theorem next_ok {I : Addr} {xs : List PV} (hX : X I) (hh : A.handled = none) (y : ItAt X s.heap I xs) :
    wpAny C.M A (pyNext (.ref I)) (fun r s' => (∃ h' tk, s' = { s with heap := h', toks := tk } ∧ (∀ b o, b ≠ I → s.heap.get? b = some o → h'.get? b = some o)) ∧
      NextIs X I s'.heap r xs) E s := by
  rcases y with ⟨l, vs, i, hi, nx, hl, r⟩ | ⟨l, vs, i, hi, nx, hl, r⟩ | ⟨a, c, n, hi, rfl⟩ | ⟨b, t, i, hi, rfl⟩
  · have ne : l ≠ I := fun q => nx (q ▸ hX)
    cases xs with
    | nil =>
      have hd : vs.drop i = [] := r
      refine wpAny_pyNext_list_end hh hi hl (by simpa using List.drop_eq_nil_iff.mp hd) fun h' he => ⟨⟨h', s.toks, rfl, fun b o n e => he b o n e⟩, rfl⟩
    | cons x rest =>
      obtain ⟨v, r', e, rv, rr⟩ := r
      have hx : (List.toArray vs)[i]? = some v := by
        have : (vs.drop i)[0]? = some v := by rw [e]; rfl
        simpa using this
      refine wpAny_pyNext_list_item hi hl hx fun h' hi' hs => ⟨⟨h', s.toks, rfl, fun b o n e => hs.extBut b o n e⟩, v, rfl, ?_, .inl ⟨l, vs, i + 1, hi', nx, hl.extBut hs.extBut ne, ?_⟩⟩
      · exact rv.frz (frz_but hX hs)
      · have : vs.drop (i + 1) = r' := by rw [← List.drop_drop, e]; rfl
        rw [this]; exact rr.frz (frz_but hX hs)
  · have ne : l ≠ I := fun q => nx (q ▸ hX)
    cases xs with
    | nil =>
      have hd : vs.drop i = [] := r
      refine wpAny_pyNext_tuple_end hh hi hl (by simpa using List.drop_eq_nil_iff.mp hd) fun h' he => ⟨⟨h', s.toks, rfl, fun b o n e => he b o n e⟩, rfl⟩
    | cons x rest =>
      obtain ⟨v, r', e, rv, rr⟩ := r
      have hx : (List.toArray vs)[i]? = some v := by
        have : (vs.drop i)[0]? = some v := by rw [e]; rfl
        simpa using this
      refine wpAny_pyNext_tuple_item hi hl hx fun h' hi' hs => ⟨⟨h', s.toks, rfl, fun b o n e => hs.extBut b o n e⟩, v, rfl, ?_, .inr (.inl ⟨l, vs, i + 1, hi', nx, hl.extBut hs.extBut ne, ?_⟩)⟩
      · exact rv.frz (frz_but hX hs)
      · have : vs.drop (i + 1) = r' := by rw [← List.drop_drop, e]; rfl
        rw [this]; exact rr.frz (frz_but hX hs)
  · cases n with
    | zero => exact wpAny_pyNext_range_end hh hi (by simp) fun h' he => ⟨⟨h', s.toks, rfl, fun b o n e => he b o n e⟩, rfl⟩
    | succ n =>
      rw [stepInts_succ]
      refine wpAny_pyNext_range_item hi (by omega) fun h' hi' hs => ⟨⟨h', s.toks + 1, rfl, fun b o n e => hs.extBut b o n e⟩, _, rfl, ⟨_, rfl⟩, .inr (.inr (.inl ⟨a + c, c, n, ?_, rfl⟩))⟩
      have : ((n + 1 : Nat) : Int) - 1 = (n : Int) := by omega
      rw [this] at hi'; exact hi'
  · cases hb : b.drop i with
    | nil =>
      exact KBw.next_end hh hi (by simpa using List.drop_eq_nil_iff.mp hb) fun h' he => ⟨⟨h', s.toks, rfl, fun b o n e => he b o n e⟩, rfl⟩
    | cons c rest =>
      have hx : (List.toArray b)[i]? = some c := by
        have : (b.drop i)[0]? = some c := by rw [hb]; rfl
        simpa using this
      refine KBw.next_item hi hx fun h' hi' hs => ⟨⟨h', s.toks + 1, rfl, fun b o n e => hs.extBut b o n e⟩, _, rfl, ⟨_, rfl⟩, .inr (.inr (.inr ⟨b, t, i + 1, hi', ?_⟩))⟩
      have : b.drop (i + 1) = rest := by rw [← List.drop_drop, hb]; rfl
      rw [this]; rfl

theorem iter_again {I : Addr} {xs : List PV} {Q : Value → Shared → Prop} (y : ItAt X s.heap I xs) (hQ : Q (.ref I) s) : wpAny C.M A (pyIter (.ref I)) Q E s := by
  rcases y with ⟨l, vs, i, hi, nx, hl, r⟩ | ⟨l, vs, i, hi, nx, hl, r⟩ | ⟨a, c, n, hi, rfl⟩ | ⟨b, t, i, hi, rfl⟩
  · exact wpAny_pyIter_listiter hi hQ
  · exact wpAny_pyIter_tupleiter hi hQ
  · exact wpAny_pyIter_rangeiter hi hQ
  · exact KBw.pyIter_self hi hQ

theorem go_plain {n : String} {vs : Array Value} {o : Obj} {I : Addr} {elts : List Expr} {k : Nat} {pos : Pos} {v : Value} {Q : Unit → Shared → Prop} (ho : s.heap.get? I = some o) (hc : o.cls = .type n) (hd : o.data = .fields vs)
    (hn : (["enumerate", "zip", "dict_itemiterator", "dict_reverseitemiterator", "odict_iterator", "itertools.zip_longest", "itertools.pairwise"].contains n) = false) (hQ : Q () s) :
    wpAny C.M A (letOwnedTupleGo (.Tuple elts k pos) (.ref I) v) Q E s := by
  cases v with
  | ref T =>
    unfold letOwnedTupleGo
    refine wpAny_bind (wpAny_load ho ?_)
    rw [hc, hd]
    show wpAny _ A (if (["enumerate", "zip", "dict_itemiterator", "dict_reverseitemiterator", "odict_iterator", "itertools.zip_longest", "itertools.pairwise"].contains n && vs[0]? == some (rawInt T)) = true then _ else _) Q E s
    rw [if_neg (by rw [hn, Bool.false_and]; decide)]
    exact wpAny_pure hQ
  | _ => exact wpAny_pure hQ
theorem go_ok {I : Addr} {xs : List PV} {elts : List Expr} {k : Nat} {pos : Pos} {v : Value} {Q : Unit → Shared → Prop} (y : ItAt X s.heap I xs) (hQ : Q () s) : wpAny C.M A (letOwnedTupleGo (.Tuple elts k pos) (.ref I) v) Q E s := by
  rcases y with ⟨l, vs, i, ⟨o, e, q1, q2⟩, _⟩ | ⟨l, vs, i, ⟨o, e, q1, q2⟩, _⟩ | ⟨a, c, n, e, q⟩ | ⟨b, t, i, ⟨o, e, q1, q2⟩, r⟩
  · exact go_plain e q1 q2 (by decide) hQ
  · exact go_plain e q1 q2 (by decide) hQ
  · exact go_plain e rfl rfl (by decide) hQ
  · exact go_plain e q1 q2 (by decide) hQ
end
end Mine

end
section
open PySem PySem.W PySem.Calls PyProof.Rows
set_option linter.unusedVariables false
set_option maxRecDepth 100000
namespace Mine

section
variable {C : Ctx} {A : Around} {X : Addr → Prop} {s : Shared} {E : Value → Shared → Prop}

theorem Kp.but {s s' : Shared} {I : Addr} {h' : Heap} {tk : Nat} (f : s.heap.get? I = none) (k : Kp s s') (x : ∀ b o, b ≠ I → s'.heap.get? b = some o → h'.get? b = some o) : Kp s { s' with heap := h', toks := tk } := by
  obtain ⟨h1, k1, rfl, e1⟩ := k
  exact ⟨h', tk, rfl, fun b o e => x b o (fun q => by rw [q, f] at e; cases e) (e1 b o e)⟩

theorem draw_ok {I : Addr} (hX : X I) (hh : A.handled = none) : ∀ (xs : List PV) (s : Shared), ItAt X s.heap I xs →
    wpAny C.M A (draw (.ref I) xs.length) (fun vs s' => (∃ h' tk, s' = { s with heap := h', toks := tk } ∧ (∀ b o, b ≠ I → s.heap.get? b = some o → h'.get? b = some o)) ∧ RepL X s'.heap xs vs ∧ ItAt X s'.heap I []) E s
  | [], s, y => wpAny_pure ⟨⟨s.heap, s.toks, rfl, fun _ _ _ e => e⟩, rfl, y⟩
  | x :: xs, s, y => by
    show wpAny _ _ (pyNext (.ref I) >>= _) _ _ _
    refine wpAny_bind (wpAny_mono (next_ok hX hh y) (fun r s1 h1 => ?_) fun _ _ e => e)
    obtain ⟨⟨h', tk, rfl, fr⟩, v, rfl, rv, y'⟩ := h1
    refine wpAny_bind (wpAny_holding (wpAny_mono (draw_ok hX hh xs _ y') (fun vs s2 h2 => ?_) fun _ _ e => e))
    obtain ⟨⟨h2, tk2, rfl, fr2⟩, rl, y2⟩ := h2
    refine wpAny_pure ⟨⟨h2, tk2, rfl, fun b o n e => fr2 b o n (fr b o n e)⟩, .cons (rv.mono fun b o e n _ => ⟨fr2 b o (fun q => n (q ▸ hX)) e, n⟩) rl, y2⟩

noncomputable def pvSeq : PV → Option (List PV)
  | .list xs => some xs
  | .tuple xs => some xs
  | _ => none
theorem iterable_ok {p : PV} {v : Value} {xs : List PV} {Q : Bool → Shared → Prop} (hr : Rep X s.heap p v) (hp : pvSeq p = some xs) (hQ : Q false s) : wpAny C.M A (notIterableAtAll v) Q E s := by
  unfold notIterableAtAll
  cases p with
  | list ps =>
    obtain ⟨l, vs, rfl, nx, hl, rl⟩ := hr
    exact wpAny_bind (wpAny_specialOf hl.typeIs slot_list_iter.lookup (wpAny_pure hQ))
  | tuple ps =>
    obtain ⟨l, vs, rfl, nx, hl, rl⟩ := hr
    exact wpAny_bind (wpAny_specialOf (Heap.IsTuple.typeIs hl) F.slot_tuple_iter.lookup (wpAny_pure hQ))
  | _ => cases hp
theorem seq_iter {p : PV} {xs : List PV} (hp : pvSeq p = some xs) : pvIter p = some xs := by cases p <;> first | exact hp | cases hp

theorem unpack_ok {p : PV} {v : Value} {xs : List PV} {n : Nat} (lv : Live X s.heap) (hh : A.handled = none) (hr : Rep X s.heap p v) (hp : pvSeq p = some xs) (hn : xs.length = n) :
    wpAny C.M A (unpackItems v n none) (fun vs s' => Kp s s' ∧ RepL X s'.heap xs vs) E s := by
  subst hn
  unfold unpackItems
  refine wpAny_bind (iterable_ok hr hp ?_)
  simp only [Bool.false_eq_true, if_false]
  refine wpAny_bind (wpAny_holding (wpAny_mono (iter_ok (C := C) hr (seq_iter hp)) (fun it s1 h1 => ?_) fun _ _ e => e))
  obtain ⟨I, rfl, fr, k1, y⟩ := h1
  refine wpAny_bind (wpAny_holding (wpAny_mono (draw_ok (.inr rfl) hh xs s1 y) (fun vs s2 h2 => ?_) fun _ _ e => e))
  obtain ⟨⟨h2, tk2, rfl, f2⟩, rl, y2⟩ := h2
  rw [if_neg (by rw [rl.length]; exact Nat.lt_irrefl _)]
  refine wpAny_bind (wpAny_holding (wpAny_mono (next_ok (.inr rfl) hh y2) (fun r s3 h3 => ?_) fun _ _ e => e))
  obtain ⟨⟨h3, tk3, rfl, f3⟩, hr3⟩ := h3
  cases hr3
  simp only [Option.isSome_none, Bool.false_eq_true, if_false]
  refine wpAny_pure ⟨Kp.but fr k1 fun b o n e => f3 b o n (f2 b o n e), ?_⟩
  exact (rl.mono (Y := fun a => X a ∨ a = I) fun b o e n _ => ⟨f3 b o (fun q => n (.inr q)) e, n⟩).weak fun a x => .inl x
end

theorem ns_inj {h : Heap} {a : Addr} {m m' : Str → Option Value} (x : h.Ns a m) (y : h.Ns a m') : m = m' := by
  obtain ⟨o, es, ep, e1, e2, _, e3⟩ := x
  obtain ⟨o', es', ep', f1, f2, _, f3⟩ := y
  rw [e1] at f1; cases f1; rw [e2] at f2; cases f2
  funext n; rw [← e3, ← f3]

/-- a target and what a store through it does -/
noncomputable def TG (C : Ctx) (sc : Scope) (lay : List Str) (wr : Bool) (tgt : Expr) (b : PV → St → Option St) : Prop :=
  ∀ (A : Around) (env : Env) (base : Base) (P X : Addr → Prop) (σ σ' : St) (s : Shared) (p : PV) (v : Value), A.handled = none → EnvOk sc env → SR C lay base P wr env X σ s.heap → 0 < s.toks → Rep X s.heap p v → b p σ = some σ' →
    wpAny C.M A (assign tgt env v) (fun _ s' => (∃ h' tk, s' = { s with heap := h', toks := tk }) ∧ 0 < s'.toks ∧ SR C lay base P wr env X σ' s'.heap ∧ Frz X s.heap s'.heap) NoE s

/-- a name and what a store to it does -/
noncomputable def TN (C : Ctx) (sc : Scope) (lay : List Str) (wr : Bool) (x : Str) (i : Nat) : Prop :=
  ∀ (A : Around) (env : Env) (base : Base) (P X : Addr → Prop) (σ : St) (s : Shared) (p : PV) (v : Value), EnvOk sc env → SR C lay base P wr env X σ s.heap → 0 < s.toks → Rep X s.heap p v →
    wpAny C.M A (storeName env x v) (fun _ s' => (∃ h' tk, s' = { s with heap := h', toks := tk }) ∧ 0 < s'.toks ∧ SR C lay base P wr env X (σ.set i (.fz p)) s'.heap ∧ Frz X s.heap s'.heap) NoE s

theorem noClass {sc : Scope} {env : Env} (hE : EnvOk sc env) : (env.scope.kind == .class || (env.scope.kind == .module && env.locals != env.globals)) = false := by rw [hE.kind]; rfl

section
variable {C : Ctx} {sc : Scope} {lay : List Str} {wr : Bool}
theorem tn_local {x : Str} (i : Nat) (hi : lay[i]? = some x) (hk : sc.names.lookup x = some .local) : TN C sc lay wr x i := by
  intro A env base P X σ s p v hE R tk hr
  have hk' : env.kindOf x = some .local := by unfold Env.kindOf; rw [hE.scope]; exact hk
  obtain ⟨m, own, n, k, f1, f2⟩ := R.slots
  refine wpAny_storeName_local hk' n (fun h' hn hs => ⟨⟨h', _, rfl⟩, Nat.succ_pos _, ?_, frz_but R.locX hs⟩) (noClass hE)
  refine R.store_local hi hk' hr (fun m' n' => ?_) hs
  have : m' = m := ns_inj n' n
  rw [this]; exact hn
noncomputable def bName (i : Nat) : PV → St → Option St := fun p σ => some (σ.set i (.fz p))
theorem tg_name {x : Str} {pos : Pos} {i : Nat} (h : TN C sc lay wr x i) : TG C sc lay wr (.Name x pos) (bName i) := by
  intro A env base P X σ σ' s p v hA hE R tk hr hb
  cases hb
  exact wpAny_assign_Name (h A env base P X σ s p v hE R tk hr)

inductive TNs (C : Ctx) (sc : Scope) (lay : List Str) (wr : Bool) : List Expr → List Nat → Prop
  | nil : TNs C sc lay wr [] []
  | cons {x : Str} {pos : Pos} {i : Nat} {es : List Expr} {is : List Nat} (h : TN C sc lay wr x i) (t : TNs C sc lay wr es is) : TNs C sc lay wr (.Name x pos :: es) (i :: is)
noncomputable def setAll : St → List Nat → List PV → St
  | σ, i :: is, p :: ps => setAll (σ.set i (.fz p)) is ps
  | σ, _, _ => σ
theorem assignEach_cons {x : Str} {pos : Pos} {es : List Expr} {env : Env} : assignEach (.Name x pos :: es) env = (false, assign (.Name x pos) env) :: assignEach es env := rfl
theorem TNs.noStar {es : List Expr} {is : List Nat} (h : TNs C sc lay wr es is) {env : Env} : (assignEach es env).findIdx? (·.1) = none ∧ (assignEach es env).length = is.length := by
  induction h with
  | nil => exact ⟨rfl, rfl⟩
  | cons h t ih =>
    rw [assignEach_cons]
    exact ⟨by rw [List.findIdx?_cons, ih.1]; rfl, by simp [ih.2]⟩
theorem TNs.go {es : List Expr} {is : List Nat} (h : TNs C sc lay wr es is) : ∀ {A : Around} {env : Env} {base : Base} {P X : Addr → Prop} {σ : St} {s : Shared} {ps : List PV} {vs : List Value}, EnvOk sc env → SR C lay base P wr env X σ s.heap → 0 < s.toks → RepL X s.heap ps vs → ps.length = is.length →
    wpAny C.M A (assignInOrder ((assignEach es env).map (·.2)) vs) (fun _ s' => (∃ h' tk, s' = { s with heap := h', toks := tk }) ∧ 0 < s'.toks ∧ SR C lay base P wr env X (setAll σ is ps) s'.heap ∧ Frz X s.heap s'.heap) NoE s := by
  induction h with
  | nil =>
    intro A env base P X σ s ps vs hE R tk hr hl
    cases ps with
    | nil => rw [show vs = [] from hr]; exact wpAny_pure ⟨⟨_, _, rfl⟩, tk, R, fun _ _ e _ => e⟩
    | cons => cases hl
  | cons h t ih =>
    intro A env base P X σ s ps vs hE R tk hr hl
    cases ps with
    | nil => cases hl
    | cons p ps =>
      obtain ⟨v, vs', rfl, rv, rl⟩ := hr
      rw [assignEach_cons]
      refine wpAny_bind (wpAny_holding (wpAny_assign_Name (wpAny_mono (h A env base P X σ s p v hE R tk rv) (fun _ s1 h1 => ?_) fun _ _ e => e)))
      obtain ⟨⟨h1, tk1, rfl⟩, tp, R1, f1⟩ := h1
      refine wpAny_mono (ih hE R1 tp (rl.frz f1) (by simpa using hl)) (fun _ s2 h2 => ?_) fun _ _ e => e
      obtain ⟨⟨h2, tk2, rfl⟩, tp2, R2, f2⟩ := h2
      exact ⟨⟨_, _, rfl⟩, tp2, R2, fun b o e n => f2 b o (f1 b o e n) n⟩
noncomputable def bTuple (is : List Nat) : PV → St → Option St := fun p σ => (pvSeq p).bind fun xs => if xs.length = is.length then some (setAll σ is xs) else none
theorem tg_tuple {es : List Expr} {is : List Nat} {k : Nat} {pos : Pos} (h : TNs C sc lay wr es is) : TG C sc lay wr (.Tuple es k pos) (bTuple is) := by
  intro A env base P X σ σ' s p v hA hE R tk hr hb
  obtain ⟨xs, e1, hb⟩ := bind_some hb
  split at hb
  · rename_i hl
    cases hb
    rw [arm_assign_Tuple]
    refine wpAny_bind (wpAny_standAt ?_)
    unfold unpack
    rw [h.noStar.1, h.noStar.2]
    refine wpAny_bind (wpAny_holding (wpAny_mono (wpAny_toks (unpack_ok R.live hA hr e1 hl)) (fun vs s1 h1 => ?_) fun _ _ e => e.2))
    obtain ⟨tk1, k1, rl⟩ := h1
    refine wpAny_mono (h.go hE (R.stays k1.st) (Nat.lt_of_lt_of_le tk tk1) rl hl) (fun _ s2 h2 => ?_) fun _ _ e => e
    obtain ⟨⟨h2, tk2, rfl⟩, tp2, R2, f2⟩ := h2
    obtain ⟨h1, tk1', rfl, st1⟩ := k1
    exact ⟨⟨_, _, rfl⟩, tp2, R2, fun b o e n => f2 b o (st1 b o e) n⟩
  · cases hb
end
end Mine

end
section
open PySem PySem.W PySem.Calls PyProof.Rows
set_option linter.unusedVariables false
set_option maxRecDepth 100000
namespace Mine

structure CS (C : Ctx) (lay : List Str) (cenv : Env) (base : Base) (X : Addr → Prop) (D : Addr) (σf : St) (ys : List PV) (h : Heap) : Prop where
  gl : ∀ h, Held base h → C.Gl h
  keep : Held base h
  live : Live X h
  xC : X cenv.locals
  xD : X D
  bC : base cenv.locals = none
  bD : base D = none
  ns : ∃ m, h.Ns cenv.locals m
  acc : ∃ ws, MList h D (List.toArray ws) ∧ RepL X h ys ws
  nodup : lay.Nodup
  len : σf.length ≤ lay.length
  noOwn : ∀ i, ¬ ownedAt σf i
  frees : ∀ (i : Nat) (x : Str) (p : PV), lay[i]? = some x → σf[i]? = some (.fz p) → (cenv.kindOf x = some .cell ∨ cenv.kindOf x = some .free) ∧ ∃ c v, cenv.cells.lookup x = some c ∧ (∀ h', Held base h' → h'.IsCell c (some v)) ∧ Rep X h p v

theorem CS.neq {C : Ctx} {lay : List Str} {cenv : Env} {base : Base} {X : Addr → Prop} {D : Addr} {σf : St} {ys : List PV} {h : Heap} (c : CS C lay cenv base X D σf ys h) : D ≠ cenv.locals := by
  obtain ⟨m, n⟩ := c.ns
  obtain ⟨ws, l, _⟩ := c.acc
  exact ns_ne_list n l.isList

/-- the heap without the comprehension's own names -/
noncomputable def lessC (h : Heap) (L : Addr) : Base := fun a => if a = L then none else h.get? a

theorem CS.sr {C : Ctx} {lay : List Str} {cenv : Env} {base : Base} {X : Addr → Prop} {D : Addr} {σf : St} {ys : List PV} {h : Heap} (c : CS C lay cenv base X D σf ys h) :
    SR C lay (lessC h cenv.locals) (fun a => X a ∧ a ≠ cenv.locals) false cenv X σf h where
  gl := fun h' k => c.gl h' fun b o e => k b o (by unfold lessC; rw [if_neg (fun q => by rw [q, c.bC] at e; cases e)]; exact c.keep b o e)
  keep := fun b o e => by unfold lessC at e; split at e; cases e; exact e
  liveP := fun a p => by unfold lessC; rw [if_neg p.2]; exact c.live a p.1
  sub := fun a p => p.1
  new := fun a x => by
    by_cases q : a = cenv.locals
    · exact .inr (by unfold lessC; rw [if_pos q])
    · exact .inl ⟨x, q⟩
  live := c.live
  locX := c.xC
  locN := by unfold lessC; rw [if_pos rfl]
  cells := fun q => by cases q
  apart := fun q => by cases q
  hasCell := fun q => by cases q
  nodup := c.nodup
  len := c.len
  slots := by
    obtain ⟨m, n⟩ := c.ns
    refine ⟨m, fun _ => 0, n, fun i x e => ?_, fun i o => (c.noOwn i o).elim, fun i j o => (c.noOwn i o).elim⟩
    cases hs : σf[i]? with
    | none => trivial
    | some sl =>
      cases sl with
      | un => trivial
      | fz p =>
        obtain ⟨k, cc, v, e1, e2, r⟩ := c.frees i x p e hs
        exact .inr ⟨k, cc, v, e1, e2 h c.keep, r⟩
      | ol xs => exact (c.noOwn i ⟨_, hs, rfl⟩).elim
      | ob b => exact (c.noOwn i ⟨_, hs, rfl⟩).elim

/-- what one turn of a comprehension adds -/
noncomputable def EM (C : Ctx) (A : Around) (cenv : Env) (lay : List Str) (D : Addr) (body : Sem Unit) (f : St → Option (List PV)) : Prop :=
  ∀ (base : Base) (P X : Addr → Prop) (σ : St) (s : Shared) (ys zs : List PV) (ws : List Value), SR C lay base P false cenv X σ s.heap → (∀ h', (∀ b o, b ≠ cenv.locals → b ≠ D → s.heap.get? b = some o → h'.get? b = some o) → C.Gl h') → X D → D ≠ cenv.locals → MList s.heap D ws.toArray → RepL X s.heap ys ws → 0 < s.toks → f σ = some zs → (ys ++ zs).length ≤ 16777216 →
    wpAny C.M A body (fun _ s' => (∃ h' tk, s' = { s with heap := h', toks := tk }) ∧ 0 < s'.toks ∧ (∀ b o, b ≠ cenv.locals → b ≠ D → s.heap.get? b = some o → s'.heap.get? b = some o) ∧
      (∃ m, s'.heap.Ns cenv.locals m) ∧ ∃ ws', MList s'.heap D (List.toArray ws') ∧ RepL X s'.heap (ys ++ zs) ws') NoE s

section
variable {C : Ctx} {A : Around} {sc : Scope} {lay : List Str} {n : Nat} {cenv : Env} {D : Addr}
theorem append_ok {X : Addr → Prop} {s : Shared} {D : Addr} {ws : List Value} {ys : List PV} {p : PV} {v : Value} {Q : Value → Shared → Prop} (xD : X D) (hl : MList s.heap D ws.toArray) (hr : RepL X s.heap ys ws) (hv : Rep X s.heap p v) (hsz : (ys ++ [p]).length ≤ 16777216)
    (hQ : ∀ h', Heap.SameBut D s.heap h' → MList h' D (ws ++ [v]).toArray → RepL X h' (ys ++ [p]) (ws ++ [v]) → Q .none { s with heap := h' }) :
    wpAny C.M A (call (.builtin "list.append") [.ref D, v]) Q NoE s := by
  refine list_append_plainL hl.plain (fun h' l' hs => ?_) (by rw [sizeLine_eq]; have := hr.length; simp at hsz ⊢; omega)
  have fz := frz_but xD hs
  refine hQ h' hs ?_ ((hr.append (.cons hv .nil)).frz fz)
  exact MList.of (by simpa using l')

noncomputable def dEmit (d : St → Option PV) : St → Option (List PV) := fun σ => (d σ).map fun r => [r]
theorem em_elt {elt : Expr} {d : St → Option PV} (h : SE C sc lay n elt d) (hA : Lv n A) (hE : EnvOk sc cenv) : EM C A cenv lay D (do let _ ← call (.builtin "list.append") [.ref D, ← eval elt cenv]) (dEmit d) := by
  intro base P X σ s ys zs ws R hgl xD ne hl hr tk hf hsz
  obtain ⟨r, e1, e2⟩ := Option.map_eq_some_iff.mp hf
  subst e2
  refine wpAny_bind (h.then hA hE (R.pre tk) e1 fun v s1 k1 r1 p1 => ?_)
  obtain ⟨h1, tk1, rfl, st⟩ := k1
  refine wpAny_bind (append_ok xD (let ⟨o, e, q⟩ := hl; ⟨o, st _ _ e, q⟩) (hr.stays st) r1 hsz fun h' hs l' rl' => wpAny_pure ?_)
  refine ⟨⟨_, _, rfl⟩, p1.tok, fun b o nb nd e => (hs.2 b nd).trans (st b o e), ?_, _, l', rl'⟩
  obtain ⟨m, own, nn, _⟩ := R.slots
  exact ⟨m, (nn.keeps st).sameBut hs fun q => ne q.symm⟩

/-- all turns -/
noncomputable def dTurns (b : PV → St → Option St) (f : St → Option (List PV)) (σf : St) : List PV → Option (List PV)
  | [] => some []
  | x :: xs => (b x σf).bind fun σ' => (f σ').bind fun zs => (dTurns b f σf xs).bind fun r => some (zs ++ r)

theorem CS.step {base : Base} {X : Addr → Prop} {σf : St} {ys ys' : List PV} {h h' : Heap} (c : CS C lay cenv base X D σf ys h) (k : Held base h') (lv : Live X h') (ns : ∃ m, h'.Ns cenv.locals m) (acc : ∃ ws, MList h' D (List.toArray ws) ∧ RepL X h' ys' ws) (f : Frz X h h') :
    CS C lay cenv base X D σf ys' h' where
  gl := c.gl
  keep := k
  live := lv
  xC := c.xC
  xD := c.xD
  bC := c.bC
  bD := c.bD
  ns := ns
  acc := acc
  nodup := c.nodup
  len := c.len
  noOwn := c.noOwn
  frees := fun i x p e1 e2 => let ⟨q, cc, v, e3, e4, r⟩ := c.frees i x p e1 e2; ⟨q, cc, v, e3, e4, r.frz f⟩

theorem comp_loop {elt : Expr} {gens : List Comprehension} {csc : Scope} {pos : Pos} {dep : Nat} {tgt : Expr} {b : PV → St → Option St} {body : Sem Unit} {f : St → Option (List PV)} {p0 : Pos} {base : Base} {X : Addr → Prop} {σf : St} {I : Addr}
    (hA : Lv n A) (hE : EnvOk sc cenv) (ht : TG C sc lay false tgt b) (hgo : (∃ x p, tgt = .Name x p) ∨ ∃ es k p, tgt = .Tuple es k p) (hb : EM C A cenv lay D body f)
    (heq : compTurn (.ListComp elt gens csc pos) dep (.ref I) (.ref D) cenv = (standAt p0 >>= fun _ => pyNext (.ref I) >>= fun r => match r with
      | none => pure (.done .next)
      | some v => letOwnedTupleGo tgt (.ref I) v >>= fun _ => assign tgt cenv v >>= fun _ => body >>= fun _ => again (.compLoop (.ListComp elt gens csc pos) dep (.ref I) (.ref D) cenv)))
    (hX : X I) (bI : base I = none) (hID : I ≠ D) (hIC : I ≠ cenv.locals) :
    ∀ (xs : List PV) (ys zs : List PV) (s : Shared), CS C lay cenv base X D σf ys s.heap → ItAt X s.heap I xs → 0 < s.toks → dTurns b f σf xs = some zs → (ys ++ zs).length ≤ 16777216 →
      codeAny C.M A (.compLoop (.ListComp elt gens csc pos) dep (.ref I) (.ref D) cenv) (fun r s' => r = .ok .next ∧ (∃ h' tk, s' = { s with heap := h', toks := tk }) ∧ 0 < s'.toks ∧ CS C lay cenv base (fun a => X a ∧ a ≠ I) D σf (ys ++ zs) s'.heap) s := by
  intro xs
  induction xs with
  | nil =>
    intro ys zs s cs y tk hd hsz
    cases hd
    refine codeAny_of_tree ?_
    show wpAny _ _ ((compTurn (.ListComp elt gens csc pos) dep (.ref I) (.ref D) cenv).onRaise (fun x => do noteFrame x cenv; theTreesLotGoes x)) _ _ s
    refine wpAny_noted ?_
    rw [heq]
    refine wpAny_bind (wpAny_standAt (wpAny_bind (wpAny_mono (wpAny_toks (next_ok (C := C) (E := NoE) hX hA.hh y)) (fun r s1 h1 => ?_) fun _ _ h' => h'.2.elim)))
    obtain ⟨tk1, ⟨h1, tk', rfl, fr⟩, hr⟩ := h1
    cases hr
    refine wpAny_pure ⟨rfl, ⟨_, _, rfl⟩, Nat.lt_of_lt_of_le tk tk1, ?_⟩
    rw [List.append_nil]
    have mn : Frz X s.heap h1 := fun b o e nx => fr b o (fun q => nx (q ▸ hX)) e
    have wk : ∀ a, (X a ∧ a ≠ I) → X a := fun a x => x.1
    exact {
      gl := cs.gl, nodup := cs.nodup, len := cs.len, noOwn := cs.noOwn, bC := cs.bC, bD := cs.bD, xC := ⟨cs.xC, fun q => hIC q.symm⟩, xD := ⟨cs.xD, fun q => hID q.symm⟩
      keep := fun b o e => fr b o (fun q => by rw [q, bI] at e; cases e) (cs.keep b o e)
      live := fun a xa => by
        obtain ⟨o, e⟩ := Option.isSome_iff_exists.mp (cs.live a xa.1)
        rw [fr a o xa.2 e]; rfl
      ns := by
        obtain ⟨m, nn⟩ := cs.ns
        exact ⟨m, nn.at' fun o e => fr _ o (fun q => hIC q.symm) e⟩
      acc := by
        obtain ⟨ws, ⟨o, e, q⟩, r⟩ := cs.acc
        exact ⟨ws, ⟨o, fr _ o (fun q => hID q.symm) e, q⟩, (r.frz mn).weak wk⟩
      frees := fun i x p e1 e2 => let ⟨q, cc, v, e3, e4, r⟩ := cs.frees i x p e1 e2; ⟨q, cc, v, e3, e4, (r.frz mn).weak wk⟩ }
  | cons x xs ih =>
    intro ys zs s cs y tk hd hsz
    obtain ⟨σ', e1, hd⟩ := bind_some hd
    obtain ⟨z1, e2, hd⟩ := bind_some hd
    obtain ⟨z2, e3, hd⟩ := bind_some hd
    cases hd
    rw [← List.append_assoc] at hsz ⊢
    refine codeAny_of_tree ?_
    show wpAny _ _ ((compTurn (.ListComp elt gens csc pos) dep (.ref I) (.ref D) cenv).onRaise (fun x => do noteFrame x cenv; theTreesLotGoes x)) _ _ s
    refine wpAny_noted ?_
    rw [heq]
    refine wpAny_bind (wpAny_standAt (wpAny_bind (wpAny_mono (wpAny_toks (next_ok (C := C) (E := NoE) hX hA.hh y)) (fun r s1 h1 => ?_) fun _ _ h' => h'.2.elim)))
    obtain ⟨tk1, ⟨h1, tk', rfl, fr⟩, v, rfl, rv, y1⟩ := h1
    have mn : Frz X s.heap h1 := fun b o e nx => fr b o (fun q => nx (q ▸ hX)) e
    have cs1 : CS C lay cenv base X D σf ys h1 := by
      refine cs.step (fun b o e => fr b o (fun q => by rw [q, bI] at e; cases e) (cs.keep b o e)) (fun a xa => ?_) ?_ ?_ mn
      · by_cases q : a = I
        · rw [q]; exact y1.alive
        · obtain ⟨o, e⟩ := Option.isSome_iff_exists.mp (cs.live a xa)
          rw [fr a o q e]; rfl
      · obtain ⟨m, nn⟩ := cs.ns
        exact ⟨m, nn.at' fun o e => fr _ o (fun q => hIC q.symm) e⟩
      · obtain ⟨ws, ⟨o, e, q⟩, r⟩ := cs.acc
        exact ⟨ws, ⟨o, fr _ o (fun q => hID q.symm) e, q⟩, r.frz mn⟩
    have tkp : 0 < tk' := Nat.lt_of_lt_of_le tk tk1
    have go : ∀ {Q : Unit → Shared → Prop}, Q () { s with heap := h1, toks := tk' } → wpAny C.M A (letOwnedTupleGo tgt (.ref I) v) Q NoE { s with heap := h1, toks := tk' } := fun {Q} q => by
      rcases hgo with ⟨x, p, rfl⟩ | ⟨es, k, p, rfl⟩
      · exact wpAny_pure q
      · exact go_ok y1 q
    refine wpAny_bind (wpAny_mono (go ?_) (fun _ _ q => q) fun _ _ q => q.elim)
    refine wpAny_bind (wpAny_mono (ht A cenv _ _ X σf σ' _ x v hA.hh hE cs1.sr tkp rv e1) (fun _ s2 h2 => ?_) fun _ _ q => q.elim)
    obtain ⟨⟨h2, tk2, rfl⟩, tp2, R2, f2⟩ := h2
    have stay2 : ∀ b o, b ≠ cenv.locals → h1.get? b = some o → h2.get? b = some o := fun b o nb e => R2.keep b o (by unfold lessC; rw [if_neg nb]; exact e)
    obtain ⟨ws, ⟨oD, eD, qD⟩, rD⟩ := cs1.acc
    have l2 : MList h2 D ws.toArray := ⟨oD, stay2 D oD cs1.neq eD, qD⟩
    refine wpAny_bind (wpAny_mono (hb _ _ X σ' _ ys z1 ws R2 (fun h' q => cs1.gl h' fun b o e => q b o (fun z => by rw [z, cs1.bC] at e; cases e) (fun z => by rw [z, cs1.bD] at e; cases e) (stay2 b o (fun z => by rw [z, cs1.bC] at e; cases e) (cs1.keep b o e))) cs1.xD cs1.neq l2 (rD.frz f2) tp2 e2 (by rw [List.length_append] at hsz; omega)) (fun _ s3 h3 => ?_) fun _ _ q => q.elim)
    obtain ⟨⟨h3, tk3, rfl⟩, tp3, st3, ns3, ws3, l3, r3⟩ := h3
    have stay3 : ∀ b o, b ≠ cenv.locals → b ≠ D → h1.get? b = some o → h3.get? b = some o := fun b o nb nd e => st3 b o nb nd (stay2 b o nb e)
    have fz3 : Frz X h1 h3 := fun b o e nx => stay3 b o (fun q => nx (q ▸ cs1.xC)) (fun q => nx (q ▸ cs1.xD)) e
    have cs3 : CS C lay cenv base X D σf (ys ++ z1) h3 := by
      refine cs1.step (fun b o e => stay3 b o (fun q => by rw [q, cs1.bC] at e; cases e) (fun q => by rw [q, cs1.bD] at e; cases e) (cs1.keep b o e)) (fun a xa => ?_) ns3 ⟨ws3, l3, r3⟩ fz3
      by_cases q : a = cenv.locals
      · obtain ⟨m, o, _, _, e, _⟩ := ns3; rw [q, e]; rfl
      · by_cases q' : a = D
        · obtain ⟨o, e, _⟩ := l3; rw [q', e]; rfl
        · obtain ⟨o, e⟩ := Option.isSome_iff_exists.mp (cs1.live a xa)
          rw [stay3 a o q q' e]; rfl
    have y3 : ItAt X h3 I xs := y1.mono (fun o e => stay3 I o hIC hID e) fun b o e nx => ⟨fz3 b o e nx, nx⟩
    refine wpAny_pure ⟨rfl, codeAny_mono (ih (ys ++ z1) z2 { s with heap := h3, toks := tk3 } cs3 y3 tp3 e3 hsz) fun r s' q => ?_⟩
    obtain ⟨q1, ⟨h', tk', rfl⟩, q3, q4⟩ := q
    exact ⟨q1, ⟨_, _, rfl⟩, q3, q4⟩
end
end Mine

end
section
open PySem PySem.W PySem.Calls PyProof.Rows
set_option linter.unusedVariables false
set_option maxRecDepth 100000
namespace Mine

noncomputable def relabelS (csc sc : Scope) : Scope :=
  { csc with names := csc.names.map fun (n, k) => if (k == .free && sc.kind == .function && sc.names.lookup n == some .cell) then (n, .cell) else (n, k) }
theorem relabel_eq {csc sc : Scope} {env : Env} (h : env.scope = sc) : relabel csc env = relabelS csc sc := by
  unfold relabel relabelS Env.kindOf; rw [h]
theorem lookup_relabelS_free {sc : Scope} : ∀ {names : List (Str × NameKind)} {x : Str}, names.lookup x = some .free →
    (names.map fun (n, k) => if (k == NameKind.free && sc.kind == .function && sc.names.lookup n == some .cell) then (n, NameKind.cell) else (n, k)).lookup x = some .cell ∨
    (names.map fun (n, k) => if (k == NameKind.free && sc.kind == .function && sc.names.lookup n == some .cell) then (n, NameKind.cell) else (n, k)).lookup x = some .free
  | [], _, h => by simp at h
  | (n, k) :: r, x, h => by
    have ih := @lookup_relabelS_free sc r x
    show List.lookup x ((if (k == NameKind.free && sc.kind == .function && sc.names.lookup n == some .cell) = true then (n, NameKind.cell) else (n, k)) :: _) = _ ∨ List.lookup x ((if (k == NameKind.free && sc.kind == .function && sc.names.lookup n == some .cell) = true then (n, NameKind.cell) else (n, k)) :: _) = _
    cases hx : x == n with
    | true =>
      simp only [List.lookup_cons, hx] at h
      cases h
      by_cases hc : (NameKind.free == NameKind.free && sc.kind == .function && sc.names.lookup n == some .cell) = true
      · left; rw [if_pos hc]; simp [List.lookup_cons, hx]
      · right; rw [if_neg hc]; simp [List.lookup_cons, hx]
    | false =>
      simp only [List.lookup_cons, hx] at h
      by_cases hc : (k == NameKind.free && sc.kind == .function && sc.names.lookup n == some .cell) = true
      · rw [if_pos hc]; simp only [List.lookup_cons, hx]; exact ih h
      · rw [if_neg hc]; simp only [List.lookup_cons, hx]; exact ih h

noncomputable def clList (env : Env) (acc : List (Str × Addr)) : List (Str × NameKind) → List (Str × Addr)
  | [] => acc
  | (x, k) :: r => clList env (if k == .free then (x, (env.cells.lookup x).getD 0) :: acc else acc) r
theorem closure_eq {csc : Scope} {env : Env} (h : ∀ x ∈ csc.names, x.2 = .free → (env.cells.lookup x.1).isSome = true) : closureFor csc env = pure (clList env [] csc.names) := by
  unfold closureFor
  have go : ∀ (names : List (Str × NameKind)) (acc : List (Str × Addr)), (∀ x ∈ names, x.2 = .free → (env.cells.lookup x.1).isSome = true) →
      (forIn names acc (fun (x : Str × NameKind) (r : List (Str × Addr)) => if (x.2 == NameKind.free) = true then do let __do_lift ← cellOf env x.1; pure (ForInStep.yield ((x.1, __do_lift) :: r)) else pure (ForInStep.yield r)) : Sem (List (Str × Addr))) = pure (clList env acc names) := by
    intro names
    induction names with
    | nil => intro acc _; rfl
    | cons p r ih =>
      intro acc hn
      obtain ⟨x, k⟩ := p
      rw [List.forIn_cons]
      have ih' := fun acc => ih acc fun y hy => hn y (List.mem_cons_of_mem _ hy)
      by_cases hk : (k == NameKind.free) = true
      · have hk' : k = .free := by cases k <;> first | rfl | cases hk
        have := hn (x, k) (List.mem_cons_self ..) hk'
        obtain ⟨c, hc⟩ := Option.isSome_iff_exists.mp this
        show (if (k == NameKind.free) = true then _ else _) >>= _ = _
        rw [if_pos hk]
        have e : cellOf env x = pure c := by unfold cellOf; rw [hc]
        rw [e]
        refine (ih' ((x, c) :: acc)).trans ?_
        show _ = pure (clList env (if (k == NameKind.free) = true then (x, (env.cells.lookup x).getD 0) :: acc else acc) r)
        rw [if_pos hk, hc]; rfl
      · show (if (k == NameKind.free) = true then _ else _) >>= _ = _
        rw [if_neg hk]
        refine (ih' acc).trans ?_
        show _ = pure (clList env (if (k == NameKind.free) = true then (x, (env.cells.lookup x).getD 0) :: acc else acc) r)
        rw [if_neg hk]
  have := go csc.names [] h
  exact (congrArg (fun t => t >>= fun r => pure r) this).trans rfl

theorem clList_lookup {env : Env} {x : Str} {c : Addr} (hc : env.cells.lookup x = some c) : ∀ (names : List (Str × NameKind)) (acc : List (Str × Addr)), (acc.lookup x = some c ∨ (x, NameKind.free) ∈ names) → (∀ v, acc.lookup x = some v → v = c) → (clList env acc names).lookup x = some c
  | [], acc, h, _ => by
    rcases h with h | h
    · exact h
    · cases h
  | (y, k) :: r, acc, h, hv => by
    show (clList env (if (k == NameKind.free) = true then (y, (env.cells.lookup y).getD 0) :: acc else acc) r).lookup x = some c
    by_cases hk : (k == NameKind.free) = true
    · rw [if_pos hk]
      by_cases hy : x = y
      · subst hy
        have e : List.lookup x ((x, (env.cells.lookup x).getD 0) :: acc) = some c := by simp [hc]
        exact clList_lookup hc r _ (.inl e) fun v q => by rw [e] at q; cases q; rfl
      · have e : List.lookup x ((y, (env.cells.lookup y).getD 0) :: acc) = acc.lookup x := by
          rw [List.lookup_cons, show (x == y) = false from by simpa using hy]
        refine clList_lookup hc r _ ?_ fun v q => hv v (e ▸ q)
        rcases h with h | h
        · exact .inl (e.trans h)
        · rcases List.mem_cons.mp h with h | h
          · cases h; exact (hy rfl).elim
          · exact .inr h
    · rw [if_neg hk]
      refine clList_lookup hc r _ ?_ hv
      rcases h with h | h
      · exact .inl h
      · rcases List.mem_cons.mp h with h | h
        · cases h; exact (hk rfl).elim
        · exact .inr h
theorem mem_of_lookup {x : Str} {k : NameKind} : ∀ {names : List (Str × NameKind)}, names.lookup x = some k → (x, k) ∈ names
  | [], h => by cases h
  | (y, j) :: r, h => by
    rw [List.lookup_cons] at h
    split at h
    · rename_i q; cases h; have : x = y := by simpa using q
      subst this; exact List.mem_cons_self ..
    · exact List.mem_cons_of_mem _ (mem_of_lookup h)

noncomputable def onlyFz (σ : St) (j : Nat) : Slot := match σ[j]? with | some (.fz p) => .fz p | _ => .un
noncomputable def isFz (σ : St) (j : Nat) : Bool := match σ[j]? with | some (.fz p) => true | _ => false
noncomputable def inner (k : Nat) (fs : List Nat) (σ : St) : St := List.replicate k .un ++ fs.map (onlyFz σ)

/-- the free names of a comprehension: the places of the outer names -/
structure FrOk (sc csc : Scope) (lay lay' : List Str) (k : Nat) (fs : List Nat) : Prop where
  len : k + fs.length ≤ lay'.length
  at' : ∀ (i : Nat) (x : Str) (j : Nat), lay'[k + i]? = some x → fs[i]? = some j → lay[j]? = some x ∧ (sc.names.lookup x = some .cell ∨ sc.names.lookup x = some .free) ∧ csc.names.lookup x = some .free
  all : ∀ x ∈ csc.names, x.2 = .free → ∃ j ∈ fs, lay[j]? = some x.1
  kind : csc.kind = .function
  noCell : ∀ x ∈ csc.names, x.2 ≠ .cell
  loc : ∀ x ∈ csc.names, x.2 = .local → csc.names.lookup x.1 = some .local
  nodup : lay'.Nodup
  cellKind : ∀ j x, j ∈ fs → lay[j]? = some x → sc.names.lookup x = some .cell ∨ sc.names.lookup x = some .free

theorem inner_own {k : Nat} {fs : List Nat} {σ : St} : ∀ i, ¬ ownedAt (inner k fs σ) i := by
  rintro i ⟨sl, e, o⟩
  have hm : sl ∈ inner k fs σ := List.mem_of_getElem? e
  unfold inner at hm
  rcases List.mem_append.mp hm with hm | hm
  · rw [(List.mem_replicate.mp hm).2] at o; cases o
  · obtain ⟨j, _, rfl⟩ := List.mem_map.mp hm
    unfold onlyFz at o
    split at o <;> cases o
theorem inner_get {k : Nat} {fs : List Nat} {σ : St} {i : Nat} {p : PV} (h : (inner k fs σ)[i]? = some (.fz p)) : ∃ i' j, i = k + i' ∧ fs[i']? = some j ∧ σ[j]? = some (.fz p) := by
  unfold inner at h
  by_cases q : i < k
  · rw [List.getElem?_append_left (by simpa using q), List.getElem?_replicate] at h
    split at h <;> cases h
  · rw [List.getElem?_append_right (by simpa using q), List.getElem?_map] at h
    obtain ⟨j, e1, e2⟩ := Option.map_eq_some_iff.mp h
    rw [List.length_replicate] at e1
    refine ⟨i - k, j, by omega, e1, ?_⟩
    unfold onlyFz at e2
    split at e2
    · rename_i p' hp; cases e2; exact hp
    · cases e2

section
variable {C : Ctx} {A : Around} {sc csc : Scope} {lay lay' : List Str} {n : Nat} {env : Env}
theorem comp_block {elt tgt iter : Expr} {rest : List Comprehension} {pos p0 : Pos} {b : PV → St → Option St} {f : St → Option (List PV)} {body : Env → Addr → Sem Unit} {k : Nat} {fs : List Nat} {X : Addr → Prop} {σ : St} {s s₂ : Shared} {I : Addr} {xs zs : List PV}
    {RR : Value → Addr → Result → Shared → Prop}
    (hA : Lv n A) (hE : EnvOk sc env) (hF : FrOk sc csc lay lay' k fs) (hP : Pre C lay X env σ s) (hfz : fs.all (isFz σ) = true)
    (ht : TG C (relabelS csc sc) lay' false tgt b) (hgo : (∃ x p, tgt = .Name x p) ∨ ∃ es k p, tgt = .Tuple es k p)
    (hb : ∀ cenv D, EnvOk (relabelS csc sc) cenv → EM C A cenv lay' D (body cenv D) f)
    (heq : ∀ cenv D I, compTurn (.ListComp elt (⟨tgt, iter, [], 0⟩ :: rest) csc pos) 0 (.ref I) (.ref D) cenv = (standAt p0 >>= fun _ => pyNext (.ref I) >>= fun r => match r with
      | none => pure (.done .next)
      | some v => letOwnedTupleGo tgt (.ref I) v >>= fun _ => assign tgt cenv v >>= fun _ => body cenv D >>= fun _ => again (.compLoop (.ListComp elt (⟨tgt, iter, [], 0⟩ :: rest) csc pos) 0 (.ref I) (.ref D) cenv)))
    (fI : s.heap.get? I = none) (kp : Kp s s₂) (tk : 0 < s₂.toks) (y : ItAt (fun a => X a ∨ a = I) s₂.heap I xs) (hd : dTurns b f (inner k fs σ) xs = some zs) (hsz : zs.length ≤ 16777216)
    (hRR : ∀ D L h' tk m ws, s.heap.get? D = none → s.heap.get? L = none → D ≠ L → h'.Ns L m → MList h' D (List.toArray ws) → RepL (fun a => (X a ∨ a = D) ∨ a = L) h' zs ws → Stays s.heap h' → 0 < tk → RR (.ref D) L (.ok .next) { s with heap := h', toks := tk }) :
    wpAny C.M A (newList []) (fun acc s₃ => wpAny C.M A (newFunctionEnv csc env.globals (clList env [] csc.names) [] env.qual none .none (some env)) (fun cenv s₄ =>
      codeAny C.M A (.compStart (.ListComp elt (⟨tgt, iter, [], 0⟩ :: rest) csc pos) 0 (.ref I) acc { cenv with scope := relabel csc env }) (RR acc cenv.locals) s₄) NoE s₃) NoE s₂ := by
  refine wpAny_newObj_type (wpAny_newFunctionEnv hF.noCell (by intro y hy; simp at hy) (fun h₁ hns₁ hsb₁ => ?_) hF.kind)
  dsimp only at hns₁ hsb₁ ⊢
  obtain ⟨g2, k2, rfl, st2⟩ := kp
  dsimp only at y hns₁ hsb₁ tk ⊢
  generalize hH2 : g2.push { cls := .type "list", dict := none, data := .seq ([] : List Value).toArray } = H2 at hns₁ hsb₁ ⊢
  have hL : H2.objs.size = g2.objs.size + 1 := by rw [← hH2, Heap.size_push]
  have hDL : g2.objs.size ≠ H2.objs.size := by rw [hL]; exact Nat.ne_of_lt (Nat.lt_succ_self _)
  have fresh : ∀ a, g2.objs.size ≤ a → g2.get? a = none := fun a ha => by
    cases e : g2.get? a with
    | none => rfl
    | some o' => exact absurd (Heap.lt_size e) (Nat.not_lt.mpr ha)
  have fD := fresh _ (Nat.le_refl g2.objs.size)
  have fL := fresh H2.objs.size (by rw [hL]; exact Nat.le_succ _)
  have fs0 : ∀ a, g2.get? a = none → s.heap.get? a = none := fun a ha => by
    cases e : s.heap.get? a with
    | none => rfl
    | some o => rw [st2 a o e] at ha; cases ha
  have old : ∀ b o, g2.get? b = some o → h₁.get? b = some o := fun b o e => by
    refine hsb₁.extBut b o (fun q => by rw [q, fL] at e; cases e) (Heap.get?_push_of_some _ (hH2 ▸ Heap.get?_push_of_some _ e))
  have hacc : MList h₁ g2.objs.size (List.toArray []) := ⟨_, hsb₁.extBut _ _ hDL (Heap.get?_push_of_some _ (hH2 ▸ Heap.get?_push_size _ rfl)), rfl, rfl, 0, rfl⟩
  have hI : I ≠ g2.objs.size ∧ I ≠ H2.objs.size := by
    have := y.alive
    exact ⟨fun q => (by rw [q, fD] at this; cases this), fun q => (by rw [q, fL] at this; cases this)⟩
  rw [relabel_eq hE.scope]
  let cenv : Env := { (newEnv csc H2.objs.size env.globals (clList env [] csc.names) env.qual none .none (some env) builtinsNs) with scope := relabelS csc sc }
  have hCE : EnvOk (relabelS csc sc) cenv := ⟨rfl, hF.kind, hE.globals, hE.builtins⟩
  let Xl : Addr → Prop := fun a => ((X a ∨ a = I) ∨ a = g2.objs.size) ∨ a = H2.objs.size
  have up : ∀ {p : PV} {v : Value}, Rep X s.heap p v → Rep Xl h₁ p v := fun {p v} r => r.mono fun b o e nx _ => ⟨old b o (st2 b o e), by
    rintro (((q | q) | q) | q)
    · exact nx q
    · rw [q, fI] at e; cases e
    · rw [q, fs0 _ fD] at e; cases e
    · rw [q, fs0 _ fL] at e; cases e⟩
  have cs : CS C lay' cenv (fun a => s.heap.get? a) Xl g2.objs.size (inner k fs σ) [] h₁ := {
    gl := fun h' kk => hP.gl.stays fun b o e => kk b o e
    keep := fun b o e => old b o (st2 b o e)
    live := by
      rintro a (((q | q) | q) | q)
      · obtain ⟨o, e⟩ := Option.isSome_iff_exists.mp (hP.live a q); rw [old a o (st2 a o e)]; rfl
      · obtain ⟨o, e⟩ := Option.isSome_iff_exists.mp y.alive; rw [q, old I o e]; rfl
      · obtain ⟨o, e, _⟩ := hacc; rw [q, e]; rfl
      · obtain ⟨o, _, _, e, _⟩ := hns₁; rw [q, e]; rfl
    xC := .inr rfl
    xD := .inl (.inr rfl)
    bC := fs0 _ fL
    bD := fs0 _ fD
    ns := ⟨_, hns₁⟩
    acc := ⟨[], hacc, rfl⟩
    nodup := hF.nodup
    len := by have := hF.len; unfold inner; simpa using this
    noOwn := inner_own
    frees := fun i x p e1 e2 => by
      obtain ⟨i', j, rfl, e3, e4⟩ := inner_get e2
      obtain ⟨q1, q2, q3⟩ := hF.at' i' x j e1 e3
      have hv := hP.sees j x p q1 e4
      rcases hv with ⟨kk, _⟩ | ⟨kk, c, v, f1, f2, r⟩
      · unfold Env.kindOf at kk; rw [hE.scope] at kk
        rcases q2 with q2 | q2 <;> rw [q2] at kk <;> cases kk
      · refine ⟨lookup_relabelS_free q3, c, v, ?_, fun h' kk' => f2.keeps fun b o e => kk' b o e, up r⟩
        exact clList_lookup f1 _ _ (.inr (mem_of_lookup q3)) (fun v q => by cases q) }
  have y1 : ItAt Xl h₁ I xs := y.mono (fun o e => old I o e) fun b o e nx => ⟨old b o e, by
    rintro ((q | q) | q)
    · exact nx q
    · rw [q, fD] at e; cases e
    · rw [q, fL] at e; cases e⟩
  have loop := comp_loop (C := C) (sc := relabelS csc sc) (σf := inner k fs σ) (base := fun a => s.heap.get? a) hA hCE ht hgo (hb cenv g2.objs.size hCE) (heq cenv g2.objs.size I) (.inl (.inl (.inr rfl))) fI hI.1 hI.2 xs [] zs
    { s with heap := h₁, toks := k2 + ([] : List (Str × Value)).length } cs y1 (by simpa using tk) hd (by simpa using hsz)
  have fin := codeAny_mono (R' := RR (.ref g2.objs.size) H2.objs.size) loop (by
    rintro r s' ⟨rfl, ⟨h', tk', rfl⟩, tp, cs'⟩
    obtain ⟨m, nn⟩ := cs'.ns
    obtain ⟨ws, l, rl⟩ := cs'.acc
    refine hRR _ _ h' tk' m ws (fs0 _ fD) (fs0 _ fL) hDL nn l ?_ (fun b o e => cs'.keep b o e) tp
    rw [List.nil_append] at rl
    refine rl.weak ?_
    rintro a ((q | q) | q)
    · exact ⟨.inl (.inl (.inl q)), fun z => by have := hP.live a q; rw [z, fI] at this; cases this⟩
    · exact ⟨.inl (.inr q), fun z => hI.1 (z.symm.trans q)⟩
    · exact ⟨.inr q, fun z => hI.2 (z.symm.trans q)⟩)
  exact codeAny_compStart_list fin (iter_again y1 fin)
end
end Mine

end
section
open PySem PySem.W PySem.Calls PyProof.Rows
set_option linter.unusedVariables false
set_option maxRecDepth 100000
namespace Mine

section
variable {C : Ctx} {A : Around} {sc csc : Scope} {lay lay' : List Str} {n : Nat} {env : Env}

theorem clos_ok {k : Nat} {fs : List Nat} {X : Addr → Prop} {σ : St} {s : Shared} (hE : EnvOk sc env) (hF : FrOk sc csc lay lay' k fs) (hP : Pre C lay X env σ s) (hfz : fs.all (isFz σ) = true) : closureFor csc env = pure (clList env [] csc.names) := by
  refine closure_eq fun x hx hk => ?_
  obtain ⟨j, hj, hl⟩ := hF.all x hx hk
  have h1 := List.all_eq_true.mp hfz j hj
  unfold isFz at h1
  split at h1
  · rename_i p hp
    rcases hP.sees j x.1 p hl hp with ⟨kk, _⟩ | ⟨kk, c, v, f1, f2, r⟩
    · unfold Env.kindOf at kk; rw [hE.scope] at kk
      rcases hF.cellKind j x.1 hj hl with q2 | q2 <;> rw [q2] at kk <;> cases kk
    · rw [f1]; rfl
  · cases h1

noncomputable def dComp (di : St → Option PV) (b : PV → St → Option St) (f : St → Option (List PV)) (k : Nat) (fs : List Nat) : St → Option PV := fun σ =>
  (di σ).bind fun pv => (pvIter pv).bind fun xs => if fs.all (isFz σ) = true then (dTurns b f (inner k fs σ) xs).bind fun zs => if zs.length ≤ 16777216 then some (.list zs) else none else none

/-- how one turn reads -/
noncomputable def TurnIs (elt tgt iter : Expr) (rest : List Comprehension) (csc : Scope) (pos p0 : Pos) (body : Env → Addr → Sem Unit) : Prop :=
  ∀ cenv D I, compTurn (.ListComp elt (⟨tgt, iter, [], 0⟩ :: rest) csc pos) 0 (.ref I) (.ref D) cenv = (standAt p0 >>= fun _ => pyNext (.ref I) >>= fun r => match r with
      | none => pure (.done .next)
      | some v => letOwnedTupleGo tgt (.ref I) v >>= fun _ => assign tgt cenv v >>= fun _ => body cenv D >>= fun _ => again (.compLoop (.ListComp elt (⟨tgt, iter, [], 0⟩ :: rest) csc pos) 0 (.ref I) (.ref D) cenv))
noncomputable def body1 (elt : Expr) (cenv : Env) (D : Addr) : Sem Unit := do let _ ← call (.builtin "list.append") [.ref D, ← eval elt cenv]
theorem turn1 {elt tgt iter : Expr} {csc : Scope} {pos : Pos} : TurnIs elt tgt iter [] csc pos iter.pos (body1 elt) := fun cenv D I => by
  rw [compTurn_list1]; rfl

theorem se_comp {elt tgt iter : Expr} {rest : List Comprehension} {pos p0 : Pos} {di : St → Option PV} {b : PV → St → Option St} {f : St → Option (List PV)} {body : Env → Addr → Sem Unit} {k : Nat} {fs : List Nat}
    (hi : SE C sc lay n iter di) (hs : ∀ env x, foldedSetIterable iter env x = pure x) (hF : FrOk sc csc lay lay' k fs) (ht : TG C (relabelS csc sc) lay' false tgt b) (hgo : (∃ x p, tgt = .Name x p) ∨ ∃ es k p, tgt = .Tuple es k p)
    (hb : ∀ A cenv D, Lv n A → EnvOk (relabelS csc sc) cenv → EM C A cenv lay' D (body cenv D) f) (heq : TurnIs elt tgt iter rest csc pos p0 body) :
    SE C sc lay n (.ListComp elt (⟨tgt, iter, [], 0⟩ :: rest) csc pos) (dComp di b f k fs) := by
  intro A env X σ s r hA hE hP hd
  obtain ⟨pv, e1, hd⟩ := bind_some hd
  obtain ⟨xs, e2, hd⟩ := bind_some hd
  split at hd
  · rename_i hfz
    obtain ⟨zs, e3, hd⟩ := bind_some hd
    split at hd
    · rename_i hsz
      cases hd
      rw [eval_ListComp]
      refine wpAny_comprehension_free (use := none) rfl (hs env) (clos_ok hE hF hP hfz) hF.kind hF.loc (hi.then hA hE hP e1 fun v s1 k1 r1 p1 => ?_)
      refine wpAny_mono (wpAny_toks (iter_ok (C := C) r1 e2)) (fun it s2 h2 => ?_) fun _ _ q => q.2
      obtain ⟨tk2, I, rfl, fI, kp, y⟩ := h2
      refine comp_block (RR := fun acc L => compPost C.M A NoE none (fun v s' => Kp s s' ∧ Rep X s'.heap (.list zs) v) acc L) hA hE hF p1 hfz ht hgo (fun cenv D h => hb A cenv D hA h) heq fI kp (Nat.lt_of_lt_of_le p1.tok tk2) y e3 hsz ?_
      intro D L h' tk m ws fD fL nDL nn l rl st tp
      refine ⟨m, nn, fun h'' hs'' => ?_⟩
      have st' : Stays s1.heap h'' := fun b o e => (hs''.2 b fun q => by rw [q, fL] at e; cases e).trans (st b o e)
      obtain ⟨g1, t1, rfl, st1⟩ := k1
      refine ⟨⟨h'', tk, rfl, st1.trans st'⟩, D, ws, rfl, fun q => ?_, l.isList.extBut hs''.extBut nDL, ?_⟩
      · have := p1.live D q; rw [fD] at this; cases this
      · exact (rl.frz (X := fun a => (X a ∨ a = D) ∨ a = L) (frz_but (.inr rfl) hs'')).weak fun a x => .inl (.inl x)
    · cases hd
  · cases hd
theorem se_comp1 {elt tgt iter : Expr} {pos : Pos} {di de : St → Option PV} {b : PV → St → Option St} {k : Nat} {fs : List Nat}
    (hi : SE C sc lay n iter di) (hs : ∀ env x, foldedSetIterable iter env x = pure x) (hF : FrOk sc csc lay lay' k fs) (ht : TG C (relabelS csc sc) lay' false tgt b) (hgo : (∃ x p, tgt = .Name x p) ∨ ∃ es k p, tgt = .Tuple es k p)
    (he : SE C (relabelS csc sc) lay' n elt de) : SE C sc lay n (.ListComp elt [⟨tgt, iter, [], 0⟩] csc pos) (dComp di b (dEmit de) k fs) :=
  se_comp hi hs hF ht hgo (fun A cenv D hA h => em_elt he hA h) turn1

/-! two generators -/
noncomputable def body2 (elt tgt iter tgt2 iter2 : Expr) (csc : Scope) (pos : Pos) (cenv : Env) (D : Addr) : Sem Unit := do
  let x ← eval iter2 cenv
  standAt iter2.pos
  let x ← foldedSetIterable iter2 cenv x
  let _ ← runOwn (.compStart (.ListComp elt [⟨tgt, iter, [], 0⟩, ⟨tgt2, iter2, [], 0⟩] csc pos) 1 (← holding [x] (pyIter x)) (.ref D) cenv) cenv
theorem turn2 {elt tgt iter tgt2 iter2 : Expr} {csc : Scope} {pos : Pos} : TurnIs elt tgt iter [⟨tgt2, iter2, [], 0⟩] csc pos iter.pos (body2 elt tgt iter tgt2 iter2 csc pos) := fun cenv D I => by
  unfold compTurn body2
  simp
  rfl
theorem compTurn_list2 (elt tgt iter tgt2 iter2 : Expr) (scope : Scope) (pos : Pos) (it acc : Value) (env : Env) :
    compTurn (.ListComp elt [⟨tgt, iter, [], 0⟩, ⟨tgt2, iter2, [], 0⟩] scope pos) 1 it acc env = (standAt iter2.pos >>= fun _ => pyNext it >>= fun r => match r with
      | none => pure (.done .next)
      | some v => letOwnedTupleGo tgt2 it v >>= fun _ => assign tgt2 env v >>= fun _ =>
        (eval elt env >>= fun x => call (.builtin "list.append") [acc, x] >>= fun _ => pure ()) >>= fun _ =>
          again (.compLoop (.ListComp elt [⟨tgt, iter, [], 0⟩, ⟨tgt2, iter2, [], 0⟩] scope pos) 1 it acc env)) := by rfl

theorem codeAny_compStart_list2 {elt tgt iter tgt2 iter2 : Expr} {scope : Scope} {pos : Pos} {it acc : Value} {env : Env} {s : Shared} {R : Result → Shared → Prop}
    (h0 : codeAny C.M A (.compLoop (.ListComp elt [⟨tgt, iter, [], 0⟩, ⟨tgt2, iter2, [], 0⟩] scope pos) 1 it acc env) R s)
    (h : wpAny C.M A (pyIter it) (fun it' s' => codeAny C.M A (.compLoop (.ListComp elt [⟨tgt, iter, [], 0⟩, ⟨tgt2, iter2, [], 0⟩] scope pos) 1 it' acc env) R s')
      (notedBy C.M A env fun x s' => R (.error x) s') s) :
    codeAny C.M A (.compStart (.ListComp elt [⟨tgt, iter, [], 0⟩, ⟨tgt2, iter2, [], 0⟩] scope pos) 1 it acc env) R s := by
  refine codeAny_of_tree ?_
  show wpAny _ _ ((compStart (.ListComp elt [⟨tgt, iter, [], 0⟩, ⟨tgt2, iter2, [], 0⟩] scope pos) 1 it acc env).onRaise (fun x => do noteFrame x env; standAt theWindowsPlace)) _ _ s
  refine wpAny_notedAt ?_
  unfold compStart
  show wpAny _ _ (ask >>= _) _ _ s
  refine wpAny_bind (wpAny_askSetting (wpAny_ite ?_))
  split
  · first
      | exact wpAny_bind (wpAny_pure (wpAny_pure (And.intro rfl h0)))
      | exact wpAny_pure (And.intro rfl h0)
  · first
      | exact wpAny_bind (wpAny_rule (wpAny_bind (wpAny_standAt (wpAny_bind (wpAny_mono h (fun it' s' h' => wpAny_pure (And.intro rfl h')) fun _ _ x => x)))))
      | (refine wpAny_bind (wpAny_rule ?_); show wpAny _ _ (standAt iter2.pos >>= _) _ _ s; exact wpAny_bind (wpAny_standAt (wpAny_bind (wpAny_mono h (fun it' s' h' => wpAny_pure (And.intro rfl h')) fun _ _ x => x))))

/-- the inner loop of two: it reads its own target alone -/
noncomputable def dInner (di2 : St → Option PV) (b2 : PV → St → Option St) (de : St → Option PV) (k2 : Nat) : St → Option (List PV) := fun σ =>
  (di2 σ).bind fun pv => (pvIter pv).bind fun xs => dTurns b2 (dEmit de) (inner k2 [] []) xs
theorem em_inner {sc2 : Scope} {lay2 : List Str} {elt tgt iter tgt2 iter2 : Expr} {pos : Pos} {di2 de : St → Option PV} {b2 : PV → St → Option St} {k2 : Nat} {cenv : Env} {D : Addr}
    (hi : SE C sc2 lay n iter2 di2) (hs : ∀ env x, foldedSetIterable iter2 env x = pure x) (hk : k2 ≤ lay2.length) (hnd : lay2.Nodup) (ht : TG C sc2 lay2 false tgt2 b2) (hgo : (∃ x p, tgt2 = .Name x p) ∨ ∃ es k p, tgt2 = .Tuple es k p)
    (he : SE C sc2 lay2 n elt de) (hA : Lv n A) (hE : EnvOk sc2 cenv) : EM C A cenv lay D (body2 elt tgt iter tgt2 iter2 csc pos cenv D) (dInner di2 b2 de k2) := by
  intro base P X σ s ys zs ws R hgl xD ne hl hr tk hf hsz
  obtain ⟨pv, e1, hf⟩ := bind_some hf
  obtain ⟨xs, e2, hf⟩ := bind_some hf
  unfold body2
  refine wpAny_bind (hi.then hA hE (R.pre tk) e1 fun v s1 k1 r1 p1 => wpAny_bind (wpAny_standAt (wpAny_bind (wpAny_of_eq (hs cenv v) (wpAny_bind (wpAny_holding ?_))))))
  refine wpAny_mono (wpAny_toks (iter_ok (C := C) r1 e2)) (fun it s2 h2 => ?_) fun _ _ q => q.2
  obtain ⟨tk2, I, rfl, fI, kp, y⟩ := h2
  have kk := k1.trans' kp
  have lv1 := p1.live
  have st12 := kp.st
  have st02 := kk.st
  obtain ⟨g2, t2, rfl, _⟩ := kk
  have hlI : ∀ a, X a → a ≠ I := fun a xa q => by have := lv1 a xa; rw [q, fI] at this; cases this
  let X2 : Addr → Prop := fun a => X a ∨ a = I
  let base2 : Base := fun a => if a = cenv.locals ∨ a = D then none else s1.heap.get? a
  have b2n : ∀ a o, base2 a = some o → a ≠ cenv.locals ∧ a ≠ D ∧ s1.heap.get? a = some o := fun a o e => by
    simp only [base2] at e
    split at e
    · cases e
    · rename_i q; exact ⟨fun z => q (.inl z), fun z => q (.inr z), e⟩
  obtain ⟨m, own, nn, _⟩ := R.slots
  have l2 : MList g2 D ws.toArray := let ⟨o, e, q⟩ := hl; ⟨o, st02 _ _ e, q⟩
  have ns2 : g2.Ns cenv.locals m := nn.keeps st02
  have rl2 : RepL X2 g2 ys ws := by
    have := (hr.stays k1.st).hide fI st12
    exact this
  have cs : CS C lay2 cenv base2 X2 D (inner k2 [] []) ys g2 := {
    gl := fun h' kk => hgl h' fun b o n1 n2 e => kk b o (by
      simp only [base2]
      rw [if_neg (by rintro (q | q); exact n1 q; exact n2 q)]
      exact k1.st b o e)
    keep := fun b o e => st12 b o (b2n b o e).2.2
    live := by
      rintro a (q | q)
      · exact (lv1.stays st12) a q
      · rw [q]; exact y.alive
    xC := .inl R.locX
    xD := .inl xD
    bC := if_pos (.inl rfl)
    bD := if_pos (.inr rfl)
    ns := ⟨m, ns2⟩
    acc := ⟨ws, l2, rl2⟩
    nodup := hnd
    len := by unfold inner; simpa using hk
    noOwn := inner_own
    frees := fun i x p e1 e2 => by
      obtain ⟨i', j, _, e3, _⟩ := inner_get e2
      simp at e3 }
  have hI : I ≠ D ∧ I ≠ cenv.locals := ⟨fun q => hlI D xD q.symm, fun q => hlI _ R.locX q.symm⟩
  have bI : base2 I = none := by
    cases e : base2 I with
    | none => rfl
    | some o => have := (b2n I o e).2.2; rw [fI] at this; cases this
  have loop := comp_loop (C := C) (σf := inner k2 [] []) (base := base2) (X := X2) hA hE ht hgo (em_elt (D := D) he hA hE) (compTurn_list2 elt tgt iter tgt2 iter2 csc pos (.ref I) (.ref D) cenv) (.inr rfl) bI hI.1 hI.2 xs ys zs
    { s with heap := g2, toks := t2 } cs y (Nat.lt_of_lt_of_le p1.tok tk2) hf hsz
  refine wpAny_bind ?_
  unfold runOwn
  have fin : ∀ {R' : Result → Shared → Prop}, (∀ r s', (r = .ok .next ∧ (∃ h' tk, s' = { s with heap := h', toks := tk }) ∧ 0 < s'.toks ∧ CS C lay2 cenv base2 (fun a => X2 a ∧ a ≠ I) D (inner k2 [] []) (ys ++ zs) s'.heap) → R' r s') →
      codeAny C.M A (.compStart (.ListComp elt [⟨tgt, iter, [], 0⟩, ⟨tgt2, iter2, [], 0⟩] csc pos) 1 (.ref I) (.ref D) cenv) R' { s with heap := g2, toks := t2 } := fun {R'} hR => by
    have l' := codeAny_mono loop hR
    exact codeAny_compStart_list2 l' (iter_again y l')
  refine wpAny_onRaise (wpAny_run (fin ?_))
  rintro r s' ⟨rfl, ⟨h', tk', rfl⟩, tp, cs'⟩
  obtain ⟨ws', l', rl'⟩ := cs'.acc
  refine wpAny_pure ⟨⟨_, _, rfl⟩, tp, fun b o n1 n2 e => cs'.keep b o ?_, cs'.ns, ws', l', rl'.weak fun a xa => ⟨.inl xa, hlI a xa⟩⟩
  show (if b = cenv.locals ∨ b = D then none else s1.heap.get? b) = some o
  rw [if_neg (by rintro (q | q); exact n1 q; exact n2 q)]
  exact k1.st b o e
theorem se_comp2 {lay2 : List Str} {elt tgt iter tgt2 iter2 : Expr} {pos : Pos} {di di2 de : St → Option PV} {b b2 : PV → St → Option St} {k k2 : Nat} {fs : List Nat}
    (hi : SE C sc lay n iter di) (hs : ∀ env x, foldedSetIterable iter env x = pure x) (hF : FrOk sc csc lay lay' k fs) (ht : TG C (relabelS csc sc) lay' false tgt b) (hgo : (∃ x p, tgt = .Name x p) ∨ ∃ es k p, tgt = .Tuple es k p)
    (hi2 : SE C (relabelS csc sc) lay' n iter2 di2) (hs2 : ∀ env x, foldedSetIterable iter2 env x = pure x) (hk2 : k2 ≤ lay2.length) (hnd : lay2.Nodup) (ht2 : TG C (relabelS csc sc) lay2 false tgt2 b2) (hgo2 : (∃ x p, tgt2 = .Name x p) ∨ ∃ es k p, tgt2 = .Tuple es k p)
    (he : SE C (relabelS csc sc) lay2 n elt de) : SE C sc lay n (.ListComp elt [⟨tgt, iter, [], 0⟩, ⟨tgt2, iter2, [], 0⟩] csc pos) (dComp di b (dInner di2 b2 de k2) k fs) :=
  se_comp hi hs hF ht hgo (fun A cenv D hA h => em_inner hi2 hs2 hk2 hnd ht2 hgo2 he hA h) turn2
end
end Mine

end
section
open PySem PySem.W PySem.Calls PyProof.Rows
set_option linter.unusedVariables false
set_option maxRecDepth 100000
namespace Mine

noncomputable def FlowOk (P : Addr → Prop) (h : Heap) : Out → Flow → Prop
  | .next, f => f = .next
  | .ret p, f => ∃ v, f = .ret v ∧ Rep P h p v

structure SP (C : Ctx) (lay : List Str) (base : Base) (P : Addr → Prop) (wr : Bool) (env : Env) (X : Addr → Prop) (s : Shared) (σ' : St) (o : Out) (f : Flow) (s' : Shared) : Prop where
  only : ∃ h' tk, s' = { s with heap := h', toks := tk }
  tok : 0 < s'.toks
  sr : ∃ X', SR C lay base P wr env X' σ' s'.heap ∧ Tr X s.heap X' s'.heap
  flow : FlowOk P s'.heap o f

/-- a statement and what it does -/
noncomputable def SS (G : PySem.Ctx → Prop) (C : Ctx) (sc : Scope) (lay : List Str) (n : Nat) (wr : Bool) (st : Stmt) (d : St → Option (St × Out)) : Prop :=
  ∀ (A : Around) (env : Env) (base : Base) (P X : Addr → Prop) (σ σ' : St) (s : Shared) (o : Out), Lv n A → EnvOk sc env → SR C lay base P wr env X σ s.heap → 0 < s.toks → d σ = some (σ', o) →
    wpG G C.M A (exec st env) (SP C lay base P wr env X s σ' o) NoE s
noncomputable def SSs (G : PySem.Ctx → Prop) (C : Ctx) (sc : Scope) (lay : List Str) (n : Nat) (wr : Bool) (sts : List Stmt) (d : St → Option (St × Out)) : Prop :=
  ∀ (A : Around) (env : Env) (base : Base) (P X : Addr → Prop) (σ σ' : St) (s : Shared) (o : Out), Lv n A → EnvOk sc env → SR C lay base P wr env X σ s.heap → 0 < s.toks → d σ = some (σ', o) →
    wpG G C.M A (execs sts env) (SP C lay base P wr env X s σ' o) NoE s

/-- an expression under a restricted context -/
noncomputable def SEG (G : PySem.Ctx → Prop) (C : Ctx) (sc : Scope) (lay : List Str) (n : Nat) (e : Expr) (d : St → Option PV) : Prop :=
  ∀ (A : Around) (env : Env) (X : Addr → Prop) (σ : St) (s : Shared) (r : PV), Lv n A → EnvOk sc env → Pre C lay X env σ s → d σ = some r →
    wpG G C.M A (eval e env) (fun v s' => s.toks ≤ s'.toks ∧ Kp s s' ∧ Rep X s'.heap r v) NoE s
noncomputable def CallOkG (G : PySem.Ctx → Prop) (C : Ctx) (n : Nat) (f : Value) (spec : List PV → Option PV) : Prop :=
  ∀ (A : Around) (X : Addr → Prop) (s : Shared) (vs : List Value) (ps : List PV) (r : PV), Lv n A → C.Gl s.heap → Live X s.heap → 0 < s.toks → RepL X s.heap ps vs → spec ps = some r →
    wpG G C.M A (call f vs) (fun v s' => s.toks ≤ s'.toks ∧ Kp s s' ∧ Rep X s'.heap r v) NoE s

section
variable {G : PySem.Ctx → Prop} {C : Ctx} {sc : Scope} {lay : List Str} {n : Nat} {wr : Bool}
theorem seg_of {e : Expr} {d : St → Option PV} (h : SE C sc lay n e d) : SEG G C sc lay n e d := fun A env X σ s r hA hE hP hd => wpG_of (wpAny_mono (wpAny_toks (h A env X σ s r hA hE hP hd)) (fun _ _ x => x) fun _ _ x => x.2)
theorem wpG_callWith {M : Model} {A : Around} {E : Value → Shared → Prop} {s : Shared} {pos : Pos} {f : Value} {first : List Value} {Q : Value → Shared → Prop} {P : Heap → Prop} {args : List (Bool × Sem Value)} {keywords : List (Option Str × Sem Value)} (hplain : (args.any (·.1) || keywords.any (·.1.isNone)) = false)
    (hk : ∀ h, P h → ∃ k, (k = Keeper.frame ∨ k = Keeper.machine ∨ k = Keeper.boundFrame) ∧ Looks M h (keeperOf f) k)
    (h : wpAny M A (evalArgs f true args keywords) (fun a s₁ => P s₁.heap ∧ wpG G M A (call f (first ++ a.pos) a.kw) Q E s₁) E s) : wpG G M A (callWith pos f first args keywords) Q E s := by
  unfold callWith
  refine wpG_bindA (wpAny_holding (wpAny_mono h (fun a s₁ h₁ => wpG_bindA (wpAny_standAt ?_)) fun _ _ x => x))
  obtain ⟨k, hk', L⟩ := hk _ h₁.1
  simp only [hplain]
  refine wpG_bindA (L.here ?_)
  have tail : ∀ {t : Sem Value}, wpG G M A t Q E s₁ → wpG G M A (t >>= fun r => holding [r] point >>= fun _ => pure r) Q E s₁ :=
    fun ht => wpG_bind (wpG_mono ht (fun r s₂ hr => wpG_bindA (wpAny_holding (wpAny_point (wpG_pure hr)))) fun _ _ x => x)
  have marked (mk : Value) : wpG G M A (callMarked mk f (first ++ a.pos) a.kw) Q E s₁ := by unfold callMarked; exact wpG_keep h₁.2
  rcases hk' with rfl | rfl | rfl <;> dsimp only <;> first | exact tail h₁.2 | (split <;> first | exact tail h₁.2 | exact tail (marked _))
theorem callNameG {A : Around} {env : Env} {s : Shared} {x : Str} {f : Value} {e : Expr} {es : List Expr} {p pos : Pos} {Q : Value → Shared → Prop} (hc : Callee C x f) (hE : EnvOk sc env) (gl : C.Gl s.heap) (hk : sc.names.lookup x = some .globalImplicit) (hd : (x == ("__debug__" : Str)) = false) (hs : notStar e = true)
    (hss : (backTo pos (starEach es env)).any (·.1) = false)
    (h : wpAny C.M A (spliced (backTo pos (starEach (e :: es) env))) (fun vs s1 => C.Gl s1.heap ∧ wpG G C.M A (call f vs) Q NoE s1) NoE s) : wpG G C.M A (eval (.Call (.Name x p) (e :: es) [] pos) env) Q NoE s := by
  show wpG G C.M A (do callWith pos (← eval (.Name x p) env) [] (backTo pos (starEach (e :: es) env)) (backToKw pos (keywordEach [] env))) Q NoE s
  refine wpG_bindA (wpAny_Name (hc.load hE hk gl ?_) hd)
  show wpG G C.M A (callWith pos f [] (backTo pos (starEach (e :: es) env)) []) Q NoE s
  rw [starEach_cons hs] at h ⊢
  exact wpG_callWith (first := []) (by show ((false || (backTo pos (starEach es env)).any (·.1)) || false) = false; rw [hss]; rfl) hc.keep (evalArgs_plain h)
theorem seg_call {x : Str} {f : Value} {e : Expr} {es : List Expr} {p pos : Pos} {ds : St → Option (List PV)} {spec : List PV → Option PV} (hc : Callee C x f) (ho : CallOkG G C n f spec) (hk : sc.names.lookup x = some .globalImplicit) (hd : (x == ("__debug__" : Str)) = false)
    (hs : allNotStar (e :: es) = true) (h : SEs C sc lay n (e :: es) ds) : SEG G C sc lay n (.Call (.Name x p) (e :: es) [] pos) (dCall spec ds) := by
  intro A env X σ s r hA hE hP hd'
  obtain ⟨ps, e1, hd'⟩ := bind_some hd'
  obtain ⟨h1, h2⟩ := Bool.and_eq_true_iff.mp hs
  refine callNameG hc hE hP.gl hk hd h1 (noStars h2) (wpAny_mono (wpAny_toks (h A env X σ s ps pos hA hE hP e1)) (fun vs s1 x => ?_) fun _ _ x => x.2)
  obtain ⟨tk1, k1, r1⟩ := x
  have p1 := hP.kp k1 tk1
  exact ⟨p1.gl, wpG_mono (ho A X s1 vs ps r hA p1.gl p1.live p1.tok r1 hd') (fun v s' x => ⟨Nat.le_trans tk1 x.1, k1.trans' x.2.1, x.2.2⟩) fun _ _ x => x⟩

/-! sequences, tests, return -/
theorem Tr.kp {X : Addr → Prop} {s s' : Shared} (k : Kp s s') : Tr X s.heap X s'.heap := Tr.stays k.st
theorem sss_nil : SSs G C sc lay n wr [] (fun σ => some (σ, .next)) := by
  intro A env base P X σ σ' s o hA hE R tk hd
  cases hd
  exact wpG_execs_nil ⟨⟨_, _, rfl⟩, tk, ⟨X, R, Tr.refl ..⟩, rfl⟩
noncomputable def dThen (d1 d2 : St → Option (St × Out)) : St → Option (St × Out) := fun σ => match d1 σ with
  | some (σ', .next) => d2 σ'
  | some (σ', .ret v) => some (σ', .ret v)
  | none => none
theorem sss_cons {st : Stmt} {sts : List Stmt} {d1 d2 : St → Option (St × Out)} (h1 : SS G C sc lay n wr st d1) (h2 : SSs G C sc lay n wr sts d2) : SSs G C sc lay n wr (st :: sts) (dThen d1 d2) := by
  intro A env base P X σ σ' s o hA hE R tk hd
  unfold dThen at hd
  split at hd
  · rename_i σ1 e1
    refine wpG_execs_cons (wpG_mono (h1 A env base P X σ σ1 s .next hA hE R tk e1) (fun f s1 q => ?_) fun _ _ x => x)
    obtain ⟨⟨h', tk', rfl⟩, tp, ⟨X1, R1, T1⟩, rfl⟩ := q
    refine wpG_mono (h2 A env base P X1 σ1 σ' _ o hA hE R1 tp hd) (fun f s2 q => ?_) fun _ _ x => x
    obtain ⟨⟨h2', tk2, rfl⟩, tp2, ⟨X2, R2, T2⟩, fl⟩ := q
    exact ⟨⟨_, _, rfl⟩, tp2, ⟨X2, R2, T1.trans T2⟩, fl⟩
  · rename_i σ1 v e1
    cases hd
    refine wpG_execs_cons (wpG_mono (h1 A env base P X σ _ s (.ret v) hA hE R tk e1) (fun f s1 q => ?_) fun _ _ x => x)
    obtain ⟨q1, q2, q3, w, rfl, q4⟩ := q
    exact ⟨q1, q2, q3, w, rfl, q4⟩
  · cases hd
noncomputable def dTest (t : St → Option Bool) (d1 d2 : St → Option (St × Out)) : St → Option (St × Out) := fun σ => (t (viewB σ)).bind fun b => if b = true then d1 σ else d2 σ
theorem ss_if {t : Expr} {b1 b2 : List Stmt} {pos : Pos} {dt : St → Option Bool} {d1 d2 : St → Option (St × Out)} (ht : STst C sc lay n t dt) (h1 : SSs G C sc lay n wr b1 d1) (h2 : SSs G C sc lay n wr b2 d2) : SS G C sc lay n wr (.If t b1 b2 pos) (dTest dt d1 d2) := by
  intro A env base P X σ σ' s o hA hE R tk hd
  obtain ⟨b, e1, hd⟩ := bind_some hd
  obtain ⟨Y, _, _, hP⟩ := R.preB tk
  refine wpG_If (ht.then hA hE hP e1 fun s1 k1 p1 => ?_)
  have R1 := R.stays k1.st
  have tp := p1.tok
  have T1 : Tr X s.heap X s1.heap := Tr.kp k1
  obtain ⟨h1', tk1, rfl, st1⟩ := k1
  have fin : ∀ f s2, SP C lay base P wr env X { s with heap := h1', toks := tk1 } σ' o f s2 → SP C lay base P wr env X s σ' o f s2 := fun f s2 q => by
    obtain ⟨⟨h2', tk2, rfl⟩, tp2, ⟨X2, R2, T2⟩, fl⟩ := q
    exact ⟨⟨_, _, rfl⟩, tp2, ⟨X2, R2, T1.trans T2⟩, fl⟩
  cases b with
  | true => exact wpG_mono (h1 A env base P X σ σ' _ o hA hE R1 tp hd) (fun f s2 q => fin f s2 q) fun _ _ x => x
  | false => exact wpG_mono (h2 A env base P X σ σ' _ o hA hE R1 tp hd) (fun f s2 q => fin f s2 q) fun _ _ x => x
noncomputable def dRet (d : St → Option PV) : St → Option (St × Out) := fun σ => (d (viewB σ)).map fun v => (σ, .ret v)
theorem ss_ret {e : Expr} {pos : Pos} {d : St → Option PV} (h : SE C sc lay n e d) : SS G C sc lay n wr (.Return (some e) pos) (dRet d) := by
  intro A env base P X σ σ' s o hA hE R tk hd
  obtain ⟨v, e1, hd⟩ := Option.map_eq_some_iff.mp hd
  cases hd
  obtain ⟨Y, _, hPY, hP⟩ := R.preB tk
  refine wpG_of (wpAny_Return_some (h.then hA hE hP e1 fun w s1 k1 r1 p1 => ?_))
  have T1 : Tr X s.heap X s1.heap := Tr.kp k1
  have R1 := R.stays k1.st
  obtain ⟨h1', tk1, rfl, st1⟩ := k1
  exact ⟨⟨_, _, rfl⟩, p1.tok, ⟨X, R1, T1⟩, w, rfl, r1.weak hPY⟩

/-! assignments -/
theorem SP.of_tn {A : Around} {env : Env} {base : Base} {P X : Addr → Prop} {s s1 : Shared} {σ : St} {x : Str} {i : Nat} {p : PV} {v : Value} (hT : TN C sc lay wr x i) (hE : EnvOk sc env) (R : SR C lay base P wr env X σ s.heap) (k1 : Kp s s1) (tp : 0 < s1.toks) (r1 : Rep X s1.heap p v) :
    wpAny C.M A (storeName env x v) (fun _ s' => SP C lay base P wr env X s (σ.set i (.fz p)) .next .next s') NoE s1 := by
  have T1 : Tr X s.heap X s1.heap := Tr.kp k1
  have R1 := R.stays k1.st
  obtain ⟨h1', tk1, rfl, st1⟩ := k1
  refine wpAny_mono (hT A env base P X σ _ p v hE R1 tp r1) (fun _ s2 q => ?_) fun _ _ x => x
  obtain ⟨⟨h2, tk2, rfl⟩, tp2, R2, f2⟩ := q
  exact ⟨⟨_, _, rfl⟩, tp2, ⟨X, R2, T1.trans ⟨f2, fun _ x => .inl x⟩⟩, rfl⟩
noncomputable def dAsg (d : St → Option PV) (i : Nat) : St → Option (St × Out) := fun σ => (d σ).map fun v => (σ.set i (.fz v), .next)
theorem ss_asgG {x : Str} {i : Nat} {e : Expr} {p pos : Pos} {d : St → Option PV} (hT : TN C sc lay wr x i) (h : SEG G C sc lay n e d) (hs : ∀ env, swapsWith e (some (.Name x p)) pos.line env = pure false) : SS G C sc lay n wr (.Assign [.Name x p] e pos) (dAsg d i) := by
  intro A env base P X σ σ' s o hA hE R tk hd
  obtain ⟨v, e1, hd⟩ := Option.map_eq_some_iff.mp hd
  cases hd
  rw [exec_Assign_Name env x p e pos (hs env)]
  refine wpG_bindA (wpAny_standAt (wpG_bind (wpG_mono (h A env X σ s v hA hE (R.pre tk) e1) (fun w s1 q => ?_) fun _ _ x => x)))
  obtain ⟨tk1, k1, r1⟩ := q
  refine wpG_bindA (wpAny_standAt (wpG_bindA (wpAny_bindName (wpAny_mono (SP.of_tn hT hE R k1 (Nat.lt_of_lt_of_le tk tk1) r1) (fun _ s2 q => wpG_pure q) fun _ _ x => x))))
theorem ss_asg {x : Str} {i : Nat} {e : Expr} {p pos : Pos} {d : St → Option PV} (hT : TN C sc lay wr x i) (h : SE C sc lay n e d) (hs : ∀ env, swapsWith e (some (.Name x p)) pos.line env = pure false) : SS G C sc lay n wr (.Assign [.Name x p] e pos) (dAsg d i) := ss_asgG hT (seg_of h) hs
noncomputable def dAsgT (d : St → Option PV) (b : PV → St → Option St) : St → Option (St × Out) := fun σ => (d σ).bind fun v => (b v σ).map fun σ' => (σ', .next)
theorem ss_asgT {e : Expr} {es : List Expr} {k : Nat} {p pos : Pos} {d : St → Option PV} {b : PV → St → Option St} (hT : TG C sc lay wr (.Tuple es k p) b) (h : SE C sc lay n e d) (hs : ∀ env, swapsWith e (some (.Tuple es k p)) pos.line env = pure false)
    (hw : ∀ env, swappedStores [.Tuple es k p] e env = pure none) : SS G C sc lay n wr (.Assign [.Tuple es k p] e pos) (dAsgT d b) := by
  intro A env base P X σ σ' s o hA hE R tk hd
  obtain ⟨v, e1, hd⟩ := bind_some hd
  obtain ⟨σ1, e2, hd⟩ := Option.map_eq_some_iff.mp hd
  cases hd
  refine wpG_of (wpAny_Assign_stores (h.then hA hE (R.pre tk) e1 fun w s1 k1 r1 p1 => ?_) (hs env) (hw env))
  have T1 : Tr X s.heap X s1.heap := Tr.kp k1
  have R1 := R.stays k1.st
  obtain ⟨h1', tk1, rfl, st1⟩ := k1
  refine wpAny_mono (hT A env base P X σ _ _ v w hA.hh hE R1 p1.tok r1 e2) (fun _ s2 q => ?_) fun _ _ x => x
  obtain ⟨⟨h2, tk2, rfl⟩, tp2, R2, f2⟩ := q
  exact ⟨⟨_, _, rfl⟩, tp2, ⟨X, R2, T1.trans ⟨f2, fun _ x => .inl x⟩⟩, rfl⟩
end
end Mine

end
section
open PySem PySem.W PySem.Calls PyProof.Rows
set_option linter.unusedVariables false
set_option maxRecDepth 100000
namespace Mine

section
variable {G : PySem.Ctx → Prop} {C : Ctx} {sc : Scope} {lay : List Str} {n : Nat} {wr : Bool}

theorem notInter {sc : Scope} {env : Env} (hE : EnvOk sc env) : interactive env = false := by unfold interactive; rw [hE.kind]; rfl

/-- an owned slot as it stands -/
theorem SR.owned {env : Env} {base : Base} {P X : Addr → Prop} {σ : St} {h : Heap} {i : Nat} {x : Str} {xs : List PV} (R : SR C lay base P wr env X σ h) (hi : lay[i]? = some x) (hs : σ[i]? = some (.ol xs)) :
    ∃ m a vs, h.Ns env.locals m ∧ env.kindOf x = some .local ∧ m x = some (.ref a) ∧ X a ∧ MList h a (List.toArray vs) ∧ RepL X h xs vs ∧ a ≠ env.locals := by
  obtain ⟨m, own, nn, k, f1, f2⟩ := R.slots
  have ki := k i x hi
  rw [hs] at ki
  obtain ⟨k1, e, xa, vs, l, r⟩ := ki
  exact ⟨m, own i, vs, nn, k1, e, xa, l, r, ns_ne_list nn l.isList⟩
theorem SR.change {env : Env} {base : Base} {P X : Addr → Prop} {σ : St} {h h' : Heap} {i : Nat} {x : Str} {xs ys : List PV} {m : Str → Option Value} {a : Addr} {ws : List Value} (R : SR C lay base P wr env X σ h) (hi : lay[i]? = some x) (hs : σ[i]? = some (.ol xs))
    (hn : h.Ns env.locals m) (hm : m x = some (.ref a)) (l' : MList h' a (List.toArray ws)) (r' : RepL X h' ys ws) (hb : Heap.SameBut a h h') : SR C lay base P wr env X (σ.set i (.ol ys)) h' := by
  refine R.mutate (a := a) hi hs rfl rfl (fun m' own n' k => ?_) (by obtain ⟨o, e, _⟩ := l'; rw [e]; rfl) hb
  obtain ⟨k1, e, xa, vs, l, r⟩ := k
  have := ns_inj n' hn
  subst this
  rw [hm] at e
  cases e
  exact ⟨rfl, k1, hm, xa, ws, l', r'⟩

/-- x.append(e), x.extend(e): the road to the call -/
theorem method_road {A : Around} {env : Env} {s : Shared} {x : Str} {name : Str} {id : String} {e : Expr} {p apos cpos : Pos} {m : Str → Option Value} {a : Addr} {vs : Array Value} {Q : Value → Shared → Prop}
    (hE : EnvOk sc env) (hn : s.heap.Ns env.locals m) (hk : env.kindOf x = some .local) (hm : m x = some (.ref a)) (hl : MList s.heap a vs) (hd : (x == ("__debug__" : Str)) = false)
    (slot : PySem.Slot "list" name id) (hty : typeOf (.builtin id) = pure (.type "method_descriptor")) (hline : (apos.endLine == cpos.line) = true) (hs : notStar e = true)
    (h : wpAny C.M A (eval e env) (fun v s₁ => wpAny C.M A (call (.builtin id) [.ref a, v]) Q NoE s₁) NoE s) : wpAny C.M A (eval (.Call (.Attribute (.Name x p) name apos) [e] [] cpos) env) Q NoE s := by
  have ht : backTo cpos (starEach [e] env) = [(false, eval e env)] := by rw [starEach_cons hs]; rfl
  refine wpAny_Call_method1_late rfl hline ht (wpAny_Name (wpAny_loadName_local hE.kind hk hn hm ?_) hd)
  refine ⟨"list", id, PySem.F.plainAttrs_list, slot, hty, hl.isList.typeIs, fun b q => ?_, ?_⟩
  · cases q; obtain ⟨o, e, _, d, _⟩ := hl; exact ⟨o, e, d⟩
  · exact Calls.callWith_builtin rfl (Calls.evalArgs_plain (Calls.spliced_cons (wpAny_mono h (fun y s₂ h₂ => Calls.spliced_nil h₂) fun _ _ e => e)))

noncomputable def dAppend (d : St → Option PV) (i : Nat) : St → Option (St × Out) := fun σ => match σ[i]? with
  | some (.ol xs) => (d σ).bind fun v => if xs.length < 16777216 then some (σ.set i (.ol (xs ++ [v])), .next) else none
  | _ => none
theorem ss_append {x : Str} {i : Nat} {e : Expr} {p apos cpos pos : Pos} {d : St → Option PV} (hi : lay[i]? = some x) (h : SE C sc lay n e d) (hd : (x == ("__debug__" : Str)) = false) (hline : (apos.endLine == cpos.line) = true) (hs : notStar e = true) :
    SS G C sc lay n wr (.Expr (.Call (.Attribute (.Name x p) "append" apos) [e] [] cpos) pos) (dAppend d i) := by
  intro A env base P X σ σ' s o hA hE R tk hd'
  unfold dAppend at hd'
  split at hd'
  · rename_i xs hsl
    obtain ⟨v, e1, hd'⟩ := bind_some hd'
    split at hd'
    · rename_i hsz
      cases hd'
      obtain ⟨m, a, vs, nn, k1, hm, xa, l, r, ne⟩ := R.owned hi hsl
      refine wpG_of (wpAny_Expr_any (method_road hE nn k1 hm l hd slot_list_append type_list_append hline hs ?_) (notInter hE) rfl)
      refine h.then hA hE (R.pre tk) e1 fun w s1 kp1 r1 p1 => ?_
      have st1 := kp1.st
      have l1 : MList s1.heap a vs.toArray := let ⟨o, e, q⟩ := l; ⟨o, st1 _ _ e, q⟩
      refine append_ok xa l1 (r.stays st1) r1 (by simp; omega) fun h' hs' l' rl' => ?_
      have R1 := (R.stays st1).change hi hsl (nn.keeps st1) hm l' rl' hs'
      have T1 : Tr X s.heap X s1.heap := Tr.kp kp1
      obtain ⟨g1, t1, rfl, _⟩ := kp1
      exact ⟨⟨_, _, rfl⟩, p1.tok, ⟨X, R1, T1.trans ⟨frz_but xa hs', fun _ x => .inl x⟩⟩, rfl⟩
    · cases hd'
  · cases hd'

theorem extend_ok {A : Around} {s : Shared} {a b : Addr} {ws us : List Value} {Q : Value → Shared → Prop} (hl : MList s.heap a ws.toArray) (hb : s.heap.IsList b us.toArray) (hsz : ws.length + us.length ≤ 16777216)
    (hQ : ∀ h', Heap.SameBut a s.heap h' → MList h' a (ws ++ us).toArray → Q .none { s with heap := h' }) : wpAny C.M A (call (.builtin "list.extend") [.ref a, .ref b]) Q NoE s := by
  obtain ⟨o, ho, hc, hdn, k, hd⟩ := id hl
  obtain ⟨ob, hob, hcb, kb, hdb⟩ := hb
  refine wpAny_call_entry PySem.F.slot_list_extend hl.isList.typeIs PySem.F.entry_list_extend ?_ (PySem.F.args_list_extend_2 _ _)
  show wpAny _ _ (Builtin.List.listExtendWith (.ref a) (.ref b) .none) _ _ s
  unfold Builtin.List.listExtendWith
  refine wpAny_bind (wpAny_typeOf ⟨ob, hob, hcb⟩ ?_)
  have h1 : (Builtin.List.listSameRef (.ref a) (.ref b) || Value.type "list" == Value.type "list" || Value.type "list" == Value.type "tuple") = true := by simp
  simp only [h1, if_true]
  refine wpAny_bind ?_
  unfold Builtin.List.listItems
  refine wpAny_bind (wpAny_seqItems hob hdb (wpAny_pure ?_))
  refine wpAny_bind (wpAny_bind (wpAny_seqItems ho hd (wpAny_pure ?_)))
  have h2 : (!(ws.toArray).isEmpty && Builtin.List.listTooLong (ws.toArray.size + us.toArray.size)) = false := by
    have : Builtin.List.listTooLong (ws.toArray.size + us.toArray.size) = false := by
      unfold Builtin.List.listTooLong; rw [sizeLine_eq]; simp; omega
    rw [this, Bool.and_false]
  rw [if_neg (by rw [h2]; decide)]
  obtain ⟨k', hd'⟩ := Obj.data_mapSeq hd (· ++ us.toArray)
  refine wpAny_bind (m := updateSeq a (· ++ us.toArray)) (wpAny_updateSeq ho hd (wpAny_pure ⟨.none, rfl, hQ _ (Heap.SameBut.update ..) ?_⟩) (by rw [sizeLine_eq]; simp; omega) (by rw [sizeLine_eq]; simp; omega))
  refine ⟨_, Heap.get?_update_self _ ho (Obj.isFreed_of_seq hd'), (Obj.cls_mapSeq ..).trans hc, ?_, k', by simpa using hd'⟩
  obtain ⟨c, d, dt, sl⟩ := o
  subst hd
  exact hdn

noncomputable def dExtend (d : St → Option PV) (i : Nat) : St → Option (St × Out) := fun σ => match σ[i]? with
  | some (.ol xs) => (d σ).bind fun v => match v with
    | .list ys => if xs.length + ys.length ≤ 16777216 then some (σ.set i (.ol (xs ++ ys)), .next) else none
    | _ => none
  | _ => none
theorem ss_extend {x : Str} {i : Nat} {e : Expr} {p apos cpos pos : Pos} {d : St → Option PV} (hi : lay[i]? = some x) (h : SE C sc lay n e d) (hd : (x == ("__debug__" : Str)) = false) (hline : (apos.endLine == cpos.line) = true) (hs : notStar e = true) :
    SS G C sc lay n wr (.Expr (.Call (.Attribute (.Name x p) "extend" apos) [e] [] cpos) pos) (dExtend d i) := by
  intro A env base P X σ σ' s o hA hE R tk hd'
  unfold dExtend at hd'
  split at hd'
  · rename_i xs hsl
    obtain ⟨v, e1, hd'⟩ := bind_some hd'
    split at hd'
    · rename_i ys
      split at hd'
      · rename_i hsz
        cases hd'
        obtain ⟨m, a, vs, nn, k1, hm, xa, l, r, ne⟩ := R.owned hi hsl
        refine wpG_of (wpAny_Expr_any (method_road hE nn k1 hm l hd PySem.F.slot_list_extend PySem.F.type_list_extend hline hs ?_) (notInter hE) rfl)
        refine h.then hA hE (R.pre tk) e1 fun w s1 kp1 r1 p1 => ?_
        obtain ⟨b, us, rfl, nb, lb, rb⟩ := r1
        have st1 := kp1.st
        have l1 : MList s1.heap a vs.toArray := let ⟨o, e, q⟩ := l; ⟨o, st1 _ _ e, q⟩
        refine extend_ok l1 lb (by rw [r.length, rb.length]; exact hsz) fun h' hs' l' => ?_
        have fz := frz_but xa hs'
        have R1 := (R.stays st1).change hi hsl (nn.keeps st1) hm l' (((r.stays st1).append rb).frz fz) hs'
        have T1 : Tr X s.heap X s1.heap := Tr.kp kp1
        obtain ⟨g1, t1, rfl, _⟩ := kp1
        exact ⟨⟨_, _, rfl⟩, p1.tok, ⟨X, R1, T1.trans ⟨fz, fun _ x => .inl x⟩⟩, rfl⟩
      · cases hd'
    · cases hd'
  · cases hd'

/-- x = [] -/
noncomputable def dNew (i : Nat) : St → Option (St × Out) := fun σ => some (σ.set i (.ol []), .next)
theorem ss_new {x : Str} {i : Nat} {p q pos : Pos} (hi : lay[i]? = some x) (hk : sc.names.lookup x = some .local) : SS G C sc lay n wr (.Assign [.Name x p] (.List [] q) pos) (dNew i) := by
  intro A env base P X σ σ' s o hA hE R tk hd'
  cases hd'
  have hk' : env.kindOf x = some .local := by unfold Env.kindOf; rw [hE.scope]; exact hk
  refine wpG_of (wpAny_Assign_Name (wpAny_List (wpAny_items_nil ⟨Nat.zero_le _, ?_⟩)) rfl)
  have fr := size_none s.heap
  have st := stays_push s.heap { cls := .type "list", data := .seq ([] : List Value).toArray }
  have R1 := R.stays st
  obtain ⟨m, own, nn, k, f1, f2⟩ := R1.slots
  refine wpAny_storeName_local hk' nn (fun h' hn hs => ?_) (noClass hE)
  have ob : (s.heap.push { cls := .type "list", data := .seq ([] : List Value).toArray }).get? s.heap.objs.size = some { cls := .type "list", data := .seq ([] : List Value).toArray } := Heap.get?_push_size _ rfl
  have ne : s.heap.objs.size ≠ env.locals := fun q => by have := R.live _ R.locX; rw [← q, fr] at this; cases this
  obtain ⟨Y, RY, TY⟩ := R.own (sl := .ol []) hi hk' fr rfl st (fun Y hY ya m' hm' => ⟨hk', hm', ya, [], ⟨_, (hs.2 _ ne).trans ob, rfl, rfl, 0, rfl⟩, rfl⟩) (by rw [ob]; rfl) (fun m' n' => by rw [ns_inj n' nn]; exact hn) hs
  exact ⟨⟨_, _, rfl⟩, Nat.succ_pos _, ⟨Y, RY, TY⟩, rfl⟩
end
end Mine

end
section
open PySem PySem.W PySem.Calls PyProof.Rows
set_option linter.unusedVariables false
set_option maxRecDepth 100000
namespace Mine

theorem ItAt.obj {X : Addr → Prop} {h : Heap} {I : Addr} {xs : List PV} (y : ItAt X h I xs) : ∃ o vs, h.get? I = some o ∧ o.data = .fields vs := by
  rcases y with ⟨l, vs, i, ⟨o, e, q⟩, _⟩ | ⟨l, vs, i, ⟨o, e, q⟩, _⟩ | ⟨a, c, n, e, q⟩ | ⟨b, t, i, ⟨o, e, q⟩, r⟩
  · exact ⟨o, _, e, q.2⟩
  · exact ⟨o, _, e, q.2⟩
  · exact ⟨_, _, e, rfl⟩
  · exact ⟨o, _, e, q.2⟩

section
variable {C : Ctx} {lay : List Str} {base : Base} {P X : Addr → Prop} {wr : Bool} {env : Env} {σ : St} {h h1 : Heap} {I : Addr}

structure Apart (h : Heap) (I : Addr) : Prop where
  ns : ∀ {L m}, h.Ns L m → L ≠ I
  cell : ∀ {c v}, h.IsCell c v → c ≠ I
  list : ∀ {a vs}, MList h a vs → a ≠ I
  ba : ∀ {a b}, h.get? a = some (baObj b) → a ≠ I
theorem apart_of {o : Obj} {vs : Array Value} (ho : h.get? I = some o) (hd : o.data = .fields vs) : Apart h I where
  ns := by rintro L m ⟨o', es, ep, e1, e2, _⟩ rfl; rw [ho] at e1; cases e1; rw [hd] at e2; cases e2
  cell := by rintro L m ⟨o', e1, e2⟩ rfl; rw [ho] at e1; cases e1; rw [hd] at e2; cases e2
  list := by rintro L m ⟨o', e1, _, _, k, e2⟩ rfl; rw [ho] at e1; cases e1; rw [hd] at e2; cases e2
  ba := by rintro L m e1 rfl; rw [ho] at e1; cases e1; cases hd

theorem SlotOk.own_ne {m : Str → Option Value} {a : Addr} {x : Str} {sl : Slot} (ap : Apart h I) (k : SlotOk X h env m a x (some sl)) (o : sl.isOwn = true) : a ≠ I := by
  cases sl with
  | ol xs => obtain ⟨_, _, _, vs, l, _⟩ := k; exact ap.list l
  | ob b => obtain ⟨_, _, _, l⟩ := k; exact ap.ba l
  | _ => cases o

/-- the iterator alone moves -/
theorem SR.iter (R : SR C lay base P wr env X σ h) (ap : Apart h I) (bI : base I = none) {Y : Addr → Prop} (hYX : ∀ a, Y a → X a) (hXY : ∀ a, X a → a ≠ I → Y a) (hYI : Y I → (h1.get? I).isSome = true) (xI : X I)
    (fr : ∀ b o, b ≠ I → h.get? b = some o → h1.get? b = some o) : SR C lay base P wr env Y σ h1 := by
  obtain ⟨m, own, nn, k, f1, f2⟩ := R.slots
  have nL := ap.ns nn
  have up : ∀ {p : PV} {v : Value}, Rep X h p v → Rep Y h1 p v := fun {p v} r => r.mono fun b o e nx _ => ⟨fr b o (fun q => nx (q ▸ xI)) e, fun y => nx (hYX b y)⟩
  have upL : ∀ {p : List PV} {v : List Value}, RepL X h p v → RepL Y h1 p v := fun {p v} r => r.mono fun b o e nx _ => ⟨fr b o (fun q => nx (q ▸ xI)) e, fun y => nx (hYX b y)⟩
  have cl : ∀ {c v}, h.IsCell c v → h1.IsCell c v := fun {c v} hc => by
    have := ap.cell hc
    obtain ⟨o, e, q⟩ := hc
    exact ⟨o, fr c o this e, q⟩
  exact {
    gl := R.gl, liveP := R.liveP, locN := R.locN, apart := R.apart, hasCell := R.hasCell, nodup := R.nodup, len := R.len
    keep := fun b o e => fr b o (fun q => by rw [q, bI] at e; cases e) (R.keep b o e)
    sub := fun a p => hXY a (R.sub a p) fun q => by have := R.liveP a p; rw [q, bI] at this; cases this
    new := fun a y => R.new a (hYX a y)
    live := fun a y => by
      by_cases q : a = I
      · rw [q]; exact hYI (q ▸ y)
      · obtain ⟨o, e⟩ := Option.isSome_iff_exists.mp (R.live a (hYX a y))
        rw [fr a o q e]; rfl
    locX := hXY _ R.locX nL
    cells := fun q y c e => let ⟨u, b, w, d⟩ := R.cells q y c e; ⟨hXY c u (ap.cell d), b, w, cl d⟩
    slots := by
      refine ⟨m, own, nn.at' fun o e => fr _ o nL e, fun i x e => ?_, f1, f2⟩
      have ki := k i x e
      cases hs : σ[i]? with
      | none => trivial
      | some sl =>
        rw [hs] at ki
        cases sl with
        | un => trivial
        | fz p =>
          rcases ki with ⟨k1, v, e, r⟩ | ⟨k1, c, v, e1, e2, r⟩
          · exact .inl ⟨k1, v, e, up r⟩
          · exact .inr ⟨k1, c, v, e1, cl e2, up r⟩
        | ol xs =>
          have ne := SlotOk.own_ne ap ki rfl
          obtain ⟨k1, e, u, vs, ⟨o, e1, q⟩, r⟩ := ki
          exact ⟨k1, e, hXY _ u ne, vs, ⟨o, fr _ o ne e1, q⟩, upL r⟩
        | ob b =>
          have ne := SlotOk.own_ne ap ki rfl
          obtain ⟨k1, e, u, l⟩ := ki
          exact ⟨k1, e, hXY _ u ne, fr _ _ ne l⟩ }

noncomputable def holdB (base : Base) (I : Addr) (o : Obj) : Base := fun a => if a = I then some o else base a
theorem holdB_old {o : Obj} (bI : base I = none) {b : Addr} {ob : Obj} (e : base b = some ob) : holdB base I o b = some ob := by
  unfold holdB; rw [if_neg (fun q => by rw [q, bI] at e; cases e)]; exact e
/-- the iterator is held through the body -/
theorem SR.hold (R : SR C lay base P wr env X σ h) (ap : Apart h I) (bI : base I = none) (xI : X I) {o : Obj} (ho : h.get? I = some o) : SR C lay (holdB base I o) (fun a => P a ∨ a = I) wr env X σ h := by
  obtain ⟨m, own, nn, k, f1, f2⟩ := R.slots
  have nL := ap.ns nn
  exact {
    gl := fun h' kk => R.gl h' fun b ob e => kk b ob (holdB_old bI e)
    keep := fun b ob e => by
      unfold holdB at e
      split at e
      · rename_i q; cases e; rw [q]; exact ho
      · exact R.keep b ob e
    liveP := fun a p => by
      unfold holdB
      split
      · rfl
      · rename_i q; exact p.elim (R.liveP a) fun z => (q z).elim
    sub := fun a p => p.elim (R.sub a) fun q => q ▸ xI
    new := fun a x => by
      by_cases q : a = I
      · exact .inl (.inr q)
      · rcases R.new a x with p | p
        · exact .inl (.inl p)
        · exact .inr (by unfold holdB; rw [if_neg q]; exact p)
    live := R.live, locX := R.locX, apart := R.apart, hasCell := R.hasCell, nodup := R.nodup, len := R.len
    locN := by unfold holdB; rw [if_neg nL]; exact R.locN
    cells := fun q y c e => let ⟨u, b, w, d⟩ := R.cells q y c e; ⟨u, by unfold holdB; rw [if_neg (ap.cell d)]; exact b, w, d⟩
    slots := by
      refine ⟨m, own, nn, k, fun i oi => ?_, f2⟩
      obtain ⟨sl, e, q⟩ := oi
      have hl : i < lay.length := Nat.lt_of_lt_of_le (List.getElem?_eq_some_iff.mp e).1 R.len
      have ki := k i _ (List.getElem?_eq_getElem hl)
      rw [e] at ki
      have ne := SlotOk.own_ne ap ki q
      unfold holdB; rw [if_neg ne]; exact f1 i ⟨sl, e, q⟩ }
theorem SR.unhold {o : Obj} (gl : ∀ h, Held base h → C.Gl h) (lP : ∀ a, P a → (base a).isSome = true) (bI : base I = none) (R : SR C lay (holdB base I o) (fun a => P a ∨ a = I) wr env X σ h) : SR C lay base P wr env X σ h where
  gl := gl
  keep := fun b ob e => R.keep b ob (holdB_old bI e)
  liveP := lP
  sub := fun a p => R.sub a (.inl p)
  new := fun a x => by
    rcases R.new a x with (p | p) | p
    · exact .inl p
    · exact .inr (p ▸ bI)
    · unfold holdB at p; split at p
      · cases p
      · exact .inr p
  live := R.live
  locX := R.locX
  locN := by have := R.locN; unfold holdB at this; split at this; cases this; exact this
  cells := fun q y c e => let ⟨u, b, w, d⟩ := R.cells q y c e; ⟨u, by unfold holdB at b; split at b; cases b; exact b, w, d⟩
  apart := R.apart
  hasCell := R.hasCell
  nodup := R.nodup
  len := R.len
  slots := let ⟨m, own, nn, k, f1, f2⟩ := R.slots; ⟨m, own, nn, k, fun i oi => (by have b := f1 i oi; unfold holdB at b; split at b; cases b; exact b), f2⟩
theorem SR.addI (R : SR C lay base P wr env X σ h) (fI : h.get? I = none) (st : Stays h h1) (al : (h1.get? I).isSome = true) : SR C lay base P wr env (fun a => X a ∨ a = I) σ h1 := by
  have R1 := R.stays st
  obtain ⟨m, own, nn, k, f1, f2⟩ := R.slots
  have bI : base I = none := by
    cases e : base I with
    | none => rfl
    | some o => rw [R.keep I o e] at fI; cases fI
  exact {
    gl := R.gl, liveP := R.liveP, locN := R.locN, apart := R.apart, hasCell := R.hasCell, nodup := R.nodup, len := R.len, keep := R1.keep, locX := .inl R.locX
    sub := fun a p => .inl (R.sub a p)
    new := fun a x => x.elim (R.new a) fun q => .inr (q ▸ bI)
    live := fun a x => x.elim (R1.live a) fun q => q ▸ al
    cells := fun q y c e => let ⟨u, b, w, d⟩ := R1.cells q y c e; ⟨.inl u, b, w, d⟩
    slots := by
      refine ⟨m, own, nn.keeps st, fun i x e => ?_, f1, f2⟩
      have ki := k i x e
      cases hs : σ[i]? with
      | none => trivial
      | some sl =>
        rw [hs] at ki
        cases sl with
        | un => trivial
        | fz p =>
          rcases ki with ⟨k1, v, e, r⟩ | ⟨k1, c, v, e1, e2, r⟩
          · exact .inl ⟨k1, v, e, r.hide fI st⟩
          · exact .inr ⟨k1, c, v, e1, e2.keeps st, r.hide fI st⟩
        | ol xs =>
          obtain ⟨k1, e, u, vs, ⟨o, e1, q⟩, r⟩ := ki
          exact ⟨k1, e, .inl u, vs, ⟨o, st _ o e1, q⟩, r.hide fI st⟩
        | ob b =>
          obtain ⟨k1, e, u, l⟩ := ki
          exact ⟨k1, e, .inl u, st _ _ l⟩ }
end

noncomputable def forRun (b : PV → St → Option St) (db : St → Option (St × Out)) : List PV → St → Option (St × Out)
  | [], σ => some (σ, .next)
  | x :: xs, σ => (b x σ).bind fun σ1 => match db σ1 with
    | some (σ2, .next) => forRun b db xs σ2
    | some (σ2, .ret v) => some (σ2, .ret v)
    | none => none
noncomputable def frAll : List Nat → St → St
  | [], σ => σ
  | i :: is, σ => frAll is (σ.modify i Slot.shown)
noncomputable def dFor (fz : List Nat) (di : St → Option PV) (b : PV → St → Option St) (db : St → Option (St × Out)) : St → Option (St × Out) := fun σ =>
  (di (frAll fz σ)).bind fun pv => (pvIter pv).bind fun xs => forRun b db xs (frAll fz σ)

section
variable {G : PySem.Ctx → Prop} {C : Ctx} {sc : Scope} {lay : List Str} {n : Nat} {wr : Bool}
theorem SR.frAll {env : Env} {base : Base} {P : Addr → Prop} {h : Heap} : ∀ (is : List Nat) {X : Addr → Prop} {σ : St}, SR C lay base P wr env X σ h → (∀ i ∈ is, i < lay.length) → ∃ Y, SR C lay base P wr env Y (Mine.frAll is σ) h ∧ Tr X h Y h
  | [], X, σ, R, _ => ⟨X, R, Tr.refl ..⟩
  | i :: is, X, σ, R, hl => by
    obtain ⟨Y, RY, TY⟩ := R.freeze (List.getElem?_eq_getElem (hl i (List.mem_cons_self ..)))
    obtain ⟨Z, RZ, TZ⟩ := SR.frAll is RY fun j hj => hl j (List.mem_cons_of_mem _ hj)
    exact ⟨Z, RZ, TY.trans TZ⟩

theorem ss_for (hG : GOk G) {tgt iter : Expr} {body : List Stmt} {pos : Pos} {fz : List Nat} {di : St → Option PV} {b : PV → St → Option St} {db : St → Option (St × Out)} (hfz : ∀ i ∈ fz, i < lay.length)
    (hi : SE C sc lay n iter di) (hs : ∀ env x, foldedSetIterable iter env x = pure x) (ht : TG C sc lay wr tgt b) (hgo : (∃ x p, tgt = .Name x p) ∨ ∃ es k p, tgt = .Tuple es k p) (hb : SSs G C sc lay n wr body db) :
    SS G C sc lay n wr (.For tgt iter body [] pos) (dFor fz di b db) := by
  intro A env base P X σ σ' s o hA hE R0 tk hd
  obtain ⟨pv, e1, hd⟩ := bind_some hd
  obtain ⟨xs, e2, hd⟩ := bind_some hd
  obtain ⟨X1, R, T0⟩ := R0.frAll fz hfz
  refine wpG_For hG (hi.then hA hE (R.pre tk) e1 fun v s1 k1 r1 p1 => ?_) (hs env)
  refine wpAny_mono (wpAny_toks (iter_ok (C := C) r1 e2)) (fun it s2 h2 => ?_) fun _ _ q => q.2
  obtain ⟨tk2, I, rfl, fI, kp, y⟩ := h2
  have tp2 : 0 < s2.toks := Nat.lt_of_lt_of_le p1.tok tk2
  have R2 := (R.stays k1.st).addI fI kp.st y.alive
  have T2 : Tr X s.heap (fun a => X1 a ∨ a = I) s2.heap := (T0.trans (Tr.kp (X := X1) k1)).trans ⟨Frz.of kp.st, fun a x => x.elim .inl fun q => .inr (q ▸ fI)⟩
  have bI : base I = none := by
    cases e : base I with
    | none => rfl
    | some ob => have := (R.stays k1.st).keep I ob e; rw [fI] at this; cases this
  have on2 : ∃ h' tk, s2 = { s with heap := h', toks := tk } := by
    obtain ⟨g, t, rfl, _⟩ := k1.trans' kp; exact ⟨_, _, rfl⟩
  refine codeG_forLoop hG (fun k s' => ∃ xs σ1 X', k = xs.length ∧ X' I ∧ SR C lay base P wr env X' σ1 s'.heap ∧ ItAt X' s'.heap I xs ∧ Tr X s.heap X' s'.heap ∧ (∃ h' tk, s' = { s with heap := h', toks := tk }) ∧ 0 < s'.toks ∧ forRun b db xs σ1 = some (σ', o)) ?_
    xs.length ⟨xs, _, _, rfl, .inr rfl, R2, y, T2, on2, tp2, hd⟩
  rintro k s3 ⟨ys, σ1, X', rfl, xI, R3, y3, T3, ⟨h3, tk3, rfl⟩, tp3, hd3⟩
  obtain ⟨oI, vI, eI, dI⟩ := y3.obj
  have ap := apart_of eI dI
  refine wpAny_mono (wpAny_toks (next_ok (C := C) (E := NoE) xI hA.hh y3)) (fun r s4 h4 => ?_) fun _ _ q => q.2
  obtain ⟨tk4, ⟨h4', tk4', rfl, fr⟩, hr⟩ := h4
  have tp4 : 0 < tk4' := Nat.lt_of_lt_of_le tp3 tk4
  cases ys with
  | nil =>
    cases hr
    cases hd3
    have R4 := R3.iter (h1 := h4') ap bI (Y := fun a => X' a ∧ a ≠ I) (fun a y => y.1) (fun a x n => ⟨x, n⟩) (fun y => (y.2 rfl).elim) xI fr
    exact ⟨⟨_, _, rfl⟩, tp4, ⟨_, R4, T3.trans ⟨fun b o e nx => fr b o (fun q => nx (q ▸ xI)) e, fun a y => .inl y.1⟩⟩, rfl⟩
  | cons x rest =>
    obtain ⟨v, rfl, rv, y4⟩ := hr
    obtain ⟨σ2, e3, hd3⟩ := bind_some hd3
    have R4 := R3.iter (h1 := h4') ap bI (Y := X') (fun a y => y) (fun a x n => x) (fun _ => y4.alive) xI fr
    obtain ⟨o4, v4, e4, d4⟩ := y4.obj
    have ap4 := apart_of e4 d4
    have R4h := R4.hold ap4 bI xI e4
    have T4 : Tr X s.heap X' h4' := T3.trans ⟨fun b o e nx => fr b o (fun q => nx (q ▸ xI)) e, fun a y => .inl y⟩
    have go : ∀ {Q : Unit → Shared → Prop}, Q () { s with heap := h4', toks := tk4' } → wpAny C.M A (letOwnedTupleGo tgt (.ref I) v) Q NoE { s with heap := h4', toks := tk4' } := fun {Q} q => by
      rcases hgo with ⟨x, p, rfl⟩ | ⟨es, k, p, rfl⟩
      · exact wpAny_pure q
      · exact go_ok y4 q
    refine go ?_
    refine wpAny_mono (ht A env _ _ X' σ1 σ2 { s with heap := h4', toks := tk4' } x v hA.hh hE R4h tp4 rv e3) (fun _ s5 h5 => ?_) fun _ _ q => q
    obtain ⟨⟨h5', tk5, rfl⟩, tp5, R5, f5⟩ := h5
    have T5 : Tr X s.heap X' h5' := T4.trans ⟨f5, fun a y => .inl y⟩
    have y5 : ItAt X' h5' I rest := y4.mono (fun ob e => R5.keep I ob (by unfold holdB; rw [if_pos rfl]; rw [e4] at e; exact e)) fun b o e nx => ⟨f5 b o e nx, nx⟩
    split at hd3
    · rename_i σ3 e6
      refine wpG_mono (hb A env _ _ X' σ2 σ3 _ .next hA hE R5 tp5 e6) (fun f s6 q => ?_) fun _ _ x => x
      obtain ⟨⟨h6, tk6, rfl⟩, tp6, ⟨X6, R6, T6⟩, rfl⟩ := q
      refine ⟨rest.length, Nat.lt_succ_self _, rest, σ3, X6, rfl, R6.sub I (.inr rfl), SR.unhold R.gl R.liveP bI R6, ?_, T5.trans T6, ⟨_, _, rfl⟩, tp6, hd3⟩
      refine y5.mono (fun ob e => R6.keep I ob (by
        unfold holdB; rw [if_pos rfl]
        have := R5.keep I o4 (by unfold holdB; rw [if_pos rfl])
        rw [this] at e; exact e)) fun b ob e nx => ⟨T6.frz b ob e nx, fun z => (T6.sub b z).elim nx fun q => by rw [e] at q; cases q⟩
    · rename_i σ3 w e6
      cases hd3
      refine wpG_mono (hb A env _ _ X' σ2 _ _ (.ret w) hA hE R5 tp5 e6) (fun f s6 q => ?_) fun _ _ x => x
      obtain ⟨⟨h6, tk6, rfl⟩, tp6, ⟨X6, R6, T6⟩, u, rfl, ru⟩ := q
      exact ⟨⟨_, _, rfl⟩, tp6, ⟨X6, SR.unhold R.gl R.liveP bI R6, T5.trans T6⟩, u, rfl, ru.weak fun a p => .inl p⟩
    · cases hd3
end
end Mine

end
section
open PySem PySem.W PySem.Calls PyProof.Rows
set_option linter.unusedVariables false
set_option maxRecDepth 100000
namespace Mine

theorem back_heap {h h3 : Heap} {L : Addr} {o0 o3 : Obj} (e0 : h.get? L = some o0) (e3 : h3.get? L = some o3) (ext : ∀ b o, b ≠ L → h.get? b = some o → h3.get? b = some o) :
    ∃ h1, Stays h h1 ∧ Heap.SameBut L h1 h3 := by
  have hf : o0.isFreed = false := (Heap.get?_some_iff.mp e0).2
  have hs : Heap.SameBut L h3 (h3.update L fun _ => o0) := Heap.SameBut.update ..
  refine ⟨h3.update L fun _ => o0, fun b o e => ?_, ?_⟩
  · by_cases q : b = L
    · subst q; rw [e0] at e; cases e
      exact Heap.get?_update_self (fun _ => o0) e3 hf
    · exact (hs.2 b q).trans (ext b o q e)
  · exact ⟨hs.1.symm, fun b q => (hs.2 b q).symm⟩

section
variable {G : PySem.Ctx → Prop} {C : Ctx} {sc csc : Scope} {lay lay' : List Str} {n : Nat} {wr : Bool}

theorem codeG_whileLoop {prog : Program} {w : World} {A : Around} {s : Shared} {R : Result → Shared → Prop} (hG : GOk G) {test : Expr} {body : List Stmt} {env : Env} (I : Nat → Shared → Prop)
    (turn : ∀ n s, I n s → wpAny (model prog w) A (isTrue test env (eval test env)) (fun b s₂ =>
        if b then wpG G (model prog w) A (execs body env) (fun f s₃ => match f with
            | .next | .cont => ∃ m, m < n ∧ I m s₃
            | .brk => R (.ok .next) s₃
            | .ret v => R (.ok (.ret v)) s₃) NoE s₂
        else R (.ok .next) s₂) NoE s)
    (n : Nat) (h : I n s) : codeG G (model prog w) A (.whileLoop test body [] env) R s := by
  refine codeG_loop hG rfl rfl I (fun n s hI => ?_) n h
  show wpG G _ A ((whileTurn test body [] env).onRaise (fun x => do noteFrame x env; theTreesLotGoes x)) _ _ s
  refine wpG_onRaise ?_
  simp only [whileTurn]
  refine wpG_bindA (wpAny_mono (turn n s hI) (fun b s₂ h₂ => ?_) fun _ _ h' => h')
  cases b with
  | true =>
    refine wpG_bind (wpG_mono h₂ (fun f s₃ h₃ => ?_) fun _ _ x => x)
    cases f with
    | next => exact wpG_pure (.inl ⟨rfl, h₃⟩)
    | cont => exact wpG_pure (.inl ⟨rfl, h₃⟩)
    | brk => exact wpG_pure h₃
    | ret v => exact wpG_pure h₃
  | false => exact wpG_bind (wpG_execs_nil (wpG_pure h₂))

noncomputable def whileRun (t : St → Option Bool) (db : St → Option (St × Out)) : Nat → St → Option (St × Out)
  | 0, _ => none
  | k + 1, σ => (t (viewB σ)).bind fun b => if b = true then match db σ with
      | some (σ1, .next) => whileRun t db k σ1
      | some (σ1, .ret v) => some (σ1, .ret v)
      | none => none
    else some (σ, .next)
theorem ss_while (hG : GOk G) {t : Expr} {body : List Stmt} {pos : Pos} {fuel : Nat} {dt : St → Option Bool} {db : St → Option (St × Out)} (ht : STst C sc lay n t dt) (hb : SSs G C sc lay n wr body db) : SS G C sc lay n wr (.While t body [] pos) (whileRun dt db fuel) := by
  intro A env base P X σ σ' s o hA hE R0 tk hd
  rw [exec_While]
  refine wpG_bindA (wpAny_standAt (wpG_runOwn hG rfl ?_))
  refine codeG_whileLoop hG (fun k s' => ∃ σ1 X', SR C lay base P wr env X' σ1 s'.heap ∧ Tr X s.heap X' s'.heap ∧ (∃ h' tk, s' = { s with heap := h', toks := tk }) ∧ 0 < s'.toks ∧ whileRun dt db k σ1 = some (σ', o)) ?_
    fuel ⟨σ, X, R0, Tr.refl .., ⟨_, _, rfl⟩, tk, hd⟩
  rintro k s3 ⟨σ1, X', R3, T3, ⟨h3, tk3, rfl⟩, tp3, hd3⟩
  cases k with
  | zero => cases hd3
  | succ k =>
    obtain ⟨b, e1, hd3⟩ := bind_some hd3
    obtain ⟨Y, _, _, hP⟩ := R3.preB tp3
    refine ht.then hA hE hP e1 fun s4 k4 p4 => ?_
    have R4 := R3.stays k4.st
    have T4 : Tr X s.heap X' s4.heap := T3.trans (Tr.kp (s := { s with heap := h3, toks := tk3 }) k4)
    have tp4 := p4.tok
    obtain ⟨h4, tk4, rfl, st4⟩ := k4
    cases b with
    | false =>
      rw [if_neg (by decide)] at hd3 ⊢
      cases hd3
      exact ⟨⟨_, _, rfl⟩, tp4, ⟨X', R4, T4⟩, rfl⟩
    | true =>
      rw [if_pos rfl] at hd3 ⊢
      split at hd3
      · rename_i σ2 e2
        refine wpG_mono (hb A env base P X' σ1 σ2 _ .next hA hE R4 tp4 e2) (fun f s5 q => ?_) fun _ _ x => x
        obtain ⟨⟨h5, tk5, rfl⟩, tp5, ⟨X5, R5, T5⟩, rfl⟩ := q
        exact ⟨k, Nat.lt_succ_self _, σ2, X5, R5, T4.trans T5, ⟨_, _, rfl⟩, tp5, hd3⟩
      · rename_i σ2 w e2
        cases hd3
        refine wpG_mono (hb A env base P X' σ1 _ _ (.ret w) hA hE R4 tp4 e2) (fun f s5 q => ?_) fun _ _ x => x
        obtain ⟨⟨h5, tk5, rfl⟩, tp5, ⟨X5, R5, T5⟩, u, rfl, ru⟩ := q
        exact ⟨⟨_, _, rfl⟩, tp5, ⟨X5, R5, T4.trans T5⟩, u, rfl, ru⟩
      · cases hd3

/-! a comprehension that is stored at once -/
noncomputable def dAsgC (own : Bool) (d : St → Option PV) (i : Nat) : St → Option (St × Out) := fun σ => (d σ).bind fun v => match v with
  | .list zs => some (σ.set i (if own = true then .ol zs else .fz (.list zs)), .next)
  | _ => none
theorem ss_asgC {own : Bool} {x : Str} {i : Nat} {elt tgt iter : Expr} {py pos spos : Pos} {di de : St → Option PV} {b : PV → St → Option St} {k : Nat} {fs : List Nat} (hi : lay[i]? = some x) (hk : sc.names.lookup x = some .local)
    (hsw : ∀ env, EnvOk sc env → swapsWith (.ListComp elt [⟨tgt, iter, [], 0⟩] csc pos) (some (.Name x py)) spos.line env = pure true)
    (hit : SE C sc lay n iter di) (hs : ∀ env x, foldedSetIterable iter env x = pure x) (hF : FrOk sc csc lay lay' k fs) (ht : TG C (relabelS csc sc) lay' false tgt b) (hgo : (∃ x p, tgt = .Name x p) ∨ ∃ es k p, tgt = .Tuple es k p)
    (he : SE C (relabelS csc sc) lay' n elt de) : SS G C sc lay n wr (.Assign [.Name x py] (.ListComp elt [⟨tgt, iter, [], 0⟩] csc pos) spos) (dAsgC own (dComp di b (dEmit de) k fs) i) := by
  intro A env base P X σ σ' s o hA hE R tk hd0
  obtain ⟨pv0, hd, hd0⟩ := bind_some hd0
  have hk' : env.kindOf x = some .local := by unfold Env.kindOf; rw [hE.scope]; exact hk
  obtain ⟨pv, e1, hd⟩ := bind_some hd
  obtain ⟨xs, e2, hd⟩ := bind_some hd
  split at hd
  · rename_i hfz
    obtain ⟨zs, e3, hd⟩ := bind_some hd
    split at hd
    · rename_i hsz
      cases hd
      cases hd0
      refine wpG_of ?_
      rw [exec_Assign_Name_used _ _ _ _ (hsw env hE)]
      refine wpAny_bind (wpAny_standAt (wpAny_bind ?_))
      show wpAny _ A (do let _ ← comprehension (.ListComp elt [⟨tgt, iter, [], 0⟩] csc pos) csc env _ (newList []) false (eval iter env) (some (assign (.Name x py) env))) _ _ s
      have hP := R.pre tk
      refine wpAny_bind (wpAny_mono (wpAny_comprehension_free (use := some (assign (.Name x py) env)) (Q := fun _ s' => SP C lay base P wr env X s (σ.set i (if own = true then .ol zs else .fz (.list zs))) .next .next s') (E := NoE) rfl (hs env) (clos_ok hE hF hP hfz) hF.kind hF.loc
        (hit.then hA hE hP e1 fun v s1 k1 r1 p1 => ?_)) (fun _ s' hq => wpAny_pure (wpAny_pure hq)) fun _ _ e => e)
      refine wpAny_mono (wpAny_toks (iter_ok (C := C) r1 e2)) (fun it s2 h2 => ?_) fun _ _ q => q.2
      obtain ⟨tk2, I, rfl, fI, kp, y⟩ := h2
      refine comp_block (RR := fun acc L => compPost C.M A NoE (some (assign (.Name x py) env)) (fun _ s' => SP C lay base P wr env X s (σ.set i (if own = true then .ol zs else .fz (.list zs))) .next .next s') acc L) hA hE hF p1 hfz ht hgo (fun cenv D h => em_elt he hA h) turn1 fI kp (Nat.lt_of_lt_of_le p1.tok tk2) y e3 hsz ?_
      intro D L h' tk' m ws fD fL nDL nn l rl st tp
      show wpAny _ A (assign (.Name x py) env (.ref D)) _ _ _
      have st1 := k1.st
      have f0 : ∀ a, s1.heap.get? a = none → s.heap.get? a = none := fun a ha => by
        cases e : s.heap.get? a with
        | none => rfl
        | some o => rw [st1 a o e] at ha; cases ha
      have stA : Stays s.heap h' := st1.trans st
      obtain ⟨g1, t1, rfl, _⟩ := k1
      have RA := R.stays stA
      obtain ⟨m0, own0, n0, _⟩ := RA.slots
      have hLL : env.locals ≠ L := fun q => by have := R.live _ R.locX; rw [q, f0 L fL] at this; cases this
      have hLD : env.locals ≠ D := fun q => by have := R.live _ R.locX; rw [q, f0 D fD] at this; cases this
      refine wpAny_assign_Name (wpAny_storeName_local hk' n0 (fun h2 hn2 hs2 => ?_) (noClass hE))
      refine ⟨m, nn.sameBut hs2 (Ne.symm hLL), fun h3 hs3 => ?_⟩
      have wk : ∀ a, X a → (X a ∨ a = D) ∨ a = L := fun a q => .inl (.inl q)
      have hXD : ¬ X D := fun q => by have := R.live D q; rw [f0 D fD] at this; cases this
      have hXL : ¬ X L := fun q => by have := R.live L q; rw [f0 L fL] at this; cases this
      -- the cleared names of the comprehension are dropped first
      have lD : MList h3 D ws.toArray := by
        obtain ⟨od, ed, qd⟩ := l
        exact ⟨od, (hs3.2 D nDL).trans ((hs2.2 D (Ne.symm hLD)).trans ed), qd⟩
      -- the same end is reached by clearing first and storing then
      have rep : ∀ Y : Addr → Prop, (∀ b, Y b → X b ∨ b = D) → RepL Y h3 zs ws := fun Y hY => by
        refine (RepL.mono (X := fun a => (X a ∨ a = D) ∨ a = L) (Y := fun a => (X a ∨ a = D) ∨ a = L) (h := h') (h' := h3) (fun b ob e nx _ => ⟨?_, nx⟩) rl).weak fun a ya => .inl (hY a ya)
        rw [hs3.2 b fun q => nx (.inr q), hs2.2 b fun q => nx (.inl (.inl (q ▸ R.locX)))]; exact e
      have ext : ∀ b ob, b ≠ env.locals → s.heap.get? b = some ob → h3.get? b = some ob := fun b ob nb e => by
        rw [hs3.2 b fun q => (by rw [q, f0 L fL] at e; cases e), hs2.2 b nb]; exact stA b ob e
      have n3 := hn2.sameBut hs3 hLL
      obtain ⟨o0, es0, ep0, e0, _⟩ := (show ∃ o es ep, s.heap.get? env.locals = some o ∧ _ from by obtain ⟨mm, _, nn0, _⟩ := R.slots; obtain ⟨o, es, ep, e, _⟩ := nn0; exact ⟨o, es, ep, e, trivial⟩)
      obtain ⟨o3, _, _, e3', _⟩ := id n3
      obtain ⟨h1, st1', sb1⟩ := back_heap e0 e3' ext
      have RB := R.stays st1'
      obtain ⟨mB, ownB, nB, _⟩ := RB.slots
      obtain ⟨mS, ownS, nS, _⟩ := R.slots
      have emm : mB = m0 := (ns_inj nB (nS.keeps st1')).trans (ns_inj n0 (nS.keeps stA)).symm
      have hn' : ∀ m', h1.Ns env.locals m' → h3.Ns env.locals (fun y => if y = x then some (.ref D) else m' y) := fun m' n' => by
        rw [ns_inj n' nB, emm]; exact n3
      cases own with
      | true =>
        obtain ⟨Y, RY, TY⟩ := R.own (sl := .ol zs) hi hk' (f0 D fD) rfl st1' (fun Y hY ya m' hm' => ⟨hk', hm', ya, ws, lD, rep Y hY⟩) (by obtain ⟨od, ed, _⟩ := lD; rw [← sb1.2 D (Ne.symm hLD), ed]; rfl) hn' sb1
        exact ⟨⟨_, _, rfl⟩, Nat.succ_pos _, ⟨Y, RY, TY⟩, rfl⟩
      | false =>
        have rD : Rep X h1 (.list zs) (.ref D) := by
          refine ⟨D, ws, rfl, hXD, ?_, ?_⟩
          · obtain ⟨od, ed, q1, _, q2⟩ := lD
            exact ⟨od, (sb1.2 D (Ne.symm hLD)).symm.trans ed, q1, q2⟩
          · exact (rep X fun b q => .inl q).mono fun b ob e nx _ => ⟨(sb1.2 b fun q => nx (q ▸ R.locX)).symm.trans e, nx⟩
        have RS := RB.store_local hi hk' rD hn' sb1
        exact ⟨⟨_, _, rfl⟩, Nat.succ_pos _, ⟨X, RS, (Tr.stays st1').trans ⟨frz_but R.locX sb1, fun _ x => .inl x⟩⟩, rfl⟩
    · cases hd
  · cases hd
end
end Mine

end
section
open PySem PySem.W PySem.Calls PyProof.Rows
set_option linter.unusedVariables false
set_option maxRecDepth 100000
namespace Mine

section
variable {G : PySem.Ctx → Prop} {C : Ctx} {sc : Scope} {lay : List Str} {n : Nat} {wr : Bool}

/-- x = bytearray(e) -/
noncomputable def dBa (d : St → Option PV) (i : Nat) : St → Option (St × Out) := fun σ => (d σ).bind fun v => match v with
  | .int k => if 0 ≤ k ∧ k ≤ 16777216 then some (σ.set i (.ob (List.replicate k.toNat 0)), .next) else none
  | _ => none
theorem ss_ba {x : Str} {i : Nat} {e : Expr} {p p1 cpos pos : Pos} {d : St → Option PV} (hc : Callee C "bytearray" (.type "bytearray")) (hkb : sc.names.lookup ("bytearray" : Str) = some .globalImplicit) (hi : lay[i]? = some x) (hk : sc.names.lookup x = some .local) (hs : notStar e = true) (h : SE C sc lay n e d) :
    SS OkG C sc lay n wr (.Assign [.Name x p] (.Call (.Name "bytearray" p1) [e] [] cpos) pos) (dBa d i) := by
  intro A env base P X σ σ' s o hA hE R tk hd'
  obtain ⟨v, e1, hd'⟩ := bind_some hd'
  split at hd'
  · rename_i k
    split at hd'
    · rename_i hb
      cases hd'
      have hk' : env.kindOf x = some .local := by unfold Env.kindOf; rw [hE.scope]; exact hk
      rw [exec_Assign_Name env x p _ pos rfl]
      refine wpG_bindA (wpAny_standAt (wpG_bind (callNameG (sc := sc) hc hE (R.pre tk).gl hkb (by decide) hs (noStars (es := []) rfl) ?_)))
      refine (ses_cons h ses_nil hs).then hA hE (R.pre tk) (r := [.int k]) (by simp [e1]) fun vs s1 k1 r1 p1 => ⟨p1.gl, ?_⟩
      obtain ⟨v, q, rfl, ⟨t, rfl⟩, hq⟩ := r1
      rw [show q = [] from hq]
      refine call_bytearray hb.1 hb.2 fun h' e2 st2 => ?_
      refine wpG_bindA (wpAny_standAt (wpG_bindA (wpAny_bindName ?_)))
      have st1 := k1.st
      have R1 := R.stays st1
      have T1 : Tr X s.heap X s1.heap := Tr.kp k1
      have fr := size_none s1.heap
      have R2 := R1.stays st2
      obtain ⟨m, own, nn, kk, f1, f2⟩ := R2.slots
      have ne : s1.heap.objs.size ≠ env.locals := fun q => by have := R1.live _ R1.locX; rw [← q, fr] at this; cases this
      refine wpAny_storeName_local hk' nn (fun h3 hn hs3 => wpG_pure ?_) (noClass hE)
      obtain ⟨Y, RY, TY⟩ := R1.own (sl := .ob (List.replicate k.toNat 0)) hi hk' fr rfl st2 (fun Y hY ya m' hm' => ⟨hk', hm', ya, (hs3.2 _ ne).trans (by simpa using e2)⟩) (by rw [e2]; rfl) (fun m' n' => by rw [ns_inj n' nn]; exact hn) hs3
      obtain ⟨g1, t1, rfl, _⟩ := k1
      exact ⟨⟨_, _, rfl⟩, Nat.succ_pos _, ⟨Y, RY, T1.trans TY⟩, rfl⟩
    · cases hd'
  · cases hd'

/-- x[i] = v for a bytearray -/
noncomputable def dSet (dv di : St → Option PV) (i : Nat) : St → Option (St × Out) := fun σ => match σ[i]? with
  | some (.ob b) => (dv σ).bind fun v => (di σ).bind fun k => match v, k with
    | .int v, .int k => if 0 ≤ k ∧ k < b.length ∧ b.length ≤ 16777216 ∧ 0 ≤ v ∧ v < 256 then some (σ.set i (.ob (b.set k.toNat v.toNat.toUInt8)), .next) else none
    | _, _ => none
  | _ => none
theorem ss_set {x : Str} {i : Nat} {ie ve : Expr} {p p1 pos : Pos} {dv di : St → Option PV} (hi : lay[i]? = some x) (hd : (x == ("__debug__" : Str)) = false) (hv : SE C sc lay n ve dv) (hk : SE C sc lay n ie di) (hsw : ∀ env, swapsWith ve (some (.Subscript (.Name x p1) ie p)) pos.line env = pure false) :
    SS G C sc lay n wr (.Assign [.Subscript (.Name x p1) ie p] ve pos) (dSet dv di i) := by
  intro A env base P X σ σ' s o hA hE R tk hd'
  unfold dSet at hd'
  split at hd'
  · rename_i b hsl
    obtain ⟨v0, e1, hd'⟩ := bind_some hd'
    obtain ⟨k0, e2, hd'⟩ := bind_some hd'
    split at hd'
    · rename_i vI kI _
      split at hd'
      · rename_i hb
        cases hd'
        refine wpG_of (wpAny_Assign_Subscript (hv.then hA hE (R.pre tk) e1 fun vv s1 k1 r1 p1 => ?_) (hsw env))
        obtain ⟨tv, rfl⟩ := r1
        have R1 := R.stays k1.st
        obtain ⟨m, own, nn, kk, f1, f2⟩ := R1.slots
        have ki := kk i x hi
        rw [hsl] at ki
        obtain ⟨q1, q2, q3, q4⟩ := ki
        refine wpAny_Name (wpAny_loadName_local hE.kind q1 nn q2 ?_) hd
        refine hk.then hA hE p1 e2 fun vk s2 k2 r2 p2 => ?_
        obtain ⟨tk', rfl⟩ := r2
        have st2 := k2.st
        refine ba_setItem (st2 _ _ q4) hb.1 (by simpa using hb.2.1) (by simpa using hb.2.2.1) hb.2.2.2.1 hb.2.2.2.2 fun h' e3 hs3 => ?_
        have kp := k1.trans' k2
        have T1 : Tr X s.heap X s2.heap := Tr.kp kp
        have R2 := R1.stays st2
        have RM := R2.mutate (a := own i) (sl' := .ob (b.set kI.toNat vI.toNat.toUInt8)) hi hsl rfl rfl (fun m' own' n' kx => by
          obtain ⟨w1, w2, w3, w4⟩ := kx
          have := ns_inj n' (nn.keeps st2)
          subst this
          rw [q2] at w2
          have w2' : own i = own' i := by injection w2 with w2; injection w2
          rw [← w2'] at w3 ⊢
          exact ⟨rfl, w1, q2, w3, by simpa using e3⟩) (by rw [e3]; rfl) hs3
        obtain ⟨g1, t1, rfl, _⟩ := kp
        exact ⟨⟨_, _, rfl⟩, p2.tok, ⟨X, RM, T1.trans ⟨frz_but q3 hs3, fun _ x => .inl x⟩⟩, rfl⟩
      · cases hd'
    · cases hd'
  · cases hd'

theorem index_ok {A : Around} {s : Shared} {l : Addr} {vs : List Value} {ns : List Int} {k : Int} {t : Tok} {Q : Value → Shared → Prop} (hl : s.heap.IsList l vs.toArray) (hi : IntsAre vs ns)
    (hb : ns.length ≤ 16777216) (hk : k ∈ ns) (h : Q (.int (ns.idxOf k : Nat) s.toks) { s with toks := s.toks + 1 }) :
    wpAny C.M A (call (.builtin "list.index") [.ref l, .int k t]) Q NoE s := by
  obtain ⟨⟨cls, dd, data, sl⟩, ho, hc, n, hd⟩ := id hl
  simp only at hc hd
  subst hc hd
  have hlen := hi.length
  have hj : ns.idxOf k < ns.length := List.idxOf_lt_length_iff.mpr hk
  refine call_meets PySem.F.slot_list_index ⟨_, ho, rfl⟩ PySem.F.entry_list_index (PySem.F.args_list_index_2 _ _)
    (SeqAt.list_indexAt l vs.toArray n dd sl (.int k t) (isInt k) (ns.idxOf k) (by simpa [hlen] using hj) (by omega) ?_ ?_) ⟨ho, fun y hy => (eq_isInt k t hi y (by simpa using hy)).at _ _, h⟩
  · show isInt k vs[ns.idxOf k] = true
    rw [isInt_at k hi _ (by omega) hj]
    simp [List.getElem_idxOf hj]
  · intro j hjs hlt
    show isInt k vs[j] = false
    rw [isInt_at k hi j (by simpa using hjs) (by omega)]
    exact ne_of_lt_idxOf hlt _

/-- x = y.index(e), y owned -/
noncomputable def dIndex (d : St → Option PV) (i j : Nat) : St → Option (St × Out) := fun σ => match σ[j]? with
  | some (.ol xs) => (pvInts xs).bind fun ns => (d (viewB σ)).bind fun v => match v with
    | .int k => if k ∈ ns ∧ ns.length ≤ 16777216 then some (σ.set i (.fz (.int (ns.idxOf k : Nat))), .next) else none
    | _ => none
  | _ => none
theorem ss_index {x y : Str} {i j : Nat} {e : Expr} {p p1 apos cpos pos : Pos} {d : St → Option PV} (hT : TN C sc lay wr x i) (hj : lay[j]? = some y) (hd : (y == ("__debug__" : Str)) = false) (hline : (apos.endLine == cpos.line) = true) (hs : notStar e = true) (h : SE C sc lay n e d) :
    SS G C sc lay n wr (.Assign [.Name x p] (.Call (.Attribute (.Name y p1) "index" apos) [e] [] cpos) pos) (dIndex d i j) := by
  intro A env base P X σ σ' s o hA hE R tk hd'
  unfold dIndex at hd'
  split at hd'
  · rename_i xs hsl
    obtain ⟨ns, e0, hd'⟩ := bind_some hd'
    obtain ⟨v, e1, hd'⟩ := bind_some hd'
    split at hd'
    · rename_i k
      split at hd'
      · rename_i hb
        cases hd'
        obtain ⟨m, a, vs, nn, k1, hm, xa, l, r, ne⟩ := R.owned hj hsl
        obtain ⟨Y, _, _, hP⟩ := R.preB tk
        refine wpG_of (wpAny_Assign_Name (method_road hE nn k1 hm l hd PySem.F.slot_list_index PySem.F.type_list_index hline hs (h.then hA hE hP e1 fun w s1 kp1 r1 p1 => ?_)) rfl)
        obtain ⟨t, rfl⟩ := r1
        have st1 := kp1.st
        have l1 : s1.heap.IsList a vs.toArray := let ⟨o, e, q⟩ := l.isList; ⟨o, st1 _ _ e, q⟩
        refine index_ok l1 (intsAre_of r e0) hb.2 hb.1 ?_
        exact SP.of_tn hT hE R (kp1.trans' (Kp.toks ..)) (Nat.succ_pos _) ⟨_, rfl⟩
      · cases hd'
    · cases hd'
  · cases hd'

/-- isinstance(e, bytes) -/
noncomputable def dIsB (d : St → Option PV) : St → Option PV := fun σ => (d σ).bind fun v => match v with | .bytes b => some (.bool true) | _ => none
theorem se_isb {e : Expr} {p p1 pos : Pos} {d : St → Option PV} (hc : Callee C "isinstance" (.builtin "isinstance")) (hb : Callee C "bytes" (.type "bytes")) (hk : sc.names.lookup ("isinstance" : Str) = some .globalImplicit) (hkb : sc.names.lookup ("bytes" : Str) = some .globalImplicit) (hs : notStar e = true) (h : SE C sc lay n e d) :
    SE C sc lay n (.Call (.Name "isinstance" p) [e, .Name "bytes" p1] [] pos) (dIsB d) := by
  intro A env X σ s r hA hE hP hd'
  obtain ⟨v, e1, hd'⟩ := bind_some hd'
  split at hd'
  · cases hd'
    refine callName hc hE hP.gl hk (by decide) hs (noStars (es := [.Name "bytes" p1]) rfl) ?_
    refine wpAny_items_cons (h.then hA hE hP e1 fun v s1 k1 r1 p1 => ?_) (starEach_cons hs)
    refine wpAny_items_cons (wpAny_Name (hb.load hE hkb p1.gl (wpAny_items_nil ?_)) (by decide)) (starEach_cons rfl)
    obtain ⟨t, rfl⟩ := r1
    refine ⟨p1.gl, ?_⟩
    exact call_isinstance (isinstance_true (Tx := "bytes") F.isi_meta_bytes (by rw [isSubtype_type]; kernel_rfl)) ⟨rfl, k1, rfl⟩
  · cases hd'
end
end Mine

end
section
open PySem PySem.W PySem.Calls PyProof.Rows
set_option linter.unusedVariables false
set_option maxRecDepth 100000
namespace Mine

theorem bindL_not {K : Str → Option NameKind} {x : Str} : ∀ {ns : List Str} {vs : List Value} {m : Str → Option Value}, x ∉ ns → bindL K (ns.zip vs) m x = m x
  | [], vs, m, _ => by cases vs <;> rfl
  | n :: ns, [], m, _ => rfl
  | n :: ns, v :: vs, m, h => by
    show bindL K (ns.zip vs) (if K n = some .local then fun y => if y = n then some v else m y else m) x = m x
    rw [bindL_not fun q => h (List.mem_cons_of_mem _ q)]
    split
    · dsimp only; rw [if_neg (show ¬ x = n from fun q => h (q ▸ List.mem_cons_self ..))]
    · rfl
theorem bindL_at {K : Str → Option NameKind} {x : Str} (hk : K x = some .local) : ∀ {ns : List Str} {vs : List Value} {m : Str → Option Value} {i : Nat} {v : Value}, ns.Nodup → ns[i]? = some x → vs[i]? = some v → bindL K (ns.zip vs) m x = some v
  | [], vs, m, i, v, _, h, _ => by simp at h
  | n :: ns, [], m, i, v, _, _, h => by simp at h
  | n :: ns, u :: vs, m, 0, v, nd, h1, h2 => by
    simp at h1 h2; subst h1 h2
    show bindL K (ns.zip vs) (if K n = some .local then fun y => if y = n then some u else m y else m) n = some u
    rw [bindL_not (List.nodup_cons.mp nd).1, if_pos hk, if_pos rfl]
  | n :: ns, u :: vs, m, i + 1, v, nd, h1, h2 => by
    show bindL K (ns.zip vs) (if K n = some .local then fun y => if y = n then some u else m y else m) x = some v
    exact bindL_at hk (List.nodup_cons.mp nd).2 (by simpa using h1) (by simpa using h2)
theorem bindC_not {K : Str → Option NameKind} {x : Str} : ∀ {ns : List Str} {vs : List Value} {m : Str → Option Value}, x ∉ ns → bindC K (ns.zip vs) m x = m x
  | [], vs, m, _ => by cases vs <;> rfl
  | n :: ns, [], m, _ => rfl
  | n :: ns, v :: vs, m, h => by
    show bindC K (ns.zip vs) (if K n = some .local then m else fun y => if y = n then some v else m y) x = m x
    rw [bindC_not fun q => h (List.mem_cons_of_mem _ q)]
    split
    · rfl
    · dsimp only; rw [if_neg (show ¬ x = n from fun q => h (q ▸ List.mem_cons_self ..))]
theorem bindC_at {K : Str → Option NameKind} {x : Str} (hk : K x = some .cell) : ∀ {ns : List Str} {vs : List Value} {m : Str → Option Value} {i : Nat} {v : Value}, ns.Nodup → ns[i]? = some x → vs[i]? = some v → bindC K (ns.zip vs) m x = some v
  | [], vs, m, i, v, _, h, _ => by simp at h
  | n :: ns, [], m, i, v, _, _, h => by simp at h
  | n :: ns, u :: vs, m, 0, v, nd, h1, h2 => by
    simp at h1 h2; subst h1 h2
    show bindC K (ns.zip vs) (if K n = some .local then m else fun y => if y = n then some u else m y) n = some u
    rw [bindC_not (List.nodup_cons.mp nd).1, if_neg (by rw [hk]; intro q; cases q), if_pos rfl]
  | n :: ns, u :: vs, m, i + 1, v, nd, h1, h2 => by
    show bindC K (ns.zip vs) (if K n = some .local then m else fun y => if y = n then some u else m y) x = some v
    exact bindC_at hk (List.nodup_cons.mp nd).2 (by simpa using h1) (by simpa using h2)

theorem cellsFrom_some {x : Str} : ∀ (names : List (Str × NameKind)) (n : Nat) (acc : List (Str × Addr)), ((x, NameKind.cell) ∈ names ∨ (acc.lookup x).isSome = true) → ((cellsFrom n names acc).lookup x).isSome = true
  | [], n, acc, h => by
    rcases h with h | h
    · cases h
    · exact h
  | (y, k) :: r, n, acc, h => by
    show (List.lookup x (if (k == NameKind.cell) = true then cellsFrom (n + 1) r ((y, n) :: acc) else cellsFrom n r acc)).isSome = true
    split
    · refine cellsFrom_some r _ _ ?_
      by_cases q : x = y
      · right; subst q; simp
      · rcases h with h | h
        · rcases List.mem_cons.mp h with h | h
          · cases h; exact (q rfl).elim
          · exact .inl h
        · right; rw [List.lookup_cons, show (x == y) = false from by simpa using q]; exact h
    · rename_i hk
      refine cellsFrom_some r _ _ ?_
      rcases h with h | h
      · rcases List.mem_cons.mp h with h | h
        · cases h; exact (hk rfl).elim
        · exact .inl h
      · exact .inr h
theorem mem_of_lookupA {x : Str} {c : Addr} : ∀ {cs : List (Str × Addr)}, cs.lookup x = some c → (x, c) ∈ cs
  | [], h => by cases h
  | (y, j) :: r, h => by
    rw [List.lookup_cons] at h
    split at h
    · rename_i q; cases h; have : x = y := by simpa using q
      subst this; exact List.mem_cons_self ..
    · exact List.mem_cons_of_mem _ (mem_of_lookupA h)
theorem pair_inj {x y : Str} {c : Addr} : ∀ {cs : List (Str × Addr)}, cs.Pairwise (fun x y => x.2 ≠ y.2) → (x, c) ∈ cs → (y, c) ∈ cs → x = y
  | [], _, h, _ => by cases h
  | p :: r, hp, hx, hy => by
    obtain ⟨h1, h2⟩ := List.pairwise_cons.mp hp
    rcases List.mem_cons.mp hx with ex | ex <;> rcases List.mem_cons.mp hy with ey | ey
    · rw [← ex] at ey; injection ey with e1; exact e1.symm
    · exact absurd (by rw [← ex]) (h1 _ ey)
    · exact absurd (by rw [← ey]) (h1 _ ex)
    · exact pair_inj h2 ex ey

noncomputable def initSt (ps : List PV) (r : Nat) : St := ps.map Slot.fz ++ List.replicate r .un
noncomputable def fnSpec (k r : Nat) (d : St → Option (St × Out)) : List PV → Option PV := fun ps => if ps.length = k then match d (initSt ps r) with
    | some (_, .ret v) => some v
    | some (_, .next) => some .none
    | none => none
  else none

theorem len0 {P : List Value → Prop} (h : P []) : ∀ vs, vs.length = 0 → P vs
  | [], _ => h
theorem len1 {P : List Value → Prop} (h : ∀ a0 : Value, P [a0]) : ∀ vs, vs.length = 1 → P vs
  | a0 :: vs, e => len0 (P := fun l => P (a0 :: l)) (h a0) vs (Nat.succ.inj e)
theorem len2 {P : List Value → Prop} (h : ∀ a0 a1 : Value, P [a0, a1]) : ∀ vs, vs.length = 2 → P vs
  | a0 :: vs, e => len1 (P := fun l => P (a0 :: l)) (fun a1 => h a0 a1) vs (Nat.succ.inj e)
theorem len3 {P : List Value → Prop} (h : ∀ a0 a1 a2 : Value, P [a0, a1, a2]) : ∀ vs, vs.length = 3 → P vs
  | a0 :: vs, e => len2 (P := fun l => P (a0 :: l)) (fun a1 a2 => h a0 a1 a2) vs (Nat.succ.inj e)
theorem len4 {P : List Value → Prop} (h : ∀ a0 a1 a2 a3 : Value, P [a0, a1, a2, a3]) : ∀ vs, vs.length = 4 → P vs
  | a0 :: vs, e => len3 (P := fun l => P (a0 :: l)) (fun a1 a2 a3 => h a0 a1 a2 a3) vs (Nat.succ.inj e)
theorem len5 {P : List Value → Prop} (h : ∀ a0 a1 a2 a3 a4 : Value, P [a0, a1, a2, a3, a4]) : ∀ vs, vs.length = 5 → P vs
  | a0 :: vs, e => len4 (P := fun l => P (a0 :: l)) (fun a1 a2 a3 a4 => h a0 a1 a2 a3 a4) vs (Nat.succ.inj e)
structure FnRec (d : DefRec) (ns rest : List Str) : Prop where
  nodup : (ns ++ rest).Nodup
  kinds : ∀ x ∈ ns, d.scope.names.lookup x = some .local ∨ d.scope.names.lookup x = some .cell
  bind : ∀ pm cd doc (vs : List Value), vs.length = ns.length → bindArgs (docDef d.name d.params d.body d.scope pm cd doc) ⟨vs, []⟩ = pure (ns.zip vs)
  co : d.scope.isCoroutine = false
  gen : d.scope.isGenerator = false
  kind : d.scope.kind = .function

theorem wpG_toks {α : Type} {G : PySem.Ctx → Prop} {M : Model} {A : Around} {s : Shared} {t : Sem α} {Q : α → Shared → Prop} {E : Value → Shared → Prop} (h : wpG G M A t Q E s) :
    wpG G M A t (fun a s' => s.toks ≤ s'.toks ∧ Q a s') (fun e s' => s.toks ≤ s'.toks ∧ E e s') s := fun Γ p hΓ g => Sem.wp_toks M Γ s.toks t _ _ p s (Nat.le_refl _) (h Γ p hΓ g)

theorem SR.entry {C : Ctx} {d : DefRec} {ns rest : List Str} {X : Addr → Prop} {s : Shared} {vs : List Value} {ps : List PV} {a : Addr} {cd : Value} {h₁ : Heap} (hR : FnRec d ns rest) (gl : C.Gl s.heap) (lv : Live X s.heap) (hr : RepL X s.heap ps vs) (hl : ps.length = ns.length)
    (F : Fr s.heap s.heap.objs.size h₁ (bindL (envOfC d.name d.scope s.heap.objs.size a cd).kindOf (ns.zip vs) fun _ => none))
    (K : Cl s.heap.objs.size (cellsFrom (s.heap.objs.size + 1) d.scope.names []) h₁ (bindC (envOfC d.name d.scope s.heap.objs.size a cd).kindOf (ns.zip vs) fun _ => none)) :
    ∃ X', SR C (ns ++ rest) (fun b => s.heap.get? b) X true (envOfC d.name d.scope s.heap.objs.size a cd) X' (initSt ps rest.length) h₁ := by
  let env := envOfC d.name d.scope s.heap.objs.size a cd
  have none_of : ∀ b, s.heap.objs.size ≤ b → s.heap.get? b = none := fun b hb => by
    cases e : s.heap.get? b with
    | none => rfl
    | some o => exact absurd (Heap.lt_size e) (Nat.not_lt.mpr hb)
  have cN : ∀ x c, env.cells.lookup x = some c → s.heap.get? c = none := fun x c e => none_of c (Nat.le_of_lt (K.above x c (mem_of_lookupA e)))
  let X' : Addr → Prop := fun b => X b ∨ b = env.locals ∨ ∃ x, env.cells.lookup x = some b
  have up : ∀ {p : PV} {v : Value}, Rep X s.heap p v → Rep X' h₁ p v := fun {p v} r => r.mono fun b o e nx _ => ⟨F.keep b o e, by
    rintro (q | q | ⟨x, q⟩)
    · exact nx q
    · rw [q, show s.heap.get? env.locals = none from none_of _ (Nat.le_refl _)] at e; cases e
    · rw [cN x b q] at e; cases e⟩
  have nsNd : ns.Nodup := (List.nodup_append.mp hR.nodup).1
  refine ⟨X', {
    gl := fun h' k => gl.stays fun b o e => k b o e
    keep := fun b o e => F.keep b o e
    liveP := lv
    sub := fun b p => .inl p
    new := by
      rintro b (q | q | ⟨x, q⟩)
      · exact .inl q
      · exact .inr (by rw [q]; exact none_of _ (Nat.le_refl _))
      · exact .inr (cN x b q)
    live := by
      rintro b (q | q | ⟨x, q⟩)
      · obtain ⟨o, e⟩ := Option.isSome_iff_exists.mp (lv b q); rw [F.keep b o e]; rfl
      · obtain ⟨o, _, _, e, _⟩ := F.ns; rw [q]; show (h₁.get? s.heap.objs.size).isSome = true; rw [e]; rfl
      · obtain ⟨o, e, _⟩ := K.cell x b q; rw [e]; rfl
    locX := .inr (.inl rfl)
    locN := none_of _ (Nat.le_refl _)
    cells := fun _ x c e => ⟨.inr (.inr ⟨x, e⟩), cN x c e, _, K.cell x c e⟩
    apart := fun _ x y c e1 e2 => pair_inj K.apart (mem_of_lookupA e1) (mem_of_lookupA e2)
    hasCell := fun _ x e => Option.isSome_iff_exists.mp (cellsFrom_some _ _ _ (.inl (mem_of_lookup e)))
    nodup := hR.nodup
    len := by unfold initSt; simp [hl]
    slots := by
      refine ⟨_, fun _ => 0, F.ns, fun i x e => ?_, fun i o => ?_, fun i j o => ?_⟩
      · unfold initSt
        by_cases hi : i < ns.length
        · rw [List.getElem?_append_left (by simpa [hl] using hi), List.getElem?_map]
          rw [List.getElem?_append_left hi] at e
          have hp : i < ps.length := by omega
          rw [List.getElem?_eq_getElem hp]
          obtain ⟨v, ev, rv⟩ := hr.get (List.getElem?_eq_getElem hp)
          rcases hR.kinds x (List.mem_of_getElem? e) with k | k
          · exact .inl ⟨k, v, bindL_at k nsNd e ev, up rv⟩
          · obtain ⟨c, ec⟩ := Option.isSome_iff_exists.mp (cellsFrom_some (x := x) d.scope.names (s.heap.objs.size + 1) [] (.inl (mem_of_lookup k)))
            refine .inr ⟨.inl k, c, v, ec, ?_, up rv⟩
            have := K.cell x c ec
            rw [bindC_at k nsNd e ev] at this
            exact this
        · rw [List.getElem?_append_right (by simpa [hl] using hi), List.getElem?_replicate]
          split <;> trivial
      · obtain ⟨sl, e, o⟩ := o
        have hm := List.mem_of_getElem? e
        unfold initSt at hm
        rcases List.mem_append.mp hm with hm | hm
        · obtain ⟨q, _, rfl⟩ := List.mem_map.mp hm; cases o
        · rw [(List.mem_replicate.mp hm).2] at o; cases o
      · obtain ⟨sl, e, o⟩ := o
        have hm := List.mem_of_getElem? e
        unfold initSt at hm
        rcases List.mem_append.mp hm with hm | hm
        · obtain ⟨q, _, rfl⟩ := List.mem_map.mp hm; cases o
        · rw [(List.mem_replicate.mp hm).2] at o; cases o }⟩

theorem Lv.deeper {n : Nat} {A : Around} {env : Env} (h : Lv (n + 1) A) : Lv n (A.deeper env) where
  hh := h.hh
  depth := by have := h.depth; rw [depth_deeper]; omega
  units := by have := h.units; rw [units_deeper]; omega

theorem fn_okG {G : PySem.Ctx → Prop} (hG : GOk G) {C : Ctx} {n : Nat} {d : DefRec} {ns rest : List Str} {dd : St → Option (St × Out)} {a : Addr} (hd : d ∈ recsOf C.p) (hm : C.mg d.name = some (.ref a)) (hR : FnRec d ns rest)
    (hb : SSs G C d.scope (ns ++ rest) n true d.body dd) : CallOkG G C (n + 1) (.ref a) (fnSpec ns.length rest.length dd) := by
  intro A X s vs ps r hA gl lv tk hr hsp
  unfold fnSpec at hsp
  split at hsp
  · rename_i hl
    obtain ⟨a', o, pm, cd, doc, e1, e2, e3, e4⟩ := gl.top.fn d hd
    rw [hm] at e1; cases e1
    have hvl : vs.length = ns.length := hr.length.trans hl
    refine wpG_mono (wpG_toks (wpG_call hG ?_)) (fun v s' x => x) fun _ _ x => x.2
    refine callG_cells hG (binds := ns.zip vs) (Nat.lt_of_le_of_lt (Nat.le_add_right _ _) hA.depth) e2 e3 gl.top.nolimit e4 (hR.bind pm cd doc vs hvl) (fun x hx => ?_) (fun h₁ tk' F K tk1 => ?_) hR.co hR.gen hR.kind
    · have hx1 : x.1 ∈ ns := (List.of_mem_zip hx).1
      rcases hR.kinds x.1 hx1 with k | k
      · exact .inl k
      · exact .inr ⟨k, cellsFrom_some _ _ _ (.inl (mem_of_lookup k))⟩
    · obtain ⟨X', R⟩ := SR.entry hR gl lv hr hl F K
      have hE : EnvOk d.scope (envOfC d.name d.scope s.heap.objs.size a cd) := ⟨rfl, hR.kind, rfl, rfl⟩
      split at hsp
      · rename_i σ' w hdd
        cases hsp
        refine wpG_mono (hb _ _ _ X X' _ σ' { s with heap := h₁, toks := tk' } (.ret r) hA.deeper hE R (Nat.lt_of_lt_of_le tk tk1) hdd) (fun f s' q => ?_) fun _ _ x => x
        obtain ⟨⟨h', tk2, rfl⟩, tp, ⟨X2, R2, T2⟩, w', rfl, rw'⟩ := q
        exact ⟨⟨h', tk2, rfl, fun b o e => R2.keep b o e⟩, rw'⟩
      · rename_i σ' hdd
        cases hsp
        refine wpG_mono (hb _ _ _ X X' _ σ' { s with heap := h₁, toks := tk' } .next hA.deeper hE R (Nat.lt_of_lt_of_le tk tk1) hdd) (fun f s' q => ?_) fun _ _ x => x
        obtain ⟨⟨h', tk2, rfl⟩, tp, ⟨X2, R2, T2⟩, rfl⟩ := q
        exact ⟨⟨h', tk2, rfl, fun b o e => R2.keep b o e⟩, rfl⟩
      · cases hsp
  · cases hsp
theorem fn_ok {C : Ctx} {n : Nat} {d : DefRec} {ns rest : List Str} {dd : St → Option (St × Out)} {a : Addr} (hd : d ∈ recsOf C.p) (hm : C.mg d.name = some (.ref a)) (hR : FnRec d ns rest)
    (hb : SSs (fun _ => True) C d.scope (ns ++ rest) n true d.body dd) : CallOk C (n + 1) (.ref a) (fnSpec ns.length rest.length dd) := fun A X s vs ps r a1 b1 c1 d1 e1 f1 =>
  wpG_true (wpG_mono (fn_okG gok_true hd hm hR hb A X s vs ps r a1 b1 c1 d1 e1 f1) (fun _ _ x => x.2) fun _ _ x => x)
end Mine

end
section
open PySem PySem.W PySem.Calls PyProof.Rows
set_option linter.unusedVariables false
set_option maxRecDepth 100000
namespace Mine

section
variable {G : PySem.Ctx → Prop} {C : Ctx} {sc : Scope} {lay : List Str} {n : Nat} {wr : Bool}
theorem arm_BinOp {l r : Expr} {op : Operator} {pos : Pos} {A : Around} {env : Env} {s : Shared} {Q : Value → Shared → Prop}
    (h : wpG G C.M A (eval l env) (fun a s₁ => wpAny C.M A (eval r env) (fun b s₂ => wpAny C.M A (binaryOp op a b) Q NoE s₂) NoE s₁) NoE s) : wpG G C.M A (eval (.BinOp l op r pos) env) Q NoE s := by
  rw [arm_eval_BinOp]
  refine wpG_bind (wpG_mono h (fun a s₁ h₁ => ?_) fun _ _ e => e)
  exact wpG_of (wpAny_bind (wpAny_holding (wpAny_mono h₁ (fun b s₂ h₂ => wpAny_bind (wpAny_standAt (wpAny_operateT h₂))) fun _ _ e => e)))
theorem seg_bin {l r : Expr} {op : Operator} {pos : Pos} {d1 d2 : St → Option PV} (h1 : SEG G C sc lay n l d1) (h2 : SE C sc lay n r d2) : SEG G C sc lay n (.BinOp l op r pos) (dBin op d1 d2) := by
  intro A env X σ s r hA hE hP hd
  obtain ⟨a, e1, hd⟩ := bind_some hd
  obtain ⟨b, e2, hd⟩ := bind_some hd
  refine wpG_mono (wpG_toks (arm_BinOp (wpG_mono (h1 A env X σ s a hA hE hP e1) (fun va s1 q => ?_) fun _ _ e => e))) (fun _ _ x => x) fun _ _ e => e.2
  obtain ⟨tk1, k1, r1⟩ := q
  have p1 := hP.kp k1 tk1
  refine h2.then hA hE p1 e2 fun vb s2 k2 r2 p2 => ?_
  exact wpAny_mono (bin_ok hA p2.gl p2.live p2.tok (r1.stays k2.st) r2 hd) (fun v s' x => ⟨(k1.trans' k2).trans' x.1, x.2⟩) fun _ _ x => x
end

noncomputable def frOkB (sc csc : Scope) (lay lay' : List Str) (k : Nat) (fs : List Nat) : Bool :=
  decide (lay'.length = k + fs.length) &&
  ((List.range fs.length).all fun i => match fs[i]?, lay'[k + i]? with
    | some j, some x => decide (lay[j]? = some x) && (decide (sc.names.lookup x = some .cell) || decide (sc.names.lookup x = some .free)) && decide (csc.names.lookup x = some .free)
    | _, _ => false) &&
  (csc.names.all fun x => decide (x.2 ≠ .free) || fs.any fun j => decide (lay[j]? = some x.1)) &&
  decide (csc.kind = .function) && (csc.names.all fun x => decide (x.2 ≠ .cell)) && (csc.names.all fun x => decide (x.2 ≠ .local) || decide (csc.names.lookup x.1 = some .local)) &&
  decide lay'.Nodup && (fs.all fun j => match lay[j]? with | some x => decide (sc.names.lookup x = some .cell) || decide (sc.names.lookup x = some .free) | none => true)
theorem frOk_of {sc csc : Scope} {lay lay' : List Str} {k : Nat} {fs : List Nat} (h : frOkB sc csc lay lay' k fs = true) : FrOk sc csc lay lay' k fs := by
  unfold frOkB at h
  simp only [Bool.and_eq_true] at h
  obtain ⟨⟨⟨⟨⟨⟨⟨h1, h2⟩, h3⟩, h4⟩, h5⟩, h6⟩, h7⟩, h8⟩ := h
  have h1 := of_decide_eq_true h1
  refine ⟨by omega, ?_, ?_, of_decide_eq_true h4, ?_, ?_, of_decide_eq_true h7, ?_⟩
  · intro i x j e1 e2
    have hi : i < fs.length := (List.getElem?_eq_some_iff.mp e2).1
    have := List.all_eq_true.mp h2 i (List.mem_range.mpr hi)
    rw [e2, e1] at this
    simp only [Bool.and_eq_true, Bool.or_eq_true, decide_eq_true_eq] at this
    exact ⟨this.1.1, this.1.2, this.2⟩
  · intro x hx hk
    have := List.all_eq_true.mp h3 x hx
    simp only [Bool.or_eq_true, decide_eq_true_eq, List.any_eq_true] at this
    rcases this with q | ⟨j, hj, q⟩
    · exact (q hk).elim
    · exact ⟨j, hj, q⟩
  · intro x hx; exact of_decide_eq_true (List.all_eq_true.mp h5 x hx)
  · intro x hx hk
    have := List.all_eq_true.mp h6 x hx
    simp only [Bool.or_eq_true, decide_eq_true_eq] at this
    exact this.resolve_left fun q => q hk
  · intro j x hj hx
    have := List.all_eq_true.mp h8 j hj
    rw [hx] at this
    simpa using this
end Mine

end
section
open PySem PySem.W PySem.Calls PyProof.Rows
set_option linter.unusedVariables false
set_option maxRecDepth 100000
namespace Mine

noncomputable def defRecAt (p : Program) (i : Nat) : DefRec := match p.main.body[i]? with
  | some (.FunctionDef name args body _ _ _ scope _ _ pos) => ⟨name, args, body, scope, pos⟩
  | _ => ⟨"", { posonlyargs := [], args := [], vararg := none, kwonlyargs := [], kw_defaults := [], kwarg := none, defaults := [] }, [], { kind := .function, names := [], isGenerator := false, isCoroutine := false }, default⟩

noncomputable def dConst (p : PV) : St → Option PV := fun _ => some p
noncomputable def dNil : St → Option (List PV) := fun _ => some []
noncomputable def dCons (d : St → Option PV) (ds : St → Option (List PV)) : St → Option (List PV) := fun σ => (d σ).bind fun a => (ds σ).bind fun b => some (a :: b)
noncomputable def dNot (d : St → Option Bool) : St → Option Bool := fun σ => (d σ).map not
noncomputable def dVal (d : St → Option PV) : St → Option Bool := fun σ => (d σ).bind asBool
noncomputable def dNeg (d : St → Option PV) : St → Option PV := fun σ => (d σ).bind pvNeg
noncomputable def dCmpV (op : CmpOp) (d1 d2 : St → Option PV) : St → Option PV := fun σ => (dCmp op d1 d2 σ).map .bool
noncomputable def oNone : St → Option (Option Int) := fun _ => some none
noncomputable def oSome (d : St → Option PV) : St → Option (Option Int) := fun σ => (d σ).bind fun p => (asInt p).map some

noncomputable def dEnd : St → Option (St × Out) := fun σ => some (σ, .next)

section
variable {G : PySem.Ctx → Prop} {C : Ctx} {sc : Scope} {lay : List Str} {n : Nat} {wr : Bool}
theorem s_nil : SSs G C sc lay n wr [] dEnd := sss_nil
theorem e_int {i : Int} {k : Nat} {pos : Pos} : SE C sc lay n (.Constant (.int i) k pos) (dConst (.int i)) := se_int
theorem e_float {x : UInt64} {k : Nat} {pos : Pos} : SE C sc lay n (.Constant (.float x) k pos) (dConst (.float x)) := se_float
theorem e_bool {b : Bool} {k : Nat} {pos : Pos} : SE C sc lay n (.Constant (.bool b) k pos) (dConst (.bool b)) := se_bool
theorem e_glob {x : Str} {pos : Pos} {b : UInt64} (hm : ∃ t : Tok, t ≠ 0 ∧ C.mg x = some (.float b t)) (hk : sc.names.lookup x = some .globalImplicit) (hd : (x == ("__debug__" : Str)) = false) : SE C sc lay n (.Name x pos) (dConst (.float b)) :=
  let ⟨_, ht, hm⟩ := hm; se_gfloat hm ht hk hd
theorem e_nil : SEs C sc lay n [] dNil := ses_nil
theorem e_cons {e : Expr} {es : List Expr} {d : St → Option PV} {ds : St → Option (List PV)} (h1 : SE C sc lay n e d) (h2 : SEs C sc lay n es ds) (hs : notStar e = true) : SEs C sc lay n (e :: es) (dCons d ds) := ses_cons h1 h2 hs
theorem t_not {e : Expr} {pos : Pos} {d : St → Option Bool} (h : STst C sc lay n e d) : STst C sc lay n (.UnaryOp .Not e pos) (dNot d) := st_not h
theorem t_val {e : Expr} {d : St → Option PV} (h : SE C sc lay n e d) (hp : isPlainTest e = true) : STst C sc lay n e (dVal d) := st_val h hp
theorem e_neg {e : Expr} {pos : Pos} {d : St → Option PV} (h : SE C sc lay n e d) : SE C sc lay n (.UnaryOp .USub e pos) (dNeg d) := se_neg h
theorem e_cmp {l r : Expr} {op : CmpOp} {pos : Pos} {d1 d2 : St → Option PV} (h1 : SE C sc lay n l d1) (h2 : SE C sc lay n r d2) (hm : behindInMarks op r = false) : SE C sc lay n (.Compare l [op] [r] pos) (dCmpV op d1 d2) := se_cmp h1 h2 hm
theorem o_none : OptE C sc lay n none oNone := opt_none
theorem o_some {e : Expr} {d : St → Option PV} (h : SE C sc lay n e d) : OptE C sc lay n (some e) (oSome d) := opt_some h
theorem swaps_ok {elt : Expr} {gens : List Comprehension} {csc : Scope} {pos py : Pos} {x : Str} {l : Nat} (h1 : sc.names.lookup x = some .local)
    (h2 : (py.line == pos.line && !(csc.names.any fun (n, k) => n == x && (k == .local || k == .cell))) = true) (env : Env) (hE : EnvOk sc env) : swapsWith (.ListComp elt gens csc pos) (some (.Name x py)) l env = pure true := by
  have hk : env.kindOf x = some .local := by unfold Env.kindOf; rw [hE.scope]; exact h1
  have hb : (env.blockKind == .function) = true := by unfold Env.blockKind; rw [hE.kind]; rfl
  show (pure (env.blockKind == .function && env.kindOf x == some .local && py.line == (Expr.ListComp elt gens csc pos).pos.line && !(csc.names.any fun (n, k) => n == x && (k == .local || k == .cell))) : Sem Bool) = pure true
  rw [hb, hk]
  obtain ⟨a, b⟩ := Bool.and_eq_true_iff.mp h2
  rw [b, show (py.line == (Expr.ListComp elt gens csc pos).pos.line) = true from a]
  rfl
end
theorem fn_fact {C : Ctx} {h : Heap} (g : C.Gl h) {d : DefRec} (hd : d ∈ recsOf C.p) : ∃ a, C.mg d.name = some (.ref a) ∧ Callee C d.name (.ref a) := by
  obtain ⟨a, o, pm, cd, doc, e1, e2, e3, e4⟩ := g.top.fn d hd
  refine ⟨a, e1, Callee.fn e1 fun h' g' => ?_⟩
  obtain ⟨a', o', pm', cd', doc', f1, f2, f3, f4⟩ := g'.top.fn d hd
  rw [e1] at f1; cases f1
  exact ⟨o', _, f2, f3⟩
end Mine

end
section
open PySem PySem.W PySem.Calls PyProof.Rows
set_option linter.unusedVariables false
set_option maxRecDepth 100000
namespace Mine

/-! the tree of questions that sorted() asks: every end is in order -/
noncomputable def evid (m a b : Nat) : Bool := Nat.testBit m (8 * a + b)
noncomputable def grow (m n : Nat) (S : List Nat) : List Nat := (List.range n).filter fun x => S.contains x || S.any fun y => evid m y x
noncomputable def growN (m n : Nat) : Nat → List Nat → List Nat
  | 0, S => S
  | k + 1, S => growN m n k (grow m n S)
noncomputable def leq (n m a b : Nat) : Bool := evid m a b || (Nat.blt b n && (growN m n n [a]).contains b)
noncomputable def adj (n m : Nat) : List Nat → Bool
  | a :: b :: r => leq n m a b && adj n m (b :: r)
  | _ => true
noncomputable def chk (n : Nat) : KasT (Array Nat) → Nat → Bool
  | .ret p, m => p.toList.isPerm (List.range n) && adj n m p.toList
  | .ask i j k, m => Nat.blt i n && Nat.blt j n && !Nat.beq i j && (match evid m i j with
    | true => chk n (k true) m
    | false => match evid m j i with
      | true => chk n (k false) m
      | false => chk n (k true) (m ||| 2 ^ (8 * i + j)) && chk n (k false) (m ||| 2 ^ (8 * j + i)))
theorem chk3 : chk 3 (kas_sort 3) 0 = true := by decide +kernel
theorem chk4 : chk 4 (kas_sort 4) 0 = true := by decide +kernel
theorem chk5 : chk 5 (kas_sort 5) 0 = true := by decide +kernel
theorem chk6 : chk 6 (kas_sort 6) 0 = true := by decide +kernel

section
variable {n m : Nat} {lt : Nat → Nat → Bool} {le : Nat → Nat → Prop}
/-- the known pairs -/
noncomputable def Known (n : Nat) (lt : Nat → Nat → Bool) (m : Nat) : Prop := ∀ a b, b < 8 → evid m a b = true → lt a b = true
theorem known_set (h : Known n lt m) {i j : Nat} (hj : j < 8) (e : lt i j = true) : Known n lt (m ||| 2 ^ (8 * i + j)) := fun a b hb q => by
  unfold evid at q
  rw [Nat.testBit_or, Nat.testBit_two_pow] at q
  rcases Bool.or_eq_true_iff.mp q with q | q
  · exact h a b hb q
  · have := of_decide_eq_true q
    have e1 : a = i := by omega
    have e2 : b = j := by omega
    rw [e1, e2]; exact e
theorem growN_le (tr : ∀ a b c, le a b → le b c → le a c) (hn : n ≤ 8) (h1 : ∀ i j, lt i j = true → le i j) (hp : Known n lt m) {a : Nat} : ∀ (k : Nat) (S : List Nat), (∀ x ∈ S, le a x) → ∀ x ∈ growN m n k S, le a x
  | 0, S, hS => hS
  | k + 1, S, hS => growN_le tr hn h1 hp k _ fun x hx => by
    obtain ⟨hr, hx⟩ := List.mem_filter.mp hx
    rcases Bool.or_eq_true_iff.mp hx with h | h
    · exact hS x (List.contains_iff_mem.mp h)
    · obtain ⟨y, hy, e⟩ := List.any_eq_true.mp h
      exact tr _ _ _ (hS y hy) (h1 _ _ (hp y x (Nat.lt_of_lt_of_le (List.mem_range.mp hr) hn) e))
theorem adj_le (rf : ∀ a, le a a) (tr : ∀ a b c, le a b → le b c → le a c) (hn : n ≤ 8) (h1 : ∀ i j, lt i j = true → le i j) (hp : Known n lt m) : ∀ l : List Nat, (∀ x ∈ l, x < n) → adj n m l = true → l.Pairwise le
  | [], _, _ => List.Pairwise.nil
  | [a], _, _ => List.pairwise_singleton _ _
  | a :: b :: r, hl, h => by
    obtain ⟨e, h⟩ := Bool.and_eq_true_iff.mp h
    have ih := adj_le rf tr hn h1 hp (b :: r) (fun x hx => hl x (List.mem_cons_of_mem _ hx)) h
    have ab : le a b := by
      rcases Bool.or_eq_true_iff.mp e with e | e
      · exact h1 _ _ (hp a b (Nat.lt_of_lt_of_le (hl b (List.mem_cons_of_mem _ List.mem_cons_self)) hn) e)
      · exact growN_le tr hn h1 hp n [a] (fun x hx => by rw [List.mem_singleton.mp hx]; exact rf a) b (List.contains_iff_mem.mp (Bool.and_eq_true_iff.mp e).2)
    refine List.pairwise_cons.mpr ⟨fun x hx => ?_, ih⟩
    rcases List.mem_cons.mp hx with rfl | hx
    · exact ab
    · exact tr _ _ _ ab ((List.pairwise_cons.mp ih).1 x hx)
theorem kas_ok {cmp : Nat → Nat → (Bool → Shared → Prop) → Shared → Prop} {s : Shared} (hn : n ≤ 8) (hask : ∀ i j (C : Bool → Shared → Prop), i < n → j < n → C (lt i j) s → cmp i j C s) (rf : ∀ a, le a a) (tr : ∀ a b c, le a b → le b c → le a c)
    (h1 : ∀ i j, lt i j = true → le i j) (as : ∀ i j, lt i j = true → lt j i = false) (tot : ∀ i j, i < n → j < n → i ≠ j → lt i j = false → lt j i = true) {Q : Array Nat → Shared → Prop} (hQ : ∀ p : Array Nat, p.toList.Perm (List.range n) → p.toList.Pairwise le → Q p s) :
    ∀ (t : KasT (Array Nat)) (m : Nat), Known n lt m → chk n t m = true → t.kasWp cmp Q s
  | .ret p, m, hp, h => by
    obtain ⟨a, b⟩ := Bool.and_eq_true_iff.mp h
    have pm := List.isPerm_iff.mp a
    exact hQ p pm (adj_le rf tr hn h1 hp _ (fun x hx => List.mem_range.mp (pm.subset hx)) b)
  | .ask i j k, m, hp, h => by
    obtain ⟨h, f⟩ := Bool.and_eq_true_iff.mp h
    obtain ⟨h, ne⟩ := Bool.and_eq_true_iff.mp h
    obtain ⟨hi, hj⟩ := Bool.and_eq_true_iff.mp h
    have hi : i < n := Nat.blt_eq.mp hi
    have hj : j < n := Nat.blt_eq.mp hj
    have hi8 := Nat.lt_of_lt_of_le hi hn
    have hj8 := Nat.lt_of_lt_of_le hj hn
    have ne : i ≠ j := fun q => by rw [q, show Nat.beq j j = true from Nat.beq_refl j] at ne; cases ne
    refine hask i j _ hi hj ?_
    cases e1 : evid m i j with
    | true =>
      rw [e1] at f
      rw [hp i j hj8 e1]
      exact kas_ok hn hask rf tr h1 as tot hQ (k true) m hp f
    | false =>
      rw [e1] at f
      cases e2 : evid m j i with
      | true =>
        rw [e2] at f
        rw [as j i (hp j i hi8 e2)]
        exact kas_ok hn hask rf tr h1 as tot hQ (k false) m hp f
      | false =>
        rw [e2] at f
        obtain ⟨t, f⟩ := Bool.and_eq_true_iff.mp f
        cases e : lt i j with
        | true => exact kas_ok hn hask rf tr h1 as tot hQ (k true) _ (known_set hp hj8 e) t
        | false => exact kas_ok hn hask rf tr h1 as tot hQ (k false) _ (known_set hp hi8 (tot i j hi hj ne e)) f
theorem known_zero : Known n lt 0 := fun a b _ h => by unfold evid at h; rw [Nat.zero_testBit] at h; cases h
end

section
variable {prog : Program} {w : World} {A : Around} {E : Value → Shared → Prop} {s : Shared} {vs : List Value}
/-- list.sort of things whose comparison changes nothing -/
theorem sort_list {a : Addr} {n : Nat} {κ : SortKind} {G : Array Nat → Prop} {P : PySem.Fin → Shared → Prop} (ho : s.heap.get? a = some (seqObj "list" vs.toArray n)) (h2 : 2 ≤ vs.length) (h64 : vs.length < 64)
    (hk : ∀ h', (∀ b o, b ≠ a → s.heap.get? b = some o → h'.get? b = some o) → wpAny (model prog w) A (keyKind' vs.toArray) (fun κ' s' => κ' = κ ∧ s' = { s with heap := h' }) (fun _ _ => False) { s with heap := h' } ∧
      (kas_sort vs.length).kasWp (kas_ask prog w A κ vs) (fun p s' => G p ∧ s' = { s with heap := h' }) { s with heap := h' })
    (h : ∀ h' (p : Array Nat) c, (∀ b o, b ≠ a → s.heap.get? b = some o → h'.get? b = some o) → h'.get? a = some (seqObj "list" (List.toArray (p.toList.map fun i => vs.getD i Value.none)) c) → G p → P (.done (.ret .none)) { s with heap := h' }) :
    wpAny (model prog w) A (Builtin.«list.sort» ⟨[.ref a], []⟩) P E s := by
  have ha : a < s.heap.objs.size := Heap.lt_size ho
  obtain ⟨e1, ho1⟩ : ∃ e1, (s.heap.update a (Obj.mapSeq fun _ => (#[] : Array Value))).get? a = some (seqObj "list" #[] e1) := ⟨_, get?_update_seq ho fun _ => #[]⟩
  have hsz0 : (s.heap.update a (Obj.mapSeq fun _ => (#[] : Array Value))).objs.size = s.heap.objs.size := Heap.size_update ..
  have hup : ∀ b o, (s.heap.update a (Obj.mapSeq fun _ => (#[] : Array Value))).get? b = some o → (((s.heap.update a (Obj.mapSeq fun _ => (#[] : Array Value))).push (seqObj "tuple" vs.toArray 0)).push (seqObj "list" #[] 0)).get? b = some o := fun b o q =>
    Heap.get?_push_of_some _ (Heap.get?_push_of_some _ q)
  have ho2 := hup _ _ ho1
  have keep : ∀ b o, b ≠ a → s.heap.get? b = some o → (((s.heap.update a (Obj.mapSeq fun _ => (#[] : Array Value))).push (seqObj "tuple" vs.toArray 0)).push (seqObj "list" #[] 0)).get? b = some o := fun b o hb q =>
    hup b o ((Heap.get?_update_ne _ _ _ _ hb).trans q)
  obtain ⟨ask1, ask2⟩ := hk _ keep
  have fit : vs.length ≤ sizeLine := by rw [sizeLine_eq]; exact Nat.le_trans (Nat.le_of_lt h64) (by decide)
  rw [list_sort_plain]
  refine wpAny_bind (listItems_at ho rfl ?_)
  refine wpAny_bind (listUpdate_at ho rfl ?_ (by rw [List.size_toArray]; exact fit) (Nat.zero_le _))
  refine wpAny_bind (seqEpoch_at ho1 rfl ?_)
  refine wpAny_bind (wpAny_newTuple ?_ fit)
  refine wpAny_bind (wpAny_newList ?_ (Nat.zero_le _))
  refine wpAny_holding ?_
  show wpAny (model prog w) A _ P E { s with heap := ((s.heap.update a (Obj.mapSeq fun _ => (#[] : Array Value))).push (seqObj "tuple" vs.toArray 0)).push (seqObj "list" #[] 0) }
  generalize ((s.heap.update a (Obj.mapSeq fun _ => (#[] : Array Value))).push (seqObj "tuple" vs.toArray 0)).push (seqObj "list" #[] 0) = H at *
  dsimp only
  have hn2 : ¬ vs.toArray.size < 2 := by rw [List.size_toArray]; exact Nat.not_lt.mpr h2
  rw [if_neg hn2, if_neg hn2]
  refine wpAny_bind (wpAny_mono ask1 (fun κ' s0 hq => ?_) fun _ _ x => x.elim)
  obtain ⟨rfl, rfl⟩ := hq
  refine wpAny_bind (wpAny_mono (kat_run (Q := fun st' s' => ∃ p : Array Nat, p.size = vs.length ∧ arrOf st' = p.map (kas_item (vs.toArray.zip vs.toArray)) ∧ failedOf st' = none ∧ G p ∧ s' = { s with heap := H })
    rfl h2 h64 (fun p' st' s' a1 a2 a3 a4 => ⟨p', a1, a2, a3, a4⟩) ask2) ?_ fun _ _ e => e)
  rintro ⟨⟨⟩, st'⟩ s' ⟨p, hp, har, hf, hg, rfl⟩
  have snd := kat_snds (vs := vs) (ks := vs) rfl har
  dsimp only
  refine wpAny_bind (seqEpoch_at ho2 rfl ?_)
  refine wpAny_bind (listUpdate_at ho2 rfl ?_ (Nat.zero_le _) (by rw [snd, List.size_toArray, List.length_map, Array.length_toList, hp]; exact Nat.le_succ_of_le fit))
  rw [hf]
  simp only [bne_self_eq_false, Bool.false_eq_true, if_false]
  obtain ⟨c9, ho9⟩ : ∃ c9, (H.update a (Obj.mapSeq fun _ => (arrOf st').map (·.2))).get? a = some (seqObj "list" ((arrOf st').map (·.2)) c9) := ⟨_, get?_update_seq ho2 fun _ => (arrOf st').map (·.2)⟩
  refine wpAny_pure (h _ p c9 (fun b o hb q => (Heap.get?_update_ne _ _ _ _ hb).trans (keep b o hb q)) ?_ hg)
  rw [← snd]
  exact ho9
theorem sorted_list {l : Addr} {κ : SortKind} {G : Array Nat → Prop} {Q : Value → Shared → Prop} (hl : s.heap.IsList l vs.toArray) (h2 : 2 ≤ vs.length) (h64 : vs.length < 64)
    (hk : ∀ h', Stays s.heap h' → wpAny (model prog w) A.in1.in1 (keyKind' vs.toArray) (fun κ' s' => κ' = κ ∧ s' = { s with heap := h' }) (fun _ _ => False) { s with heap := h' } ∧
      (kas_sort vs.length).kasWp (kas_ask prog w A.in1.in1 κ vs) (fun p s' => G p ∧ s' = { s with heap := h' }) { s with heap := h' })
    (h : ∀ h' D (p : Array Nat) c, Stays s.heap h' → s.heap.get? D = none → h'.get? D = some (seqObj "list" (List.toArray (p.toList.map fun i => vs.getD i Value.none)) c) → G p → Q (.ref D) { s with heap := h' }) :
    wpAny (model prog w) A (call (.builtin "sorted") [.ref l]) Q E s := by
  have fit : vs.length ≤ sizeLine := by rw [sizeLine_eq]; exact Nat.le_trans (Nat.le_of_lt h64) (by decide)
  refine Calls.call_function_entry kind_sorted plain_sorted entry_sorted (args_sorted1 _) ?_
  unfold Builtin.«sorted»
  refine wpAny_bind (m := checkCount "sorted" 1 1 _) (wpAny_pure ?_)
  refine wpAny_bind (collect_list hl ?_ fit)
  refine wpAny_bind (wpAny_newList ?_ fit)
  have hsz : ((s.heap.push (seqObj "list" #[] 0)).update s.heap.objs.size (Obj.mapSeq (· ++ vs.toArray))).objs.size = s.heap.objs.size + 1 := by
    rw [Heap.size_update, size_push']
  have hoL : (((s.heap.push (seqObj "list" #[] 0)).update s.heap.objs.size (Obj.mapSeq (· ++ vs.toArray))).push (seqObj "list" vs.toArray 0)).get? (s.heap.objs.size + 1) = some (seqObj "list" vs.toArray 0) := by
    rw [← hsz]; exact Heap.get?_push_size _ rfl
  have keep : Stays s.heap (((s.heap.push (seqObj "list" #[] 0)).update s.heap.objs.size (Obj.mapSeq (· ++ vs.toArray))).push (seqObj "list" vs.toArray 0)) := fun b o q => by
    have hlt : b < s.heap.objs.size := Heap.lt_size q
    exact Heap.get?_push_of_some _ ((Heap.get?_update_ne _ _ _ _ (Nat.ne_of_lt hlt)).trans (Heap.get?_push_of_some _ q))
  have fresh : s.heap.get? (s.heap.objs.size + 1) = none := Heap.get?_none_of_le (Nat.le_succ _)
  show wpAny _ _ _ _ _ { s with heap := ((s.heap.push (seqObj "list" #[] 0)).update s.heap.objs.size (Obj.mapSeq (· ++ vs.toArray))).push (seqObj "list" vs.toArray 0) }
  rw [hsz]
  generalize ((s.heap.push (seqObj "list" #[] 0)).update s.heap.objs.size (Obj.mapSeq (· ++ vs.toArray))).push (seqObj "list" vs.toArray 0) = H at *
  have ne : ∀ b o, s.heap.get? b = some o → b ≠ s.heap.objs.size + 1 := fun b o q => Nat.ne_of_lt (Nat.lt_succ_of_lt (Heap.lt_size q))
  refine wpAny_bind (wpAny_holding (wpAny_call_entry slot_list_sort ⟨_, hoL, rfl⟩ entry_list_sort (sort_list (s := { s with heap := H }) (κ := κ) (G := G) hoL h2 h64 (fun h' k => hk h' fun b o q => k b o (ne b o q) (keep b o q)) fun h' p c k hD hg => ⟨_, rfl, ?_⟩) (args_list_sort _)))
  exact wpAny_pure ⟨_, rfl, h h' _ p c (fun b o q => k b o (ne b o q) (keep b o q)) fresh hD hg⟩
end
end Mine

end
section
open PySem PySem.W PySem.Calls PyProof.Rows
set_option linter.unusedVariables false
set_option maxRecDepth 100000
namespace Mine
noncomputable def pvTrip : PV → Option (Int × Int × Int)
  | .tuple [.int a, .int b, .int c] => some (a, b, c)
  | _ => none
noncomputable def leTrip (x y : Int × Int × Int) : Bool := decide (x.1 < y.1) || (decide (x.1 = y.1) && (decide (x.2.1 < y.2.1) || (decide (x.2.1 = y.2.1) && decide (x.2.2 ≤ y.2.2))))
noncomputable def spSorted : List PV → Option PV
  | [.list xs] => (xs.mapM pvTrip).bind fun ts => if (3 ≤ ts.length ∧ ts.length ≤ 6) ∧ (ts.map (·.1)).Nodup then some (.list ((ts.mergeSort leTrip).map fun t => .tuple [.int t.1, .int t.2.1, .int t.2.2])) else none
  | _ => none

theorem leT_iff (a b : Int × Int × Int) : leTrip a b = true ↔ a.1 < b.1 ∨ (a.1 = b.1 ∧ (a.2.1 < b.2.1 ∨ (a.2.1 = b.2.1 ∧ a.2.2 ≤ b.2.2))) := by
  unfold leTrip
  simp only [Bool.or_eq_true, Bool.and_eq_true, decide_eq_true_eq]
theorem lex_tot {x y : Int} {p q : Prop} (h : p ∨ q) : (x < y ∨ (x = y ∧ p)) ∨ (y < x ∨ (y = x ∧ q)) := by
  rcases Int.lt_trichotomy x y with l | l | l
  · exact .inl (.inl l)
  · rcases h with h | h
    · exact .inl (.inr ⟨l, h⟩)
    · exact .inr (.inr ⟨l.symm, h⟩)
  · exact .inr (.inl l)
theorem lex_trans {x y z : Int} {p q r : Prop} (t : p → q → r) (h1 : x < y ∨ (x = y ∧ p)) (h2 : y < z ∨ (y = z ∧ q)) : x < z ∨ (x = z ∧ r) := by
  rcases h1 with h1 | ⟨rfl, h1⟩
  · rcases h2 with h2 | ⟨rfl, h2⟩
    · exact .inl (Int.lt_trans h1 h2)
    · exact .inl h1
  · rcases h2 with h2 | ⟨rfl, h2⟩
    · exact .inl h2
    · exact .inr ⟨rfl, t h1 h2⟩
theorem lex_asym {x y : Int} {p q r : Prop} (t : p → q → r) (h1 : x < y ∨ (x = y ∧ p)) (h2 : y < x ∨ (y = x ∧ q)) : x = y ∧ r := by
  rcases h1 with h1 | ⟨rfl, h1⟩
  · rcases h2 with h2 | ⟨e, h2⟩
    · exact absurd (Int.lt_trans h1 h2) (Int.lt_irrefl _)
    · exact absurd (e ▸ h1) (Int.lt_irrefl _)
  · rcases h2 with h2 | ⟨_, h2⟩
    · exact absurd h2 (Int.lt_irrefl _)
    · exact ⟨rfl, t h1 h2⟩
theorem leT_tot (a b : Int × Int × Int) : (leTrip a b || leTrip b a) = true := by
  rw [Bool.or_eq_true, leT_iff, leT_iff]
  exact lex_tot (lex_tot (Int.le_total _ _))
theorem leT_trans (a b c : Int × Int × Int) (h1 : leTrip a b = true) (h2 : leTrip b c = true) : leTrip a c = true := by
  rw [leT_iff] at *
  exact lex_trans (lex_trans Int.le_trans) h1 h2
theorem leT_asym (a b : Int × Int × Int) (h1 : leTrip a b = true) (h2 : leTrip b a = true) : a = b := by
  rw [leT_iff] at *
  have e := lex_asym (lex_asym Int.le_antisymm) h1 h2
  exact Prod.ext e.1 (Prod.ext e.2.1 e.2.2)
theorem lex_ne {x y : Int} {p : Prop} (h : ¬ x = y) : (¬ (y < x ∨ (y = x ∧ p))) ↔ x < y := by
  constructor
  · intro q
    exact (Int.lt_or_eq_of_le (Int.not_lt.mp fun l => q (.inl l))).resolve_right h
  · rintro q (l | ⟨l, _⟩)
    · exact absurd (Int.lt_trans q l) (Int.lt_irrefl _)
    · exact h l.symm
theorem lex_eq {x y : Int} {p : Prop} (h : x = y) : (¬ (y < x ∨ (y = x ∧ p))) ↔ ¬ p := by
  subst h
  exact ⟨fun q r => q (.inr ⟨rfl, r⟩), fun q r => by rcases r with r | ⟨_, r⟩; exact absurd r (Int.lt_irrefl _); exact q r⟩
theorem ltT_dec {x y : Int × Int × Int} {P : Prop} [Decidable P] (h : (¬ (y.1 < x.1 ∨ (y.1 = x.1 ∧ (y.2.1 < x.2.1 ∨ (y.2.1 = x.2.1 ∧ y.2.2 ≤ x.2.2))))) ↔ P) : (!leTrip y x) = decide P := by
  rw [Bool.eq_iff_iff, decide_eq_true_eq, ← h, ← leT_iff, Bool.not_eq_true', Bool.not_eq_true]
theorem leT_refl (a : Int × Int × Int) : leTrip a a = true := by have := leT_tot a a; rwa [Bool.or_self] at this

/-- a triple in the heap -/
noncomputable def TripAt (h : Heap) (v : Value) (x : Int × Int × Int) : Prop := ∃ a o n t1 t2 t3, v = .ref a ∧ h.get? a = some o ∧ o.cls = .type "tuple" ∧ o.data = .seq (List.toArray [.int x.1 t1, .int x.2.1 t2, .int x.2.2 t3]) n
theorem TripAt.stays {h h' : Heap} {v : Value} {x : Int × Int × Int} (t : TripAt h v x) (s : Stays h h') : TripAt h' v x := let ⟨a, o, n, t1, t2, t3, e, f, r⟩ := t; ⟨a, o, n, t1, t2, t3, e, s a o f, r⟩
theorem trip_of {X : Addr → Prop} {h : Heap} {p : PV} {v : Value} {x : Int × Int × Int} (r : Rep X h p v) (e : pvTrip p = some x) : TripAt h v x := by
  unfold pvTrip at e
  split at e
  · cases e
    obtain ⟨a, vs, e1, _, ⟨o, h1, h2, n, h3⟩, rl⟩ := r
    obtain ⟨v1, q1, rfl, ⟨t1, rfl⟩, v2, q2, rfl, ⟨t2, rfl⟩, v3, q3, rfl, ⟨t3, rfl⟩, hq⟩ := rl
    rw [show q3 = [] from hq] at h3
    exact ⟨a, o, n, t1, t2, t3, e1, h1, h2, h3⟩
  · cases e
/-- the triples of a list -/
noncomputable def Trips (h : Heap) : List Value → List (Int × Int × Int) → Prop
  | [], [] => True
  | v :: vs, x :: ts => TripAt h v x ∧ Trips h vs ts
  | _, _ => False
theorem Trips.stays {h h' : Heap} (s : Stays h h') : ∀ {vs : List Value} {ts : List (Int × Int × Int)}, Trips h vs ts → Trips h' vs ts
  | [], [], _ => trivial
  | _ :: _, _ :: _, ⟨a, b⟩ => ⟨a.stays s, Trips.stays s b⟩
  | [], _ :: _, t => t.elim
  | _ :: _, [], t => t.elim
theorem trips_of {X : Addr → Prop} {h : Heap} : ∀ {ps : List PV} {vs : List Value} {ts : List (Int × Int × Int)}, RepL X h ps vs → ps.mapM pvTrip = some ts → Trips h vs ts
  | [], vs, ts, r, e => by
    rw [show vs = [] from r]
    rw [List.mapM_nil] at e; cases e; trivial
  | p :: ps, vs, ts, ⟨v, q, e1, r1, r2⟩, e => by
    rw [List.mapM_cons] at e
    obtain ⟨x, ex, e⟩ := bind_some e
    obtain ⟨xs, exs, e⟩ := bind_some e
    cases e
    rw [e1]
    exact ⟨trip_of r1 ex, trips_of r2 exs⟩
theorem Trips.length {h : Heap} : ∀ {vs : List Value} {ts : List (Int × Int × Int)}, Trips h vs ts → vs.length = ts.length
  | [], [], _ => rfl
  | _ :: _, _ :: _, ⟨_, b⟩ => by rw [List.length_cons, List.length_cons, Trips.length b]
  | [], _ :: _, t => t.elim
  | _ :: _, [], t => t.elim
theorem Trips.at {h : Heap} : ∀ {vs : List Value} {ts : List (Int × Int × Int)} {i : Nat}, Trips h vs ts → i < ts.length → TripAt h (vs.getD i Value.none) (ts.getD i (0, 0, 0))
  | [], [], i, _, hi => absurd hi (Nat.not_lt_zero _)
  | v :: _, x :: _, 0, ⟨a, _⟩, _ => a
  | _ :: vs, _ :: ts, i + 1, ⟨_, b⟩, hi => Trips.at (i := i) b (Nat.lt_of_succ_lt_succ hi)
  | [], _ :: _, _, t, _ => t.elim
  | _ :: _, [], _, t, _ => t.elim
theorem Trips.kat {h : Heap} : ∀ {vs : List Value} {ts : List (Int × Int × Int)}, Trips h vs ts → ∃ fs : List Value, KatTups h vs fs ∧ fs.length = ts.length ∧ ∀ v ∈ fs, ∃ (i : Int) (t : Tok), v = .int i t
  | [], [], _ => ⟨[], KatTups.nil, rfl, fun _ h => nomatch h⟩
  | _ :: _, _ :: _, ⟨⟨a, o, n, t1, t2, t3, e, f, c, d⟩, b⟩ => by
    obtain ⟨fs, k1, k2, k3⟩ := Trips.kat b
    subst e
    refine ⟨_, KatTups.cons f c d rfl k1, congrArg Nat.succ k2, fun v hv => ?_⟩
    rcases List.mem_cons.mp hv with rfl | hv
    · exact ⟨_, _, rfl⟩
    · exact k3 v hv
  | [], _ :: _, t => t.elim
  | _ :: _, [], t => t.elim

section
variable {prog : Program} {w : World} {A : Around} {s : Shared}
theorem lt_trip {u v : Value} {x y : Int × Int × Int} (hu : TripAt s.heap u x) (hv : TripAt s.heap v y) {Q : Bool → Shared → Prop} (h : Q (!leTrip y x) s) {E : Value → Shared → Prop} : wpAny (model prog w) A (keyLt' (tuples' true) u v) Q E s := by
  obtain ⟨a, o, n, t1, t2, t3, rfl, f, c, d⟩ := hu
  obtain ⟨a', o', n', u1, u2, u3, rfl, f', c', d'⟩ := hv
  refine kat_lt f d f' d' ?_
  refine kat_cons (wpAny_eqBool_int (kat_go (fun e => kat_yes ?_) fun e => kat_no (oneLt_int ?_)))
  · refine kat_cons (wpAny_eqBool_int (kat_go (fun e2 => kat_yes ?_) fun e2 => kat_no (kat_one _ _ (lt_int ?_))))
    · refine kat_cons (wpAny_eqBool_int (kat_go (fun e3 => kat_yes ?_) fun e3 => kat_no (kat_one _ _ (lt_int ?_))))
      · refine kat_nil ?_
        have e := eq_of_beq e; have e2 := eq_of_beq e2; have e3 := eq_of_beq e3
        have : leTrip y x = true := by rw [show y = x from Prod.ext e.symm (Prod.ext e2.symm e3.symm)]; exact leT_refl x
        rw [this] at h; exact h
      · have e := eq_of_beq e; have e2 := eq_of_beq e2; have e3 := ne_of_beq_false e3
        show Q (decide (x.2.2 < y.2.2)) s
        rw [← ltT_dec ((lex_eq e).trans ((lex_eq e2).trans Int.not_le))]; exact h
    · have e := eq_of_beq e; have e2 := ne_of_beq_false e2
      show Q (decide (x.2.1 < y.2.1)) s
      rw [← ltT_dec ((lex_eq e).trans (lex_ne e2))]; exact h
  · have e := ne_of_beq_false e
    show Q (decide (x.1 < y.1)) s
    rw [← ltT_dec (lex_ne e)]; exact h
end
theorem chk_all {n : Nat} (h : 3 ≤ n ∧ n ≤ 6) : chk n (kas_sort n) 0 = true := by
  have : n = 3 ∨ n = 4 ∨ n = 5 ∨ n = 6 := by omega
  rcases this with rfl | rfl | rfl | rfl
  · exact chk3
  · exact chk4
  · exact chk5
  · exact chk6
theorem range_getD {α : Type} (l : List α) (d : α) : (List.range l.length).map (fun i => l.getD i d) = l := by
  apply List.ext_getElem
  · simp
  · intro i h1 h2
    simp [List.getD_eq_getElem?_getD, h2]
theorem perm_sorted {ts : List (Int × Int × Int)} {p : List Nat} (hp : p.Perm (List.range ts.length)) (hs : p.Pairwise fun a b => leTrip (ts.getD a (0, 0, 0)) (ts.getD b (0, 0, 0)) = true) : p.map (fun i => ts.getD i (0, 0, 0)) = ts.mergeSort leTrip := by
  have pm : (p.map fun i => ts.getD i (0, 0, 0)).Perm ts := by
    have := hp.map fun i => ts.getD i (0, 0, 0)
    rw [range_getD] at this; exact this
  refine List.Perm.eq_of_pairwise (le := fun a b => leTrip a b = true) (fun a b _ _ => leT_asym a b) (List.pairwise_map.mpr hs) (List.pairwise_mergeSort leT_trans leT_tot _) (pm.trans (List.mergeSort_perm _ _).symm)
theorem rep_trips {X : Addr → Prop} {h : Heap} {vs : List Value} {ts : List (Int × Int × Int)} {ps : List PV} (r : RepL X h ps vs) (e : ps.mapM pvTrip = some ts) : ∀ p : List Nat, (∀ i ∈ p, i < ts.length) → RepL X h (p.map fun i => .tuple [.int (ts.getD i (0, 0, 0)).1, .int (ts.getD i (0, 0, 0)).2.1, .int (ts.getD i (0, 0, 0)).2.2]) (p.map fun i => vs.getD i Value.none)
  | [], _ => rfl
  | i :: p, hp => by
    have hi := hp i List.mem_cons_self
    refine .cons ?_ (rep_trips r e p fun j hj => hp j (List.mem_cons_of_mem _ hj))
    have key : ∀ {ps : List PV} {vs : List Value} {ts : List (Int × Int × Int)} {i : Nat}, RepL X h ps vs → ps.mapM pvTrip = some ts → i < ts.length → Rep X h (.tuple [.int (ts.getD i (0, 0, 0)).1, .int (ts.getD i (0, 0, 0)).2.1, .int (ts.getD i (0, 0, 0)).2.2]) (vs.getD i Value.none) := by
      intro ps
      induction ps with
      | nil => intro vs ts i r e hi; rw [List.mapM_nil] at e; cases e; exact absurd hi (Nat.not_lt_zero _)
      | cons q ps ih =>
        intro vs ts i r e hi
        obtain ⟨v, l, e1, r1, r2⟩ := r
        rw [List.mapM_cons] at e
        obtain ⟨x, ex, e⟩ := bind_some e
        obtain ⟨xs, exs, e⟩ := bind_some e
        cases e
        subst e1
        cases i with
        | zero =>
          have : q = .tuple [.int x.1, .int x.2.1, .int x.2.2] := by
            unfold pvTrip at ex
            split at ex
            · cases ex; rfl
            · cases ex
          rw [this] at r1
          exact r1
        | succ i => exact ih (vs := l) (ts := xs) (i := i) r2 exs (Nat.lt_of_succ_lt_succ hi)
    exact key r e hi
theorem lt_le {x y : Int × Int × Int} (e : leTrip y x = false) : leTrip x y = true := by
  have := leT_tot x y
  rw [e, Bool.or_false] at this; exact this
theorem tot_of {ts : List (Int × Int × Int)} (nd : (ts.map (·.1)).Nodup) {i j : Nat} (hi : i < ts.length) (hj : j < ts.length) (ne : i ≠ j) (e : (!leTrip (ts.getD j (0, 0, 0)) (ts.getD i (0, 0, 0))) = false) : (!leTrip (ts.getD i (0, 0, 0)) (ts.getD j (0, 0, 0))) = true := by
  rw [Bool.not_eq_false'] at e
  cases q : leTrip (ts.getD i (0, 0, 0)) (ts.getD j (0, 0, 0)) with
  | false => rfl
  | true =>
    have eq := leT_asym _ _ e q
    refine absurd ?_ ne
    have hi' : i < (ts.map (·.1)).length := by rw [List.length_map]; exact hi
    have hj' : j < (ts.map (·.1)).length := by rw [List.length_map]; exact hj
    refine (List.getElem_inj (h₀ := hi') (h₁ := hj') nd).mp ?_
    rw [List.getElem_map, List.getElem_map]
    have gi : ts.getD i (0, 0, 0) = ts[i] := by rw [List.getD_eq_getElem?_getD, List.getElem?_eq_getElem hi]; rfl
    have gj : ts.getD j (0, 0, 0) = ts[j] := by rw [List.getD_eq_getElem?_getD, List.getElem?_eq_getElem hj]; rfl
    rw [← gi, ← gj, eq]
theorem ok_sorted {C : Ctx} {n : Nat} : CallOk C n (.builtin "sorted") spSorted := by
  intro A X s vs ps r hA gl lv tk hr h
  unfold spSorted at h
  split at h
  · rename_i xs
    obtain ⟨v1, q, rfl, hv1, hq⟩ := hr; rw [show q = [] from hq]
    obtain ⟨ts, et, h⟩ := bind_some h
    split at h
    · rename_i hcn; cases h
      obtain ⟨hc, nd⟩ := hcn
      obtain ⟨l, ws, rfl, _, hl, rl⟩ := hv1
      have T := trips_of rl et
      have hlen := T.length
      refine sorted_list (κ := tuples' true) (G := fun p => p.toList.Perm (List.range ts.length) ∧ p.toList.Pairwise fun a b => leTrip (ts.getD a (0, 0, 0)) (ts.getD b (0, 0, 0)) = true) hl (by rw [hlen]; exact Nat.le_trans (by decide) hc.1) (by rw [hlen]; exact Nat.lt_of_le_of_lt hc.2 (by decide)) (fun h' st => ?_) fun h' D p c st hD ho hG => ?_
      · have T' := T.stays st
        obtain ⟨fs, k1, k2, k3⟩ := T'.kat
        constructor
        · exact kat_kind (T := .type "int") (s := { s with heap := h' }) k1 (by rw [k2]; exact Nat.lt_of_lt_of_le (by decide) hc.1) (fun v hv => by obtain ⟨i, t, rfl⟩ := k3 v hv; exact Looks.of_pure rfl) (by rfl) ⟨rfl, rfl⟩
        · rw [hlen]
          exact kas_ok (n := ts.length) (lt := fun i j => !leTrip (ts.getD j (0, 0, 0)) (ts.getD i (0, 0, 0))) (le := fun a b => leTrip (ts.getD a (0, 0, 0)) (ts.getD b (0, 0, 0)) = true) (s := { s with heap := h' }) (Nat.le_trans hc.2 (by decide))
            (fun i j C hi hj hC => lt_trip (s := { s with heap := h' }) (T'.at hi) (T'.at hj) hC) (fun a => leT_refl _) (fun a b c => leT_trans _ _ _)
            (fun i j e => by rw [Bool.not_eq_true'] at e; exact lt_le e)
            (fun i j e => by rw [Bool.not_eq_true'] at e; rw [Bool.not_eq_false', lt_le e]) (fun i j hi hj ne e => tot_of nd hi hj ne e) (fun p a b => ⟨⟨a, b⟩, rfl⟩) _ 0 known_zero (chk_all hc)
      · have e := perm_sorted hG.1 hG.2
        refine ⟨Kp.of' st, D, _, rfl, lv.fresh hD, ⟨_, ho, rfl, c, rfl⟩, ?_⟩
        have rr := rep_trips (RepL.stays st rl) et p.toList fun i hi => List.mem_range.mp (hG.1.subset hi)
        rw [← e, List.map_map]
        exact rr
    · cases h
  · cases h
end Mine

end
section
open PySem PySem.W PySem.Calls PyProof.Rows
set_option linter.unusedVariables false
set_option maxRecDepth 100000
namespace Mine

section
variable {M : Model} {A : Around} {E : Value → Shared → Prop} {s : Shared}
theorem bindOne {s₀ : Shared} {env : Env} {m cm : Str → Option Value} {n : Str} {v : Value} {s : Shared} {Q : PUnit → Shared → Prop} (f : Str × Value → PUnit → Sem (ForInStep PUnit)) (hf : ∀ n v u, f (n, v) u = (do storeName env n v; pure (.yield ⟨⟩))) (hk : env.scope.kind = .function)
    (x : InCallC s₀ env.locals m env.cells cm s) (hl : env.kindOf n = some .local)
    (h : ∀ s', InCallC s₀ env.locals (bindL env.kindOf [(n, v)] m) env.cells (bindC env.kindOf [(n, v)] cm) s' → s.toks < s'.toks → Q ⟨⟩ s') : wpAny M A (forIn [(n, v)] ⟨⟩ f) Q E s := by
  rw [List.forIn_cons, hf]
  refine wpAny_bind (wpAny_bind (wpAny_storeName_local hl x.toInCall.ns (fun h' hn' hs' => wpAny_pure ?_) (by rw [hk]; rfl)))
  show wpAny M A (forIn [] (⟨⟩ : PUnit) f) Q E _
  rw [List.forIn_nil]
  refine wpAny_pure (h _ ?_ (Nat.lt_succ_self _))
  unfold bindL bindC bindL bindC
  rw [if_pos hl, if_pos hl]
  refine ⟨⟨?_, hn', fun b o e => ?_, x.toInCall.fresh⟩, fun k c hc => ?_, x.apart, x.above⟩
  · obtain ⟨h₁, tk, rfl⟩ := x.toInCall.same
    exact ⟨h', _, rfl⟩
  · exact hs'.extBut b o (Nat.ne_of_lt (Nat.lt_of_lt_of_le (Heap.lt_size e) x.toInCall.fresh)) (x.toInCall.keep b o e)
  · exact (x.cell k c hc).sameBut hs' (Nat.ne_of_gt (x.above k c (PySem.mem_of_lookup hc)))
theorem newEnvC1 {scope : Scope} {globals : Addr} {n : Str} {v : Value} {qual : Str} {func : Option Addr} {code : Value} {builtins : Addr} {Q : Env → Shared → Prop}
    (hk : scope.kind = .function) (hkind : scope.names.lookup n = some .local)
    (hQ : ∀ env, env = newEnv scope s.heap.objs.size globals (cellsFrom (s.heap.objs.size + 1) scope.names []) qual func code none builtins →
      ∀ s', InCallC s env.locals (bindL env.kindOf [(n, v)] fun _ => none) env.cells (bindC env.kindOf [(n, v)] fun _ => none) s' → s.toks < s'.toks → Q env s') :
    wpAny M A (newFunctionEnv scope globals [] [(n, v)] qual func code none builtins) Q E s := by
  simp only [newFunctionEnv, Option.isSome_none, Bool.false_eq_true, if_false]
  refine wpAny_bind (wpAny_alloc ?_)
  refine wpAny_bind (wpAny_layCells _ (fun name kind cells => by cases hkc : kind == NameKind.cell <;> simp) _ _ _ _ ?_)
  have ok := cellsFrom_ok scope.names (s.heap.push { cls := .type "frame", data := .dict #[] }) (s.heap.objs.size + 1) [] ⟨fun _ _ hm => (nomatch hm), List.Pairwise.nil⟩ (by rw [Heap.size_push]; exact Nat.le_refl _)
  rw [Heap.size_push] at ok
  rw [show ({ s with heap := s.heap.push { cls := .type "frame", data := .dict #[] } } : Shared).heap.objs.size = s.heap.objs.size + 1 from Heap.size_push ..]
  refine wpAny_bind (bindOne (s₀ := s) (env := newEnv scope s.heap.objs.size globals (cellsFrom (s.heap.objs.size + 1) scope.names []) qual func code none builtins) (m := fun _ => none) (cm := fun _ => none)
    _ (fun _ _ _ => rfl) hk
    ⟨⟨⟨_, _, rfl⟩, (Heap.Ns.new s.heap (.type "frame")).keeps (pushCells_keeps _ _), fun b o e => pushCells_keeps _ _ b o (Heap.get?_push_of_some _ e), Nat.le_refl _⟩,
      fun n c hc => (ok.empty n c (PySem.mem_of_lookup hc)).1, ok.apart, fun n c hm => (ok.empty n c hm).2⟩
    hkind fun s' x t => wpAny_pure (hQ _ rfl s' x t))
end

section
variable {prog : Program} {w : World} {A : Around} {R : Result → Shared → Prop} {s : Shared} {G : PySem.Ctx → Prop}
theorem callG_one (hG : GOk G) {name : Str} {params : Arguments} {body : List Stmt} {scope : Scope} {pm cd doc : Value} {a : Addr} {o : Obj} {args : List Value} {n : Str} {v : Value}
    (hroom : A.depth < recursionLimit) (ho : s.heap.get? a = some o) (hdata : o.data = .func (Calls.docDef name params body scope pm cd doc)) (hlim : s.heap.NoLimit) (hcd : s.heap.CodeRec cd name)
    (hbind : bindArgs (Calls.docDef name params body scope pm cd doc) ⟨args, []⟩ = pure [(n, v)])
    (hkind : scope.names.lookup n = some .local)
    (h : ∀ h₁ tk, Fr s.heap s.heap.objs.size h₁ (bindL (envOfC name scope s.heap.objs.size a cd).kindOf [(n, v)] fun _ => none) →
      Cl s.heap.objs.size (cellsFrom (s.heap.objs.size + 1) scope.names []) h₁ (bindC (envOfC name scope s.heap.objs.size a cd).kindOf [(n, v)] fun _ => none) → s.toks < tk →
      wpG G (model prog w) (A.deeper (envOfC name scope s.heap.objs.size a cd)) (execs body (envOfC name scope s.heap.objs.size a cd))
        (fun f s' => R (.ok (.ret (match f with | .ret v => v | _ => .none))) s') NoE { s with heap := h₁, toks := tk })
    (hco : scope.isCoroutine = false) (hgen : scope.isGenerator = false) (hk : scope.kind = .function) :
    codeG G (model prog w) A (.call (.ref a) ⟨args, []⟩) R s := by
  refine codeG_call_function hG (fd := Calls.docDef name params body scope pm cd doc) hroom ho hdata hco hgen rfl hcd ?_
  rw [hbind]
  refine wpAny_pure (newEnvC1 hk hkind fun env he s' x tk => ?_)
  subst he
  refine ⟨hlim.keeps x.toInCall.keep, codeG_func hG ?_⟩
  obtain ⟨h₁, tk', rfl, _⟩ := x.done
  exact h h₁ tk' ⟨x.toInCall.ns, x.toInCall.keep, x.toInCall.fresh⟩ ⟨x.cell, x.apart, x.above⟩ tk
end

theorem fn_ok1 {G : PySem.Ctx → Prop} (hG : GOk G) {C : Ctx} {n : Nat} {d : DefRec} {x : Str} {rest : List Str} {dd : St → Option (St × Out)} {a : Addr} (hd : d ∈ recsOf C.p) (hm : C.mg d.name = some (.ref a)) (hR : FnRec d [x] rest) (hx : d.scope.names.lookup x = some .local)
    (hb : SSs G C d.scope ([x] ++ rest) n true d.body dd) {A : Around} {X : Addr → Prop} {s : Shared} {v : Value} {p r : PV} (hA : Lv (n + 1) A) (gl : C.Gl s.heap) (lv : Live X s.heap) (hr : Rep X s.heap p v) (hsp : fnSpec 1 rest.length dd [p] = some r) :
    wpG G C.M A (call (.ref a) [v]) (fun v s' => Kp s s' ∧ Rep X s'.heap r v) NoE s := by
  unfold fnSpec at hsp
  rw [if_pos (show [p].length = 1 from rfl)] at hsp
  obtain ⟨a', o, pm, cd, doc, e1, e2, e3, e4⟩ := gl.top.fn d hd
  rw [hm] at e1; cases e1
  have hrl : RepL X s.heap [p] [v] := .cons hr .nil
  refine wpG_call hG (callG_one hG (Nat.lt_of_le_of_lt (Nat.le_add_right _ _) hA.depth) e2 e3 gl.top.nolimit e4 (hR.bind pm cd doc [v] rfl) hx (fun h₁ tk' F K tk1 => ?_) hR.co hR.gen hR.kind)
  obtain ⟨X', R⟩ := SR.entry hR gl lv hrl rfl F K
  have hE : EnvOk d.scope (envOfC d.name d.scope s.heap.objs.size a cd) := ⟨rfl, hR.kind, rfl, rfl⟩
  split at hsp
  · rename_i σ' w hdd
    cases hsp
    refine wpG_mono (hb _ _ _ X X' _ σ' { s with heap := h₁, toks := tk' } (.ret r) hA.deeper hE R (Nat.lt_of_le_of_lt (Nat.zero_le _) tk1) hdd) (fun f s' q => ?_) fun _ _ x => x
    obtain ⟨⟨h', tk2, rfl⟩, tp, ⟨X2, R2, T2⟩, w', rfl, rw'⟩ := q
    exact ⟨⟨h', tk2, rfl, fun b o e => R2.keep b o e⟩, rw'⟩
  · rename_i σ' hdd
    cases hsp
    refine wpG_mono (hb _ _ _ X X' _ σ' { s with heap := h₁, toks := tk' } .next hA.deeper hE R (Nat.lt_of_le_of_lt (Nat.zero_le _) tk1) hdd) (fun f s' q => ?_) fun _ _ x => x
    obtain ⟨⟨h', tk2, rfl⟩, tp, ⟨X2, R2, T2⟩, rfl⟩ := q
    exact ⟨⟨h', tk2, rfl, fun b o e => R2.keep b o e⟩, rfl⟩
  · cases hsp

/-! the claim's argument -/
theorem ints_of_has {ds : List WData} (h : WShape.has [] (.list ds) (.list .int) = true) : ∃ xs : List Int, ds = xs.map WData.int := by
  obtain ⟨xs, e, h⟩ := hasW_list h
  cases e
  exact items_int h
theorem repL_of_reads {R : WRecords} {cl : Str → Option Addr} {h : Heap} : ∀ {xs : List Int} {vs : List Value} {as : List Addr}, ReadsAllW R cl h vs (xs.map WData.int) as → RepL (fun _ => False) h (xs.map PV.int) vs
  | [], _, _, r => by cases r; rfl
  | x :: xs, _, _, r => by
    cases r with
    | cons r1 r2 => cases r1; exact .cons ⟨_, rfl⟩ (repL_of_reads r2)

theorem join {l : OpenLaw} {q : Program} {loose : List Str} {XP : (Str → Option Value) → Heap → Prop} {YP : World → Heap → Prop} {d : DefRec} {kwd : List (Str × Expr)} {n : Nat} {x : Str} {rest : List Str} {dd : St → Option (St × Out)}
    (hmost : l.most = some 63) (hbound : l.bound = none) (hA : Lv (n + 1) callerA) (hd : d ∈ recsOf q) (hR : FnRec d [x] rest) (hx : d.scope.names.lookup x = some .local)
    (hgl : ∀ w s₀ mg mb h, Ground q loose [] XP w s₀ mg mb h → YP w h → Ctx.Gl ⟨l.prog, w, q, looseW q loose, ExcName.means s₀.heap, mg, mb⟩ h)
    (hb : ∀ w s₀ mg mb h, Ground q loose [] XP w s₀ mg mb h → YP w h → SSs OkG ⟨l.prog, w, q, looseW q loose, ExcName.means s₀.heap, mg, mb⟩ d.scope ([x] ++ rest) n true d.body dd)
    (hpure : ∀ xs : List Int, xs.length ≤ 63 → fnSpec 1 rest.length dd [.list (xs.map .int)] = some (.bool true)) : WalkZ q loose XP YP l.row.toRowW d kwd := by
  intro w s₀ s₁ mg mb Gr Y a o pm cd doc dV kV ho hdata hcd hdf hmg hgens args vals as hpre hlay hreads hwell hlow
  have gl := hgl w s₀ mg mb s₁.heap Gr Y
  obtain ⟨h1, h2⟩ := pre_splitW hpre
  obtain ⟨d1, r1, rfl, e1, e2⟩ := hasAllW_cons h1
  have e3 := hasAllW_nil e2
  subst e3
  cases hreads with
  | cons rr rn =>
    cases rn
    cases rr with
    | list g1 g2 g3 g4 =>
      rename_i la lo lvs ln lxs las
      obtain ⟨xs, rfl⟩ := ints_of_has e1
      have hlen : xs.length ≤ 63 := by
        have h2' : l.pre.holds [] { args := [.list (xs.map WData.int)] } = true := h2
        unfold OpenLaw.pre at h2'
        rw [hmost, hbound] at h2'
        simp [WTm.holds, WTm.value] at h2'
        rcases Nat.lt_or_ge 63 xs.length with q | q
        · have e : less? (WData.int 63) (WData.int (xs.length : Int)) = some true := by simp [less?, Num.less?]; omega
          rw [e] at h2'; cases h2'
        · exact q
      refine wpG_mono (fn_ok1 gok_ok (C := ⟨l.prog, w, q, looseW q loose, ExcName.means s₀.heap, mg, mb⟩) (X := fun _ => False) hd hmg hR hx (hb w s₀ mg mb s₁.heap Gr Y) hA gl (fun _ x => x.elim) (p := .list (xs.map .int)) ⟨la, lvs.toList, rfl, fun x => x, ⟨lo, g1, g2, ln, by simpa using g3⟩, repL_of_reads g4⟩ (hpure xs hlen)) (fun v s' q => ?_) fun _ _ x => x
      obtain ⟨⟨h', tk, rfl, st⟩, rfl⟩ := q
      refine ⟨.inl ⟨.bool true, .bool true, [], rfl, fun cls => rfl, .bool true, ?_, fun _ => ⟨List.nodup_nil, fun a ha => nomatch ha⟩⟩, .of_keep st, rfl, .of_eq hgens⟩
      show (WShape.has [] (.bool true) .bool && (WTm.eq .res (.lit (.bool true))).holds [] _) = true
      simp [WTm.holds, WTm.value, same, WShape.has, WShape.arms]
    | _ => cases e1
noncomputable def isFlt (o : Option Value) (b : UInt64) : Bool := match o with
  | some (.float x t) => x == b && t != 0
  | _ => false
noncomputable def fltsB (o : Option Obj) : Bool := match o with
  | some o => (match o.data with
    | .dict es _ => isFlt (nsFind es "ONE_THIRD") 4599676419421066581 && (isFlt (nsFind es "ONE_SIXTH") 4595172819793696085 && isFlt (nsFind es "TWO_THIRD") 4604180019048437077)
    | _ => false)
  | none => false
noncomputable def noneB (o : Option Obj) : Bool := match o with
  | some o => (match o.data with | .dict es _ => es.isEmpty | _ => false)
  | none => false
/-- what is looked at behind the top: the three thirds, and the empty book of statics -/
noncomputable def seenB (h : Heap) : Bool := fltsB (h.get? mainGlobals) && noneB (h.get? cStatics)
theorem seen_keeps {h h' : Heap} (x : seenB h = true) (k : ∀ b o, h.get? b = some o → h'.get? b = some o) : seenB h' = true := by
  have go : ∀ {f : Option Obj → Bool} {a : Addr}, f none = false → f (h.get? a) = true → f (h'.get? a) = true := fun {f a} h0 h1 => by
    cases e : h.get? a with
    | none => rw [e, h0] at h1; cases h1
    | some o => rw [k a o e, ← e]; exact h1
  obtain ⟨a, b⟩ := Bool.and_eq_true_iff.mp x
  exact Bool.and_eq_true_iff.mpr ⟨go rfl a, go rfl b⟩
noncomputable def hook0 : Hook := ⟨Bool, fun s => seenB s.heap, fun _ => true, fun _ h => seenB h = true, fun _ _ e => e, fun _ _ _ x k => seen_keeps x k⟩
theorem flts_at {h : Heap} {m : Str → Option Value} (x : seenB h = true) (g : h.Ns mainGlobals m) : isFlt (m "ONE_THIRD") 4599676419421066581 = true ∧ isFlt (m "ONE_SIXTH") 4595172819793696085 = true ∧ isFlt (m "TWO_THIRD") 4604180019048437077 = true := by
  obtain ⟨x, _⟩ := Bool.and_eq_true_iff.mp x
  obtain ⟨o, es, ep, e1, e2, _, e3⟩ := g
  rw [e1] at x
  unfold fltsB at x
  simp only [e2, e3] at x
  obtain ⟨a, x⟩ := Bool.and_eq_true_iff.mp x
  exact ⟨a, Bool.and_eq_true_iff.mp x⟩
theorem flt_at {v : Option Value} {b : UInt64} (hk : isFlt v b = true) : ∃ t : Tok, t ≠ 0 ∧ v = some (.float b t) := by
  unfold isFlt at hk
  split at hk
  · rename_i y t
    obtain ⟨h1, h2⟩ := Bool.and_eq_true_iff.mp hk
    have h1 := eq_of_beq h1
    subst h1
    exact ⟨t, by simpa using h2, rfl⟩
  · cases hk
theorem none_booked {h : Heap} (x : seenB h = true) : NoneBooked h := by
  obtain ⟨_, x⟩ := Bool.and_eq_true_iff.mp x
  cases ho : h.get? cStatics with
  | none => rw [ho] at x; cases x
  | some o =>
    rw [ho] at x
    unfold noneB at x
    cases hd : o.data <;> simp only [hd] at x <;> try cases x
    rename_i es n
    have : es = #[] := by simpa using x
    subst this
    exact ⟨fun _ => none, ⟨o, #[], n, ho, hd, fun _ hx => by simp at hx, fun _ => rfl⟩, rfl⟩
structure QFree (q : Program) (loose : List Str) (x : Str) : Prop where
  a : x ∉ startupNames
  b : x ∉ looseW q loose
  c : x ∉ (recsOf q).map (·.name)
  d : x ∉ (litsOf q).map (·.1)
  e : x ∉ (clssOf q (looseW q loose)).map (·.name)
noncomputable def qFreeB (q : Program) (loose : List Str) (xs : List Str) : Bool := xs.all fun x => !(startupNames.contains x) && !((looseW q loose).contains x) && !(((recsOf q).map (·.name)).contains x) && !(((litsOf q).map (·.1)).contains x) && !(((clssOf q (looseW q loose)).map (·.name)).contains x)
theorem qfree_of {q : Program} {loose xs : List Str} (h : qFreeB q loose xs = true) : ∀ x ∈ xs, QFree q loose x := fun x hx => by
  have := List.all_eq_true.mp h x hx
  simp only [Bool.and_eq_true, Bool.not_eq_true', List.contains_eq_mem, decide_eq_false_iff_not] at this
  exact ⟨this.1.1.1.1, this.1.1.1.2, this.1.1.2, this.1.2, this.2⟩

end Mine

end
section
open PySem PySem.W PySem.Calls PyProof.Rows
set_option linter.unusedVariables false
set_option maxRecDepth 100000
namespace Mine
noncomputable def f_byteswap_d : St → Option (St × Out) := dThen (dBa (dCall spLen (dCons (dVar 0) (dNil))) 2) (dThen (dFor [] (dCall spRange (dCons (dConst (.int 0)) (dCons (dCall spLen (dCons (dVar 0) (dNil))) (dCons (dVar 1) (dNil))))) (bName 3) (dThen (dFor [] (dCall spRange (dCons (dVar 1) (dNil))) (bName 4) (dThen (dSet (dItem (dVar 0) (dBin .Add (dVar 3) (dVar 4))) (dBin .Sub (dBin .Sub (dBin .Add (dVar 3) (dVar 1)) (dConst (.int 1))) (dVar 4)) 2) (dEnd))) (dEnd))) (dThen (dRet (dCall spBytes2 (dCons (dVar 2) (dNil)))) (dEnd)))
noncomputable def f_byteswap_sp : List PV → Option PV := fnSpec 2 3 f_byteswap_d

noncomputable def rgb_to_hls_d : St → Option (St × Out) := dThen (dAsg (dCall spMax (dCons (dVar 0) (dCons (dVar 1) (dCons (dVar 2) (dNil))))) 3) (dThen (dAsg (dCall spMin (dCons (dVar 0) (dCons (dVar 1) (dCons (dVar 2) (dNil))))) 4) (dThen (dAsg (dBin .Add (dVar 3) (dVar 4)) 5) (dThen (dAsg (dBin .Sub (dVar 3) (dVar 4)) 6) (dThen (dAsg (dBin .Div (dVar 5) (dConst (.float 4611686018427387904))) 7) (dThen (dTest (dCmp .Eq (dVar 4) (dVar 3)) (dThen (dRet (dSeq .tuple (dCons (dConst (.float 0)) (dCons (dVar 7) (dCons (dConst (.float 0)) (dNil)))))) (dEnd)) (dEnd)) (dThen (dTest (dCmp .LtE (dVar 7) (dConst (.float 4602678819172646912))) (dThen (dAsg (dBin .Div (dVar 6) (dVar 5)) 8) (dEnd)) (dThen (dAsg (dBin .Div (dVar 6) (dBin .Sub (dBin .Sub (dConst (.float 4611686018427387904)) (dVar 3)) (dVar 4))) 8) (dEnd))) (dThen (dAsg (dBin .Div (dBin .Sub (dVar 3) (dVar 0)) (dVar 6)) 9) (dThen (dAsg (dBin .Div (dBin .Sub (dVar 3) (dVar 1)) (dVar 6)) 10) (dThen (dAsg (dBin .Div (dBin .Sub (dVar 3) (dVar 2)) (dVar 6)) 11) (dThen (dTest (dCmp .Eq (dVar 0) (dVar 3)) (dThen (dAsg (dBin .Sub (dVar 11) (dVar 10)) 12) (dEnd)) (dThen (dTest (dCmp .Eq (dVar 1) (dVar 3)) (dThen (dAsg (dBin .Sub (dBin .Add (dConst (.float 4611686018427387904)) (dVar 9)) (dVar 11)) 12) (dEnd)) (dThen (dAsg (dBin .Sub (dBin .Add (dConst (.float 4616189618054758400)) (dVar 10)) (dVar 9)) 12) (dEnd))) (dEnd))) (dThen (dAsg (dBin .Mod (dBin .Div (dVar 12) (dConst (.float 4618441417868443648))) (dConst (.float 4607182418800017408))) 12) (dThen (dRet (dSeq .tuple (dCons (dVar 12) (dCons (dVar 7) (dCons (dVar 8) (dNil)))))) (dEnd)))))))))))))
noncomputable def rgb_to_hls_sp : List PV → Option PV := fnSpec 3 10 rgb_to_hls_d

noncomputable def f_v_d : St → Option (St × Out) := dThen (dAsg (dBin .Mod (dVar 2) (dConst (.float 4607182418800017408))) 2) (dThen (dTest (dCmp .Lt (dVar 2) (dConst (.float 4595172819793696085))) (dThen (dRet (dBin .Add (dVar 0) (dBin .Mult (dBin .Mult (dBin .Sub (dVar 1) (dVar 0)) (dVar 2)) (dConst (.float 4618441417868443648))))) (dEnd)) (dEnd)) (dThen (dTest (dCmp .Lt (dVar 2) (dConst (.float 4602678819172646912))) (dThen (dRet (dVar 1)) (dEnd)) (dEnd)) (dThen (dTest (dCmp .Lt (dVar 2) (dConst (.float 4604180019048437077))) (dThen (dRet (dBin .Add (dVar 0) (dBin .Mult (dBin .Mult (dBin .Sub (dVar 1) (dVar 0)) (dBin .Sub (dConst (.float 4604180019048437077)) (dVar 2))) (dConst (.float 4618441417868443648))))) (dEnd)) (dEnd)) (dThen (dRet (dVar 0)) (dEnd)))))
noncomputable def f_v_sp : List PV → Option PV := fnSpec 3 0 f_v_d

noncomputable def rgb_to_hsv_d : St → Option (St × Out) := dThen (dAsg (dCall spMax (dCons (dVar 0) (dCons (dVar 1) (dCons (dVar 2) (dNil))))) 3) (dThen (dAsg (dCall spMin (dCons (dVar 0) (dCons (dVar 1) (dCons (dVar 2) (dNil))))) 4) (dThen (dAsg (dBin .Sub (dVar 3) (dVar 4)) 5) (dThen (dAsg (dVar 3) 6) (dThen (dTest (dCmp .Eq (dVar 4) (dVar 3)) (dThen (dRet (dSeq .tuple (dCons (dConst (.float 0)) (dCons (dConst (.float 0)) (dCons (dVar 6) (dNil)))))) (dEnd)) (dEnd)) (dThen (dAsg (dBin .Div (dVar 5) (dVar 3)) 7) (dThen (dAsg (dBin .Div (dBin .Sub (dVar 3) (dVar 0)) (dVar 5)) 8) (dThen (dAsg (dBin .Div (dBin .Sub (dVar 3) (dVar 1)) (dVar 5)) 9) (dThen (dAsg (dBin .Div (dBin .Sub (dVar 3) (dVar 2)) (dVar 5)) 10) (dThen (dTest (dCmp .Eq (dVar 0) (dVar 3)) (dThen (dAsg (dBin .Sub (dVar 10) (dVar 9)) 11) (dEnd)) (dThen (dTest (dCmp .Eq (dVar 1) (dVar 3)) (dThen (dAsg (dBin .Sub (dBin .Add (dConst (.float 4611686018427387904)) (dVar 8)) (dVar 10)) 11) (dEnd)) (dThen (dAsg (dBin .Sub (dBin .Add (dConst (.float 4616189618054758400)) (dVar 9)) (dVar 8)) 11) (dEnd))) (dEnd))) (dThen (dAsg (dBin .Mod (dBin .Div (dVar 11) (dConst (.float 4618441417868443648))) (dConst (.float 4607182418800017408))) 11) (dThen (dRet (dSeq .tuple (dCons (dVar 11) (dCons (dVar 7) (dCons (dVar 6) (dNil)))))) (dEnd))))))))))))
noncomputable def rgb_to_hsv_sp : List PV → Option PV := fnSpec 3 9 rgb_to_hsv_d

noncomputable def hsv_to_rgb_d : St → Option (St × Out) := dThen (dTest (dCmp .Eq (dVar 1) (dConst (.float 0))) (dThen (dRet (dSeq .tuple (dCons (dVar 2) (dCons (dVar 2) (dCons (dVar 2) (dNil)))))) (dEnd)) (dEnd)) (dThen (dAsg (dCall spInt (dCons (dBin .Mult (dVar 0) (dConst (.float 4618441417868443648))) (dNil))) 3) (dThen (dAsg (dBin .Sub (dBin .Mult (dVar 0) (dConst (.float 4618441417868443648))) (dVar 3)) 4) (dThen (dAsg (dBin .Mult (dVar 2) (dBin .Sub (dConst (.float 4607182418800017408)) (dVar 1))) 5) (dThen (dAsg (dBin .Mult (dVar 2) (dBin .Sub (dConst (.float 4607182418800017408)) (dBin .Mult (dVar 1) (dVar 4)))) 6) (dThen (dAsg (dBin .Mult (dVar 2) (dBin .Sub (dConst (.float 4607182418800017408)) (dBin .Mult (dVar 1) (dBin .Sub (dConst (.float 4607182418800017408)) (dVar 4))))) 7) (dThen (dAsg (dBin .Mod (dVar 3) (dConst (.int 6))) 3) (dThen (dTest (dCmp .Eq (dVar 3) (dConst (.int 0))) (dThen (dRet (dSeq .tuple (dCons (dVar 2) (dCons (dVar 7) (dCons (dVar 5) (dNil)))))) (dEnd)) (dEnd)) (dThen (dTest (dCmp .Eq (dVar 3) (dConst (.int 1))) (dThen (dRet (dSeq .tuple (dCons (dVar 6) (dCons (dVar 2) (dCons (dVar 5) (dNil)))))) (dEnd)) (dEnd)) (dThen (dTest (dCmp .Eq (dVar 3) (dConst (.int 2))) (dThen (dRet (dSeq .tuple (dCons (dVar 5) (dCons (dVar 2) (dCons (dVar 7) (dNil)))))) (dEnd)) (dEnd)) (dThen (dTest (dCmp .Eq (dVar 3) (dConst (.int 3))) (dThen (dRet (dSeq .tuple (dCons (dVar 5) (dCons (dVar 6) (dCons (dVar 2) (dNil)))))) (dEnd)) (dEnd)) (dThen (dTest (dCmp .Eq (dVar 3) (dConst (.int 4))) (dThen (dRet (dSeq .tuple (dCons (dVar 7) (dCons (dVar 5) (dCons (dVar 2) (dNil)))))) (dEnd)) (dEnd)) (dThen (dTest (dCmp .Eq (dVar 3) (dConst (.int 5))) (dThen (dRet (dSeq .tuple (dCons (dVar 2) (dCons (dVar 5) (dCons (dVar 6) (dNil)))))) (dEnd)) (dEnd)) (dEnd)))))))))))))
noncomputable def hsv_to_rgb_sp : List PV → Option PV := fnSpec 3 5 hsv_to_rgb_d

noncomputable def hls_to_rgb_d : St → Option (St × Out) := dThen (dTest (dCmp .Eq (dVar 2) (dConst (.float 0))) (dThen (dRet (dSeq .tuple (dCons (dVar 1) (dCons (dVar 1) (dCons (dVar 1) (dNil)))))) (dEnd)) (dEnd)) (dThen (dTest (dCmp .LtE (dVar 1) (dConst (.float 4602678819172646912))) (dThen (dAsg (dBin .Mult (dVar 1) (dBin .Add (dConst (.float 4607182418800017408)) (dVar 2))) 3) (dEnd)) (dThen (dAsg (dBin .Sub (dBin .Add (dVar 1) (dVar 2)) (dBin .Mult (dVar 1) (dVar 2))) 3) (dEnd))) (dThen (dAsg (dBin .Sub (dBin .Mult (dConst (.float 4611686018427387904)) (dVar 1)) (dVar 3)) 4) (dThen (dRet (dSeq .tuple (dCons (dCall f_v_sp (dCons (dVar 4) (dCons (dVar 3) (dCons (dBin .Add (dVar 0) (dConst (.float 4599676419421066581))) (dNil))))) (dCons (dCall f_v_sp (dCons (dVar 4) (dCons (dVar 3) (dCons (dVar 0) (dNil))))) (dCons (dCall f_v_sp (dCons (dVar 4) (dCons (dVar 3) (dCons (dBin .Sub (dVar 0) (dConst (.float 4599676419421066581))) (dNil))))) (dNil)))))) (dEnd))))
noncomputable def hls_to_rgb_sp : List PV → Option PV := fnSpec 3 2 hls_to_rgb_d
end Mine

end
section
open PySem PySem.W PySem.Calls PyProof.Rows
set_option linter.unusedVariables false
set_option maxRecDepth 100000
namespace Mine
namespace L1
noncomputable def f_law_row_d : St → Option (St × Out) := dThen (dNew 1) (dThen (dFor [] (dBin .Add (dSlice (dVar 0) (oNone) (oSome (dConst (.int 3))) (oNone)) (dSeq .list (dCons (dConst (.int 289)) (dCons (dConst (.int 37686)) (dCons (dConst (.int 71981)) (dNil)))))) (bName 2) (dThen (dAsg (dBin .Mod (dVar 2) (dConst (.int 1000000))) 3) (dThen (dAsg (dBin .Add (dConst (.int 1)) (dBin .Mod (dVar 3) (dConst (.int 47)))) 4) (dThen (dAsg (dBin .FloorDiv (dVar 3) (dConst (.int 47))) 3) (dThen (whileRun (dCmp .In (dVar 4) (dComp (dVar 1) (bTuple [0, 1, 2]) (dEmit (dCall spAbs (dCons (dVar 0) (dNil)))) 3 [])) (dThen (dAsg (dBin .Add (dConst (.int 1)) (dBin .Mod (dVar 4) (dConst (.int 47)))) 4) (dEnd)) 64) (dThen (dAsg (dBin .Sub (dConst (.int 1)) (dBin .Mult (dConst (.int 2)) (dBin .Mod (dVar 3) (dConst (.int 2))))) 5) (dThen (dAppend (dSeq .tuple (dCons (dBin .Mult (dVar 5) (dVar 4)) (dCons (dBin .Mod (dBin .FloorDiv (dVar 3) (dConst (.int 8))) (dConst (.int 192))) (dCons (dBin .Add (dConst (.int 1)) (dBin .Mod (dBin .FloorDiv (dVar 3) (dConst (.int 2))) (dConst (.int 4)))) (dNil))))) 1) (dEnd)))))))) (dThen (dRet (dVar 1)) (dEnd)))
noncomputable def f_law_row_sp : List PV → Option PV := fnSpec 1 5 f_law_row_d

noncomputable def f_law_octets_d : St → Option (St × Out) := dThen (dNew 3) (dThen (dFor [] (dSeq .list (dCons (dNeg (dConst (.int 32))) (dCons (dConst (.int 0)) (dCons (dConst (.int 32)) (dNil))))) (bName 4) (dThen (dAsg (dBin .Mod (dBin .Sub (dVar 0) (dVar 4)) (dConst (.int 96))) 5) (dThen (dAsg (dCall spMin (dCons (dVar 5) (dCons (dBin .Sub (dConst (.int 96)) (dVar 5)) (dNil)))) 5) (dThen (dAppend (dBin .Add (dVar 1) (dBin .Mult (dVar 2) (dCall spMin (dCons (dConst (.int 16)) (dCons (dCall spMax (dCons (dConst (.int 0)) (dCons (dBin .Sub (dConst (.int 32)) (dVar 5)) (dNil)))) (dNil)))))) 3) (dEnd))))) (dThen (dRet (dVar 3)) (dEnd)))
noncomputable def f_law_octets_sp : List PV → Option PV := fnSpec 3 3 f_law_octets_d

noncomputable def f_law_names_d : St → Option (St × Out) := dThen (dAsg (dBin .Div (dBin .Mod (dBin .Add (dVar 0) (dConst (.int 32))) (dConst (.int 96))) (dConst (.int 96))) 3) (dThen (dAsg (dBin .Add (dVar 1) (dBin .Mult (dConst (.int 16)) (dVar 2))) 4) (dThen (dAsg (dBin .Add (dVar 1) (dVar 4)) 5) (dThen (dAsg (dBin .Div (dBin .Mult (dConst (.int 16)) (dVar 2)) (dCall spMin (dCons (dVar 5) (dCons (dBin .Sub (dConst (.int 512)) (dVar 5)) (dNil))))) 6) (dThen (dRet (dSeq .tuple (dCons (dSeq .tuple (dCons (dVar 3) (dCons (dBin .Div (dBin .Mult (dConst (.int 16)) (dVar 2)) (dVar 4)) (dCons (dBin .Div (dVar 4) (dConst (.int 256))) (dNil))))) (dCons (dSeq .tuple (dCons (dVar 3) (dCons (dBin .Div (dVar 5) (dConst (.int 512))) (dCons (dVar 6) (dNil))))) (dNil))))) (dEnd)))))
noncomputable def f_law_names_sp : List PV → Option PV := fnSpec 3 4 f_law_names_d

noncomputable def f_law_told_d : St → Option (St × Out) := dThen (dTest (dOr [dNot (dVal (dIsB (dVar 0))), dCmp .NotEq (dCall spLen (dCons (dVar 0) (dNil))) (dBin .Mult (dConst (.int 3)) (dCall spLen (dCons (dVar 1) (dNil))))]) (dThen (dRet (dConst (.bool false))) (dEnd)) (dEnd)) (dThen (dFor [] (dCall spRange (dCons (dCall spLen (dCons (dVar 1) (dNil))) (dNil))) (bName 2) (dThen (dAsgT (dItem (dVar 1) (dVar 2)) (bTuple [3, 4, 5])) (dThen (dAsg (dCall spList (dCons (dSlice (dVar 0) (oSome (dBin .Mult (dConst (.int 3)) (dVar 2))) (oSome (dBin .Add (dBin .Mult (dConst (.int 3)) (dVar 2)) (dConst (.int 3)))) (oNone)) (dNil))) 6) (dThen (dTest (dCmp .NotEq (dVar 6) (dCall f_law_octets_sp (dCons (dVar 3) (dCons (dVar 4) (dCons (dVar 5) (dNil)))))) (dThen (dRet (dConst (.bool false))) (dEnd)) (dEnd)) (dThen (dAsgT (dComp (dVar 6) (bName 0) (dEmit (dBin .Div (dVar 0) (dConst (.int 256)))) 1 []) (bTuple [7, 8, 9])) (dThen (dAsg (dSeq .tuple (dCons (dCall rgb_to_hsv_sp (dCons (dVar 7) (dCons (dVar 8) (dCons (dVar 9) (dNil))))) (dCons (dCall rgb_to_hls_sp (dCons (dVar 7) (dCons (dVar 8) (dCons (dVar 9) (dNil))))) (dNil)))) 10) (dThen (dTest (dCmp .NotEq (dVar 10) (dCall f_law_names_sp (dCons (dVar 3) (dCons (dVar 4) (dCons (dVar 5) (dNil)))))) (dThen (dRet (dConst (.bool false))) (dEnd)) (dEnd)) (dEnd)))))))) (dThen (dRet (dConst (.bool true))) (dEnd)))
noncomputable def f_law_told_sp : List PV → Option PV := fnSpec 2 9 f_law_told_d

noncomputable def f_law_seen_d : St → Option (St × Out) := dThen (dNew 1) (dThen (dFor [] (dCall spRange (dCons (dConst (.int 0)) (dCons (dCall spLen (dCons (dVar 0) (dNil))) (dCons (dConst (.int 3)) (dNil))))) (bName 2) (dThen (dAsgT (dComp (dSlice (dVar 0) (oSome (dVar 2)) (oSome (dBin .Add (dVar 2) (dConst (.int 3)))) (oNone)) (bName 0) (dEmit (dBin .Div (dVar 0) (dConst (.int 256)))) 1 []) (bTuple [3, 4, 5])) (dThen (dAppend (dBin .Sub (dBin .Mod (dBin .Add (dCall spRound (dCons (dBin .Mult (dConst (.int 96)) (dItem (dCall rgb_to_hsv_sp (dCons (dVar 3) (dCons (dVar 4) (dCons (dVar 5) (dNil))))) (dConst (.int 0)))) (dNil))) (dConst (.int 16))) (dConst (.int 96))) (dConst (.int 48))) 1) (dEnd)))) (dThen (dRet (dVar 1)) (dEnd)))
noncomputable def f_law_seen_sp : List PV → Option PV := fnSpec 1 5 f_law_seen_d

noncomputable def f_law_painted_d : St → Option (St × Out) := dThen (dNew 1) (dThen (dNew 2) (dThen (dFor [] (dVar 0) (bTuple [3, 4, 5]) (dThen (dAsgT (dCall f_law_names_sp (dCons (dVar 3) (dCons (dVar 4) (dCons (dVar 5) (dNil))))) (bTuple [6, 7])) (dThen (dExtend (dComp (dCall hsv_to_rgb_sp (dCons (dItem (dVar 6) (dConst (.int 0))) (dCons (dItem (dVar 6) (dConst (.int 1))) (dCons (dItem (dVar 6) (dConst (.int 2))) (dNil))))) (bName 0) (dEmit (dCall spRound (dCons (dBin .Mult (dConst (.int 256)) (dVar 0)) (dNil)))) 1 []) 1) (dThen (dExtend (dComp (dCall hls_to_rgb_sp (dCons (dItem (dVar 7) (dConst (.int 0))) (dCons (dItem (dVar 7) (dConst (.int 1))) (dCons (dItem (dVar 7) (dConst (.int 2))) (dNil))))) (bName 0) (dEmit (dCall spRound (dCons (dBin .Mult (dConst (.int 256)) (dVar 0)) (dNil)))) 1 []) 2) (dEnd))))) (dThen (dRet (dSeq .tuple (dCons (dVar 1) (dCons (dVar 2) (dNil))))) (dEnd))))
noncomputable def f_law_painted_sp : List PV → Option PV := fnSpec 1 7 f_law_painted_d

noncomputable def law_d : St → Option (St × Out) := dThen (dAsg (dCall f_law_row_sp (dCons (dVar 0) (dNil))) 1) (dThen (dAsg (dCall spBytes2 (dCons (dComp (dVar 1) (bTuple [0, 1, 2]) (dInner (dCall f_law_octets_sp (dCons (dVar 0) (dCons (dVar 1) (dCons (dVar 2) (dNil))))) (bName 0) (dVar 0) 1) 3 []) (dNil))) 2) (dThen (dAsg (dVar 2) 3) (dThen (dTest (dOr [dNot (dVal (dCall f_law_told_sp (dCons (dVar 2) (dCons (dVar 1) (dNil))))), dCmp .NotEq (dCall f_law_painted_sp (dCons (dVar 1) (dNil))) (dSeq .tuple (dCons (dCall spList (dCons (dVar 2) (dNil))) (dCons (dCall spList (dCons (dVar 2) (dNil))) (dNil))))]) (dThen (dRet (dConst (.bool false))) (dEnd)) (dEnd)) (dThen (dAsg (dVar 1) 4) (dThen (dNew 5) (dThen (dFor [] (dCall spRange (dCons (dCall spLen (dCons (dVar 1) (dNil))) (dCons (dConst (.int 0)) (dCons (dNeg (dConst (.int 1))) (dNil))))) (bName 6) (dThen (dAsg (dSlice (dCall f_law_seen_sp (dCons (dVar 2) (dNil))) (oNone) (oSome (dVar 6)) (oNone)) 7) (dThen (dAsgC true (dComp (dVar 7) (bName 0) (dEmit (dCall spAbs (dCons (dVar 0) (dNil)))) 1 []) 8) (dThen (dIndex (dCall spMax (dCons (dVar 8) (dNil))) 9 8) (dThen (dAsg (dItem (dVar 7) (dVar 9)) 10) (dThen (dNew 11) (dThen (dTest (dOr [dCmp .Lt (dVar 9) (dBin .Sub (dVar 6) (dConst (.int 1))), dCmp .Lt (dVar 10) (dConst (.int 0))]) (dThen (dTest (dCmp .Gt (dVar 9) (dConst (.int 0))) (dThen (dAppend (dBin .Add (dVar 9) (dConst (.int 1))) 11) (dThen (dAsg (dNeg (dVar 10)) 10) (dEnd))) (dEnd)) (dThen (dTest (dCmp .Gt (dVar 10) (dConst (.int 0))) (dThen (dAppend (dConst (.int 1)) 11) (dEnd)) (dEnd)) (dThen (dAppend (dVar 6) 11) (dEnd)))) (dEnd)) (dThen (dFor [11] (dVar 11) (bName 12) (dThen (dAsg (dBin .Add (dCall f_byteswap_sp (dCons (dSlice (dVar 2) (oNone) (oSome (dBin .Mult (dConst (.int 3)) (dVar 12))) (oNone)) (dCons (dBin .Mult (dConst (.int 3)) (dVar 12)) (dNil)))) (dSlice (dVar 2) (oSome (dBin .Mult (dConst (.int 3)) (dVar 12))) (oNone) (oNone))) 2) (dThen (dAsg (dBin .Add (dComp (dSlice (dSlice (dVar 4) (oNone) (oSome (dVar 12)) (oNone)) (oNone) (oNone) (oSome (dNeg (dConst (.int 1))))) (bTuple [0, 1, 2]) (dEmit (dSeq .tuple (dCons (dNeg (dVar 0)) (dCons (dVar 1) (dCons (dVar 2) (dNil)))))) 3 []) (dSlice (dVar 4) (oSome (dVar 12)) (oNone) (oNone))) 4) (dThen (dTest (dNot (dVal (dCall f_law_told_sp (dCons (dVar 2) (dCons (dVar 4) (dNil)))))) (dThen (dRet (dConst (.bool false))) (dEnd)) (dEnd)) (dEnd))))) (dThen (dExtend (dVar 11) 5) (dEnd)))))))))) (dThen (dAsg (dCall f_law_painted_sp (dCons (dCall spSorted (dCons (dComp (dVar 1) (bTuple [0, 1, 2]) (dEmit (dSeq .tuple (dCons (dCall spAbs (dCons (dVar 0) (dNil))) (dCons (dVar 1) (dCons (dVar 2) (dNil)))))) 3 []) (dNil))) (dNil))) 13) (dThen (dTest (dCmp .NotEq (dVar 13) (dSeq .tuple (dCons (dCall spList (dCons (dVar 2) (dNil))) (dCons (dCall spList (dCons (dVar 2) (dNil))) (dNil))))) (dThen (dRet (dConst (.bool false))) (dEnd)) (dEnd)) (dThen (dAsg (dCall spBytes2 (dCons (dItem (dVar 13) (dConst (.int 0))) (dNil))) 14) (dThen (dFor [5] (dSlice (dVar 5) (oNone) (oNone) (oSome (dNeg (dConst (.int 1))))) (bName 12) (dThen (dAsg (dBin .Add (dCall f_byteswap_sp (dCons (dSlice (dVar 14) (oNone) (oSome (dBin .Mult (dConst (.int 3)) (dVar 12))) (oNone)) (dCons (dBin .Mult (dConst (.int 3)) (dVar 12)) (dNil)))) (dSlice (dVar 14) (oSome (dBin .Mult (dConst (.int 3)) (dVar 12))) (oNone) (oNone))) 14) (dEnd))) (dThen (dRet (dCmpV .Eq (dVar 14) (dVar 3))) (dEnd))))))))))))
noncomputable def law_sp : List PV → Option PV := fnSpec 1 14 law_d
end L1
end Mine

end
section
open PySem PySem.W PySem.Calls PyProof.Rows
set_option linter.unusedVariables false
set_option maxRecDepth 100000
namespace Mine
namespace L2
end L2
end Mine

end
section
open PySem PySem.W PySem.Calls PyProof.Rows
set_option linter.unusedVariables false
set_option maxRecDepth 100000
namespace Mine
section
variable {σ σ' : St} {d d1 d2 : St → Option PV} {k a b : St → Option (St × Out)} {R : Option (St × Out)} {v : PV} {i : Nat} {t : St → Option Bool}
theorem st_asg (h : d σ = some v) (hk : k (σ.set i (.fz v)) = R) : dThen (dAsg d i) k σ = R := by
  show (match (d σ).map fun v => (σ.set i (.fz v), Out.next) with | some (σ', .next) => k σ' | some (σ', .ret v) => some (σ', .ret v) | none => none) = R
  rw [h]; exact hk
theorem st_asgT {bd : PV → St → Option St} (h : d σ = some v) (hb : bd v σ = some σ') (hk : k σ' = R) : dThen (dAsgT d bd) k σ = R := by
  have e : dAsgT d bd σ = some (σ', .next) := by unfold dAsgT; rw [h]; show (bd v σ).map _ = _; rw [hb]; rfl
  unfold dThen; rw [e]; exact hk
theorem st_ret (h : d (viewB σ) = some v) : dThen (dRet d) k σ = some (σ, .ret v) := by
  have e : dRet d σ = some (σ, .ret v) := by unfold dRet; rw [h]; rfl
  unfold dThen; rw [e]
theorem dThen_assoc : dThen (dThen a b) k σ = dThen a (dThen b k) σ := by
  unfold dThen
  cases a σ with
  | none => rfl
  | some p => obtain ⟨s, o⟩ := p; cases o <;> rfl
theorem st_assoc (h : dThen a (dThen b k) σ = R) : dThen (dThen a b) k σ = R := by rw [dThen_assoc]; exact h
theorem st_end (h : k σ = R) : dThen dEnd k σ = R := h
theorem st_if {c : Bool} (h : t (viewB σ) = some c) (hk : dThen (if c = true then a else b) k σ = R) : dThen (dTest t a b) k σ = R := by
  have e : dTest t a b σ = (if c = true then a else b) σ := by unfold dTest; rw [h]; show (if c = true then a σ else b σ) = _; cases c <;> rfl
  unfold dThen at hk ⊢; rw [e]; exact hk
theorem st_ifT (h : t (viewB σ) = some true) (hk : dThen a k σ = R) : dThen (dTest t a b) k σ = R := st_if h hk
theorem st_ifF (h : t (viewB σ) = some false) (hk : dThen b k σ = R) : dThen (dTest t a b) k σ = R := st_if h hk
theorem st_new (hk : k (σ.set i (.ol [])) = R) : dThen (dNew i) k σ = R := hk
theorem st_app {xs : List PV} (hs : σ[i]? = some (.ol xs)) (h : d σ = some v) (hl : xs.length < 16777216) (hk : k (σ.set i (.ol (xs ++ [v]))) = R) : dThen (dAppend d i) k σ = R := by
  have e : dAppend d i σ = some (σ.set i (.ol (xs ++ [v])), .next) := by unfold dAppend; rw [hs]; show (d σ).bind _ = _; rw [h]; show (if _ then _ else _) = _; rw [if_pos hl]
  unfold dThen; rw [e]; exact hk
theorem st_ext {xs ys : List PV} (hs : σ[i]? = some (.ol xs)) (h : d σ = some (.list ys)) (hl : xs.length + ys.length ≤ 16777216) (hk : k (σ.set i (.ol (xs ++ ys))) = R) : dThen (dExtend d i) k σ = R := by
  have e : dExtend d i σ = some (σ.set i (.ol (xs ++ ys)), .next) := by unfold dExtend; rw [hs]; show (d σ).bind _ = _; rw [h]; show (if _ then _ else _) = _; rw [if_pos hl]
  unfold dThen; rw [e]; exact hk
theorem st_asgC {own : Bool} {zs : List PV} (h : d σ = some (.list zs)) (hk : k (σ.set i (if own = true then .ol zs else .fz (.list zs))) = R) : dThen (dAsgC own d i) k σ = R := by
  have e : dAsgC own d i σ = some (σ.set i (if own = true then .ol zs else .fz (.list zs)), .next) := by unfold dAsgC; rw [h]; rfl
  unfold dThen; rw [e]; exact hk
/-- a loop: what is left of it, and the state -/
theorem forRun_rel {bd : PV → St → Option St} {db : St → Option (St × Out)} (P : List PV → St → Prop) (hs : ∀ x rest σ, P (x :: rest) σ → ∃ σ1 σ2, bd x σ = some σ1 ∧ db σ1 = some (σ2, .next) ∧ P rest σ2) :
    ∀ xs σ, P xs σ → ∃ σ', forRun bd db xs σ = some (σ', .next) ∧ P [] σ'
  | [], σ, h => ⟨σ, rfl, h⟩
  | x :: xs, σ, h => by
    obtain ⟨σ1, σ2, h1, h2, h3⟩ := hs x xs σ h
    obtain ⟨σ', h4, h5⟩ := forRun_rel P hs xs σ2 h3
    refine ⟨σ', ?_, h5⟩
    show (bd x σ).bind _ = _
    rw [h1]
    show (match db σ1 with | some (σ2, .next) => forRun bd db xs σ2 | some (σ2, .ret v) => some (σ2, .ret v) | none => none) = _
    rw [h2]; exact h4
theorem st_fn {kk r : Nat} {D : St → Option (St × Out)} {ps : List PV} {s' : St} (hl : ps.length = kk) (h : D (initSt ps r) = some (s', .ret v)) : fnSpec kk r D ps = some v := by
  unfold fnSpec; rw [if_pos hl, h]

/-- ends with a value -/
noncomputable def Ret (w : PV) (o : Option (St × Out)) : Prop := ∃ s, o = some (s, .ret w)
theorem rt {w : PV} {X X' : Option (St × Out)} (e : X = X') (h : Ret w X') : Ret w X := e ▸ h
section
variable {w : PV}
theorem r_asg (h : d σ = some v) (hk : Ret w (k (σ.set i (.fz v)))) : Ret w (dThen (dAsg d i) k σ) := rt (st_asg h rfl) hk
theorem r_ret (h : d (viewB σ) = some w) : Ret w (dThen (dRet d) k σ) := ⟨_, st_ret h⟩
theorem r_assoc (h : Ret w (dThen a (dThen b k) σ)) : Ret w (dThen (dThen a b) k σ) := rt (st_assoc rfl) h
theorem r_end (h : Ret w (k σ)) : Ret w (dThen dEnd k σ) := h
theorem r_if {c : Bool} (h : t (viewB σ) = some c) (hk : Ret w (dThen (if c = true then a else b) k σ)) : Ret w (dThen (dTest t a b) k σ) := rt (st_if h rfl) hk
theorem r_ifT (h : t (viewB σ) = some true) (hk : Ret w (dThen a k σ)) : Ret w (dThen (dTest t a b) k σ) := rt (st_ifT h rfl) hk
theorem r_ifF (h : t (viewB σ) = some false) (hk : Ret w (dThen b k σ)) : Ret w (dThen (dTest t a b) k σ) := rt (st_ifF h rfl) hk
theorem r_new (hk : Ret w (k (σ.set i (.ol [])))) : Ret w (dThen (dNew i) k σ) := hk
theorem r_for {fz : List Nat} {bd : PV → St → Option St} {db : St → Option (St × Out)} {xs : List PV} (h : d (frAll fz σ) = some v) (hi : pvIter v = some xs) (P : List PV → St → Prop)
    (h0 : P xs (frAll fz σ)) (hs : ∀ x rest σ, P (x :: rest) σ → ∃ σ1 σ2, bd x σ = some σ1 ∧ db σ1 = some (σ2, .next) ∧ P rest σ2) (hk : ∀ σ', P [] σ' → Ret w (k σ')) : Ret w (dThen (dFor fz d bd db) k σ) := by
  obtain ⟨σ', h1, h2⟩ := forRun_rel P hs xs _ h0
  have e : dFor fz d bd db σ = some (σ', .next) := by unfold dFor; rw [h]; show (pvIter v).bind _ = _; rw [hi]; exact h1
  have := hk σ' h2
  unfold dThen; rw [e]; exact this
theorem r_fn {kk r : Nat} {D : St → Option (St × Out)} {ps : List PV} (hl : ps.length = kk) (h : Ret w (D (initSt ps r))) : fnSpec kk r D ps = some w := let ⟨s, h⟩ := h; st_fn hl h
end
theorem frame_of {fz : List Nat} {bd : PV → St → Option St} {db : St → Option (St × Out)} {xs : List PV} (h : d (frAll fz σ) = some v) (hi : pvIter v = some xs) (hf : forRun bd db xs (frAll fz σ) = some (σ', .next)) (hk : k σ' = R) : dThen (dFor fz d bd db) k σ = R := by
  have e : dFor fz d bd db σ = some (σ', .next) := by unfold dFor; rw [h]; show (pvIter v).bind _ = _; rw [hi]; exact hf
  unfold dThen; rw [e]; exact hk

/-! expressions -/
theorem ev_bin {op : Operator} {x y : PV} (h1 : d1 σ = some x) (h2 : d2 σ = some y) (h : pvBin op x y = some v) : dBin op d1 d2 σ = some v := by unfold dBin; rw [h1]; show (d2 σ).bind _ = _; rw [h2]; exact h
theorem ev_cmp {op : CmpOp} {x y : PV} {c : Bool} (h1 : d1 σ = some x) (h2 : d2 σ = some y) (h : pvCmp op x y = some c) : dCmp op d1 d2 σ = some c := by unfold dCmp; rw [h1]; show (d2 σ).bind _ = _; rw [h2]; exact h
theorem ev_cmpV {op : CmpOp} {x y : PV} {c : Bool} (h1 : d1 σ = some x) (h2 : d2 σ = some y) (h : pvCmp op x y = some c) : dCmpV op d1 d2 σ = some (.bool c) := by unfold dCmpV; rw [ev_cmp h1 h2 h]; rfl
theorem ev_call {sp : List PV → Option PV} {ds : St → Option (List PV)} {ps : List PV} (h : ds σ = some ps) (hs : sp ps = some v) : dCall sp ds σ = some v := by unfold dCall; rw [h]; exact hs
theorem ev_cons {ds : St → Option (List PV)} {ps : List PV} (h : d σ = some v) (hs : ds σ = some ps) : dCons d ds σ = some (v :: ps) := by unfold dCons; rw [h]; show (ds σ).bind _ = _; rw [hs]; rfl
theorem ev_seq {f : List PV → PV} {ds : St → Option (List PV)} {ps : List PV} (hs : ds σ = some ps) (hl : ps.length ≤ 16777216) : dSeq f ds σ = some (f ps) := by unfold dSeq; rw [hs]; show (if _ then _ else _) = _; rw [if_pos hl]
theorem ev_item {x y : PV} (h1 : d1 σ = some x) (h2 : d2 σ = some y) (h : pvItem x y = some v) : dItem d1 d2 σ = some v := by unfold dItem; rw [h1]; show (d2 σ).bind _ = _; rw [h2]; exact h
theorem ev_slice {lo hi st : St → Option (Option Int)} {x : PV} {p q r : Option Int} (h : d σ = some x) (h1 : lo σ = some p) (h2 : hi σ = some q) (h3 : st σ = some r) (hv : pvSlice x p q r = some v) : dSlice d lo hi st σ = some v := by
  unfold dSlice; rw [h]; show (lo σ).bind _ = _; rw [h1]; show (hi σ).bind _ = _; rw [h2]; show (st σ).bind _ = _; rw [h3]; exact hv
theorem ev_osome {i : Int} (h : d σ = some (.int i)) : oSome d σ = some (some i) := by unfold oSome; rw [h]; rfl
theorem ev_emit (h : d σ = some v) : dEmit d σ = some [v] := by unfold dEmit; rw [h]; rfl
theorem ev_or1 {ts : List (St → Option Bool)} (h : t σ = some true) : dOr (t :: ts) σ = some true := by unfold dOr; rw [h]; rfl
theorem ev_or0 {ts : List (St → Option Bool)} {c : Bool} (h : t σ = some false) (hr : dOr ts σ = some c) : dOr (t :: ts) σ = some c := by unfold dOr; rw [h]; exact hr
theorem ev_not {c : Bool} (h : t σ = some c) : dNot t σ = some !c := by unfold dNot; rw [h]; rfl
theorem ev_val {c : Bool} (h : d σ = some (.bool c)) : dVal d σ = some c := by unfold dVal; rw [h]; rfl
end
theorem mulI {a b : Int} (h : a.natAbs < big64 ∨ b.natAbs < big64) : pvBin .Mult (.int a) (.int b) = some (.int (a * b)) := if_pos h
theorem modI {a b : Int} (h : 0 < b) : pvBin .Mod (.int a) (.int b) = some (.int (a % b)) := by
  show (if b ≠ 0 then some (PV.int (a.fmod b)) else none) = _
  rw [if_pos (by omega), Int.fmod_eq_emod_of_nonneg _ (by omega)]
theorem fdivI {a b : Int} (h : 0 < b) (h1 : b < 1073741824) : pvBin .FloorDiv (.int a) (.int b) = some (.int (a / b)) := by
  show (if b ≠ 0 ∧ b.natAbs < 1073741824 then some (PV.int (a.fdiv b)) else none) = _
  rw [if_pos (by omega), Int.fdiv_eq_ediv_of_nonneg _ (by omega)]
end Mine

end
section
open PySem PySem.W PySem.Calls PyProof.Rows
set_option linter.unusedVariables false
set_option maxRecDepth 100000
namespace Mine
open PySem.Float64

theorem dist_pos {a b : Nat} : Float64.dist a b = 0 ↔ a = b := by unfold Float64.dist; omega
theorem dist_scale {c a b : Nat} : c * Float64.dist a b = Float64.dist (c * a) (c * b) := (dist_mul c a b).symm

theorem near_eq {W D t t' : Nat} (hD : 0 < D) (h1 : ∀ u, Float64.dist W (D * V t) ≤ Float64.dist W (D * V u) ∧ (V u ≠ V t → Float64.dist W (D * V t) = Float64.dist W (D * V u) → t % 2 = 0))
    (h2 : ∀ u, Float64.dist W (D * V t') ≤ Float64.dist W (D * V u) ∧ (V u ≠ V t' → Float64.dist W (D * V t') = Float64.dist W (D * V u) → t' % 2 = 0)) (hlt : t < t') : False := by
  have e : Float64.dist W (D * V t) = Float64.dist W (D * V t') := Nat.le_antisymm (h1 t').1 (h2 t).1
  have ne : V t < V t' := V_lt hlt
  have p1 := (h1 t').2 (by omega) e
  have p2 := (h2 t).2 (by omega) e.symm
  have m1 := V_lt (show t < t + 1 by omega)
  have m2 : V (t + 1) < V t' := V_lt (by omega)
  have g1 : D * V t < D * V (t + 1) := Nat.mul_lt_mul_of_pos_left m1 hD
  have g2 : D * V (t + 1) < D * V t' := Nat.mul_lt_mul_of_pos_left m2 hD
  have b := (h1 (t + 1)).1
  unfold Float64.dist at e b
  omega
theorem right_unique {r r' : UInt64} {neg : Bool} {W D W' D' : Nat} (h : Right r neg W D) (h' : Right r' neg W' D') (hD : 0 < D) (hD' : 0 < D') (e : W * D' = W' * D) : r = r' := by
  obtain ⟨t, rfl, a1, a2, a3⟩ := h
  obtain ⟨t', rfl, b1, b2, b3⟩ := h'
  have over : t = infMag ↔ t' = infMag := by
    rw [a2, b2]
    generalize (2 ^ 54 - 1) * 2 ^ 2045 = c
    constructor
    · intro q
      refine Nat.le_of_mul_le_mul_left (c := D) ?_ hD
      calc D * (D' * c) = D' * (D * c) := by ac_rfl
        _ ≤ D' * (2 * W) := Nat.mul_le_mul_left _ q
        _ = 2 * (W * D') := by ac_rfl
        _ = D * (2 * W') := by rw [e]; ac_rfl
    · intro q
      refine Nat.le_of_mul_le_mul_left (c := D') ?_ hD'
      calc D' * (D * c) = D * (D' * c) := by ac_rfl
        _ ≤ D * (2 * W') := Nat.mul_le_mul_left _ q
        _ = 2 * (W' * D) := by ac_rfl
        _ = D' * (2 * W) := by rw [← e]; ac_rfl
  by_cases q : t = infMag
  · rw [q, over.mp q]
  · have q' : t' ≠ infMag := fun z => q (over.mpr z)
    have n1 := a3 (by omega)
    have n2 := b3 (by omega)
    have sc : ∀ u, D' * Float64.dist W (D * V u) = D * Float64.dist W' (D' * V u) := fun u => by
      rw [dist_scale, dist_scale, show D' * W = D * W' by rw [Nat.mul_comm, e, Nat.mul_comm], show D' * (D * V u) = D * (D' * V u) by ac_rfl]
    have n2' : ∀ u, Float64.dist W (D * V t') ≤ Float64.dist W (D * V u) ∧ (V u ≠ V t' → Float64.dist W (D * V t') = Float64.dist W (D * V u) → t' % 2 = 0) := fun u => by
      refine ⟨Nat.le_of_mul_le_mul_left (c := D') ?_ hD', fun x y => (n2 u).2 x (Nat.eq_of_mul_eq_mul_left hD ?_)⟩
      · rw [sc, sc]; exact Nat.mul_le_mul_left _ (n2 u).1
      · rw [← sc, ← sc, y]
    rcases Nat.lt_trichotomy t t' with z | z | z
    · exact (near_eq hD n1 n2' z).elim
    · rw [z]
    · exact (near_eq hD n2' n1 z).elim

theorem V_infMag : V infMag = 2 ^ 2098 := by
  have e : infMag = 2046 * 2 ^ 52 + 2 ^ 52 := by unfold infMag; omega
  rw [e, V_at (by decide) (.inl (Nat.le_refl _)), ← Nat.pow_add]
theorem lt_infMag {t : Nat} (h : V t < 2 ^ 2098) : t < infMag := by
  rcases Nat.lt_or_ge t infMag with q | q
  · exact q
  · have := V_mono q; rw [V_infMag] at this; omega
theorem rep_exists : ∀ (k i : Nat), i ≤ 2 ^ 53 → ∃ t, V t = i * 2 ^ k
  | 0, i, h => ⟨0 * 2 ^ 52 + i, V_at h (.inr rfl)⟩
  | k + 1, i, h => by
    by_cases q : 2 ^ 52 ≤ i
    · exact ⟨_, V_at h (.inl q)⟩
    · obtain ⟨t, e⟩ := rep_exists k (2 * i) (by omega)
      exact ⟨t, by rw [e, Nat.pow_succ]; ac_rfl⟩

/-- a representable value is met -/
theorem right_exact {r : UInt64} {neg : Bool} {W D t : Nat} (h : Right r neg W D) (hD : 0 < D) (e : W = D * V t) (ht : t < infMag) : r = pack neg t := by
  have h0 : Right (pack neg t) neg W D := by
    refine ⟨t, rfl, Nat.le_of_lt ht, ⟨fun q => by omega, fun q => ?_⟩, fun _ u => ?_⟩
    · exfalso
      rw [e, show 2 * (D * V t) = D * (2 * V t) by ac_rfl] at q
      have q := Nat.le_of_mul_le_mul_left q hD
      have h1 : t ≤ 2045 * 2 ^ 52 + (2 ^ 53 - 1) := by unfold infMag at ht; omega
      have h2 := V_mono h1
      rw [V_at (by decide) (.inl (by decide))] at h2
      have h3 : 2 * ((2 ^ 53 - 1) * 2 ^ 2045) < (2 ^ 54 - 1) * 2 ^ 2045 := by
        rw [← Nat.mul_assoc]
        exact Nat.mul_lt_mul_of_pos_right (by decide) (Nat.two_pow_pos _)
      omega
    · rw [e]
      have z : Float64.dist (D * V t) (D * V t) = 0 := dist_pos.mpr rfl
      rw [z]
      refine ⟨Nat.zero_le _, fun x y => ?_⟩
      exact absurd (Nat.eq_of_mul_eq_mul_left hD (dist_pos.mp y.symm)).symm x
  exact right_unique h h0 hD hD rfl
/-- the error of a rounding -/
theorem right_err {r : UInt64} {neg : Bool} {W D k : Nat} (h : Right r neg W D) (hD : 0 < D) (hk : k ≤ 2040) (hW : W ≤ D * 2 ^ (53 + k)) : ∃ t, t < infMag ∧ r = pack neg t ∧ 2 * Float64.dist W (D * V t) ≤ D * 2 ^ k := by
  obtain ⟨t, rfl, a1, a2, a3⟩ := h
  have hp : 0 < D * 2 ^ k := Nat.mul_pos hD (Nat.two_pow_pos _)
  let i := (2 * W + D * 2 ^ k) / (2 * (D * 2 ^ k))
  have hi : i ≤ 2 ^ 53 := by
    have : i < 2 ^ 53 + 1 := by
      refine (Nat.div_lt_iff_lt_mul (by omega)).mpr ?_
      have e1 : D * 2 ^ (53 + k) = 2 ^ 53 * (D * 2 ^ k) := by rw [Nat.pow_add]; ac_rfl
      rw [e1] at hW
      generalize D * 2 ^ k = z at *
      omega
    omega
  obtain ⟨u, hu⟩ := rep_exists k i hi
  have hd : 2 * Float64.dist W (D * V u) ≤ D * 2 ^ k := by
    rw [hu, show D * (i * 2 ^ k) = i * (D * 2 ^ k) by ac_rfl]
    have h1 : 2 * (D * 2 ^ k) * i ≤ 2 * W + D * 2 ^ k := Nat.mul_div_le _ _
    have h2 : 2 * W + D * 2 ^ k < 2 * (D * 2 ^ k) * (i + 1) := Nat.lt_mul_div_succ _ (by omega)
    generalize D * 2 ^ k = z at *
    have e1 : 2 * z * i = 2 * (i * z) := by ac_rfl
    have e2 : 2 * z * (i + 1) = 2 * (i * z) + 2 * z := by rw [Nat.mul_add, e1, Nat.mul_one]
    rw [e1] at h1
    rw [e2] at h2
    unfold Float64.dist
    omega
  have hfin : t < infMag := by
    rcases Nat.lt_or_ge t infMag with q | q
    · exact q
    · have q : t = infMag := by omega
      have q := a2.mp q
      have h1 : D * 2 ^ (53 + k) ≤ D * 2 ^ 2093 := Nat.mul_le_mul_left _ (Nat.pow_le_pow_right (by decide) (by omega))
      have h2 : D * (2 * 2 ^ 2093) < D * ((2 ^ 54 - 1) * 2 ^ 2045) := by
        refine Nat.mul_lt_mul_of_pos_left ?_ hD
        rw [show (2093 : Nat) = 48 + 2045 from rfl, Nat.pow_add, ← Nat.mul_assoc]
        exact Nat.mul_lt_mul_of_pos_right (by decide) (Nat.two_pow_pos _)
      have h3 : D * (2 * 2 ^ 2093) = 2 * (D * 2 ^ 2093) := by ac_rfl
      omega
  exact ⟨t, hfin, rfl, Nat.le_trans (Nat.mul_le_mul_left 2 (a3 hfin u).1) hd⟩
end Mine

end
section
open PySem PySem.W PySem.Calls PyProof.Rows
set_option linter.unusedVariables false
set_option maxRecDepth 100000
namespace Mine
open PySem.Float64

noncomputable def KN : Nat := 2 ^ 1074
theorem KN_pos : 0 < KN := Nat.two_pow_pos _
theorem KN_eq : (2 : Nat) ^ 1074 = KN := rfl
noncomputable def KK : Rat := (KN : Rat)
theorem KK_pos : 0 < KK := Rat.natCast_pos.mpr KN_pos
noncomputable def ep : Rat := 1 / 18014398509481984
noncomputable def rv (x : UInt64) : Rat := (val x : Rat) / KK
noncomputable def FinF (x : UInt64) : Prop := ∃ a m e, decode x = .fin a m e
theorem FinF.pack {neg : Bool} {t : Nat} (h : t < infMag) : FinF (pack neg t) := let ⟨m, e, d, _⟩ := decode_pack neg h; ⟨neg, m, e, d⟩
theorem rv_mul (x : UInt64) : rv x * KK = (val x : Rat) := by have := KK_pos; unfold rv; grind

theorem pow_split (j : Nat) : (2 : Nat) ^ (53 + (1021 + j)) = 2 ^ j * KN := by
  rw [← KN_eq, ← Nat.pow_add]; congr 1; omega
theorem pow_half (j : Nat) : (2 : Nat) ^ (1021 + j) * 9007199254740992 = 2 ^ j * KN := by
  rw [← KN_eq, show (9007199254740992 : Nat) = 2 ^ 53 from by decide, ← Nat.pow_add, ← Nat.pow_add]; congr 1; omega
theorem sgn_dist {neg : Bool} {a b c : Nat} (h : 2 * Float64.dist a b ≤ c) : 2 * (sgn neg b - sgn neg a) ≤ c ∧ 2 * (sgn neg a - sgn neg b) ≤ (c : Int) := by
  unfold Float64.dist at h
  unfold sgn
  cases neg <;> simp <;> omega

theorem rat_cancel {a b c : Rat} (hc : 0 < c) (h : a * c ≤ b * c) : a ≤ b := by
  by_cases q : a ≤ b
  · exact q
  · have h1 : 0 < (a - b) * c := Rat.mul_pos (by grind) hc
    grind
theorem err_fin {r ex Y k d Z : Rat} (hd : 0 < d) (hk : 0 < k) (ph : Z * 9007199254740992 = Y * k) (q : 2 * (d * (r * k) - ex * (d * k)) ≤ d * Z) : r - ex ≤ Y * (1 / 18014398509481984) := by
  have hdk : 0 < d * k := Rat.mul_pos hd hk
  have e : d * Z * 9007199254740992 = d * Y * k := by
    have : d * (Z * 9007199254740992) = d * (Y * k) := by rw [ph]
    grind
  exact rat_cancel hdk (by grind)
/-- error of a rounding, as rationals -/
theorem err_rat {r : UInt64} {neg : Bool} {W D : Nat} (j : Nat) (h : Right r neg W D) (hD : 0 < D) (hj : j ≤ 100) {ex : Rat} (hex : ex * ((D : Rat) * KK) = ((sgn neg W : Int) : Rat)) (hW : W ≤ D * (2 ^ j * KN)) :
    FinF r ∧ rv r - ex ≤ ((2 ^ j : Nat) : Rat) * ep ∧ ex - rv r ≤ ((2 ^ j : Nat) : Rat) * ep := by
  obtain ⟨t, ht, rfl, hd⟩ := right_err (k := 1021 + j) h hD (by omega) (by rw [pow_split]; exact hW)
  obtain ⟨h1, h2⟩ := sgn_dist (neg := neg) hd
  have hv : val (pack neg t) = sgn neg (V t) := val_pack neg ht
  refine ⟨FinF.pack ht, ?_⟩
  have e1 : sgn neg (D * V t) = (D : Int) * sgn neg (V t) := by rw [Nat.mul_comm, sgn_mul, Int.mul_comm]
  rw [e1, ← hv] at h1 h2
  have r0 := rv_mul (pack neg t)
  have hDp : (0 : Rat) < (D : Rat) := Rat.natCast_pos.mpr hD
  have hK := KK_pos
  have ph0 := pow_half j
  generalize (2 : Nat) ^ (1021 + j) = z at *
  generalize (2 : Nat) ^ j = y at *
  have ph : (z : Rat) * 9007199254740992 = (y : Rat) * KK := by
    have e := congrArg (fun n : Nat => (n : Rat)) ph0
    simp only [Rat.natCast_mul] at e
    exact e
  have q1 := Rat.intCast_le_intCast.mpr h1
  have q2 := Rat.intCast_le_intCast.mpr h2
  simp only [Rat.intCast_mul, Rat.intCast_sub, Rat.intCast_natCast, Rat.natCast_mul] at q1 q2
  generalize ((sgn neg W : Int) : Rat) = w at *
  generalize ((val (pack neg t) : Int) : Rat) = v at *
  generalize rv (pack neg t) = r at *
  generalize (D : Rat) = d at *
  generalize (z : Rat) = Z at *
  generalize (y : Rat) = Y at *
  generalize KK = k at *
  subst r0
  subst hex
  unfold ep
  exact ⟨err_fin hDp hK ph q1, err_fin hDp hK ph (by
    have e : d * (ex * k) - r * (d * k) = ex * (d * k) - d * (r * k) := by grind
    rw [e]; exact q2)⟩
end Mine

end
section
open PySem PySem.W PySem.Calls PyProof.Rows
set_option linter.unusedVariables false
set_option maxRecDepth 100000
namespace Mine
open PySem.Float64

noncomputable def pw (j : Nat) : Rat := ((2 ^ j : Nat) : Rat)
noncomputable def Near (x : UInt64) (r e : Rat) : Prop := FinF x ∧ rv x - r ≤ e ∧ r - rv x ≤ e
theorem sgn_self (s : Int) : sgn (decide (s < 0)) s.natAbs = s := by
  unfold sgn
  by_cases h : s < 0
  · simp [h]; omega
  · simp [h]; omega
theorem sgn_mul2 (a b : Bool) (m k : Nat) : sgn (a != b) (m * k) = sgn a m * sgn b k := by
  unfold sgn
  cases a <;> cases b <;> simp [Int.neg_mul, Int.mul_neg]
theorem natAbs_le_of {s : Int} {N : Nat} (h1 : -(N : Rat) ≤ (s : Rat)) (h2 : (s : Rat) ≤ (N : Rat)) : s.natAbs ≤ N := by
  have a : ((-(N : Int) : Int) : Rat) ≤ (s : Rat) := by rw [Rat.intCast_neg, Rat.intCast_natCast]; exact h1
  have b : (s : Rat) ≤ ((N : Int) : Rat) := by rw [Rat.intCast_natCast]; exact h2
  have a := Rat.intCast_le_intCast.mp a
  have b := Rat.intCast_le_intCast.mp b
  omega
theorem pw_nat (j : Nat) : (((2 ^ j * KN : Nat)) : Rat) = pw j * KK := by unfold pw KK; rw [Rat.natCast_mul]
theorem pw_pos (j : Nat) : 0 < pw j := Rat.natCast_pos.mpr (Nat.two_pow_pos _)
theorem bound_mul {r : Rat} {j : Nat} (h1 : -(pw j) ≤ r) (h2 : r ≤ pw j) : -(pw j * KK) ≤ r * KK ∧ r * KK ≤ pw j * KK := by
  have hK := KK_pos
  have a : 0 ≤ (pw j - r) * KK := Rat.mul_nonneg (by grind) (by grind)
  have b : 0 ≤ (pw j + r) * KK := Rat.mul_nonneg (by grind) (by grind)
  constructor <;> grind
theorem zero_fin (b : Bool) : FinF (zero b) ∧ rv (zero b) = 0 := by
  have e : decode (zero b) = .fin b 0 (-1074) := by cases b <;> kernel_rfl
  refine ⟨⟨_, _, _, e⟩, ?_⟩
  have : val (zero b) = 0 := by rw [val_eq e]; cases b <;> simp [sgn]
  unfold rv; rw [this]; grind

theorem near_of_right {x : UInt64} {neg : Bool} {W D : Nat} (j : Nat) (hj : j ≤ 100) (h : Right x neg W D) (hD : 0 < D) {ex : Rat} (hex : ex * ((D : Rat) * KK) = ((sgn neg W : Int) : Rat)) (h1 : -(pw j) ≤ ex) (h2 : ex ≤ pw j) : Near x ex (pw j * ep) := by
  refine err_rat j h hD hj hex ?_
  have hDp : (0 : Rat) < (D : Rat) := Rat.natCast_pos.mpr hD
  have b := bound_mul h1 h2
  have a : 0 ≤ (pw j * KK - ex * KK) * (D : Rat) := Rat.mul_nonneg (by grind) (by grind)
  have c : 0 ≤ (pw j * KK + ex * KK) * (D : Rat) := Rat.mul_nonneg (by grind) (by grind)
  have e : ((D * (2 ^ j * KN) : Nat) : Rat) = (D : Rat) * (pw j * KK) := by rw [Rat.natCast_mul, pw_nat]
  have := natAbs_le_of (s := sgn neg W) (N := D * (2 ^ j * KN)) (by rw [e, ← hex]; grind) (by rw [e, ← hex]; grind)
  rw [sgn_natAbs] at this
  exact this

theorem add_near {x y : UInt64} (j : Nat) (hj : j ≤ 100) (hx : FinF x) (hy : FinF y) (h1 : -(pw j) ≤ rv x + rv y) (h2 : rv x + rv y ≤ pw j) : Near (add x y) (rv x + rv y) (pw j * ep) := by
  obtain ⟨a, m, e, dx⟩ := hx
  obtain ⟨b, k, f, dy⟩ := hy
  obtain ⟨g1, g2⟩ := add_right dx dy
  have rx := rv_mul x
  have ry := rv_mul y
  have hK := KK_pos
  by_cases q : val x + val y = 0
  · rw [g1 q]
    have z := zero_fin (a && b)
    have s0 : rv x + rv y = 0 := by
      have : (rv x + rv y) * KK = 0 := by
        have : ((val x + val y : Int) : Rat) = 0 := by rw [q]; rfl
        rw [Rat.intCast_add] at this
        grind
      grind
    have hp := pw_pos j
    have : 0 ≤ pw j * ep := Rat.mul_nonneg (by grind) (by unfold ep; decide +kernel)
    refine ⟨z.1, ?_, ?_⟩ <;> rw [z.2, s0] <;> grind
  · refine near_of_right j hj (g2 q) (by decide) ?_ h1 h2
    rw [sgn_self, Rat.intCast_add]
    have : ((1 : Nat) : Rat) = 1 := rfl
    grind
theorem sub_near {x y : UInt64} (j : Nat) (hj : j ≤ 100) (hx : FinF x) (hy : FinF y) (h1 : -(pw j) ≤ rv x - rv y) (h2 : rv x - rv y ≤ pw j) : Near (sub x y) (rv x - rv y) (pw j * ep) := by
  obtain ⟨b, k, f, dy⟩ := hy
  have hn : rv (neg y) = -rv y := by unfold rv; rw [neg_val dy, Rat.intCast_neg]; grind
  have := add_near (x := x) (y := neg y) j hj hx ⟨_, _, _, neg_decode dy⟩ (by rw [hn]; grind) (by rw [hn]; grind)
  rw [hn] at this
  have e : rv x - rv y = rv x + -rv y := by grind
  rw [e]; unfold Float64.sub; exact this
theorem mul_near {x y : UInt64} (j : Nat) (hj : j ≤ 100) (hx : FinF x) (hy : FinF y) (h1 : -(pw j) ≤ rv x * rv y) (h2 : rv x * rv y ≤ pw j) : Near (mul x y) (rv x * rv y) (pw j * ep) := by
  obtain ⟨a, m, e, dx⟩ := hx
  obtain ⟨b, k, f, dy⟩ := hy
  have rx := rv_mul x
  have ry := rv_mul y
  refine near_of_right j hj (mul_right dx dy) (Nat.two_pow_pos _) ?_ h1 h2
  rw [val_natAbs dx, val_natAbs dy, sgn_mul2, ← val_eq dx, ← val_eq dy, Rat.intCast_mul, KN_eq]
  show rv x * rv y * (KK * KK) = _
  grind
theorem frac_near {neg : Bool} {n d : Nat} (j : Nat) (hj : j ≤ 100) (hd : 0 < d) (h : n ≤ 2 ^ j * d) : Near (ofFrac neg n d) ((sgn neg n : Rat) / (d : Rat)) (pw j * ep) := by
  have hdp : (0 : Rat) < (d : Rat) := Rat.natCast_pos.mpr hd
  have hp := pw_pos j
  have hn : (n : Rat) ≤ pw j * (d : Rat) := by
    unfold pw; rw [← Rat.natCast_mul]; exact Rat.natCast_le_natCast.mpr h
  have hn0 : (0 : Rat) ≤ (n : Rat) := Rat.natCast_nonneg
  have hs : ((sgn neg n : Int) : Rat) ≤ (n : Rat) ∧ -(n : Rat) ≤ ((sgn neg n : Int) : Rat) := by
    cases neg
    · rw [show sgn false n = (n : Int) from rfl, Rat.intCast_natCast]; grind
    · rw [show sgn true n = -(n : Int) from rfl, Rat.intCast_neg, Rat.intCast_natCast]; grind
  refine near_of_right j hj (ofFrac_right (W := n * KN) (D := d) hd (by rw [KN_eq]) hd) hd ?_ ?_ ?_
  · rw [sgn_mul, Rat.intCast_mul, Rat.intCast_natCast]
    show _ = _ * KK
    generalize ((sgn neg n : Int) : Rat) = q at *
    generalize (d : Rat) = D at *
    grind
  · refine rat_cancel hdp ?_
    generalize ((sgn neg n : Int) : Rat) = q at *
    generalize (d : Rat) = D at *
    generalize (n : Rat) = N at *
    generalize pw j = P at *
    have : q / D * D = q := by grind
    rw [this]; grind
  · refine rat_cancel hdp ?_
    generalize ((sgn neg n : Int) : Rat) = q at *
    generalize (d : Rat) = D at *
    generalize (n : Rat) = N at *
    generalize pw j = P at *
    have : q / D * D = q := by grind
    rw [this]; grind
end Mine

end
section
open PySem PySem.W PySem.Calls PyProof.Rows
set_option linter.unusedVariables false
set_option maxRecDepth 100000
namespace Mine
open PySem.Float64

/-- the float p / 2^k -/
noncomputable def dy (p : Int) (k : Nat) : UInt64 := ofFrac (decide (p < 0)) p.natAbs (2 ^ k)
theorem pow_parts {k : Nat} (hk : k ≤ 1074) : KN = 2 ^ (1074 - k) * 2 ^ k := by rw [← KN_eq, ← Nat.pow_add]; congr 1; omega
theorem dy_pack {p : Int} {k : Nat} (hk : k ≤ 1074) (hp : p.natAbs ≤ 2 ^ 53) : ∃ t, t < infMag ∧ V t = p.natAbs * 2 ^ (1074 - k) ∧ dy p k = pack (decide (p < 0)) t := by
  obtain ⟨t, ht⟩ := rep_exists (1074 - k) p.natAbs hp
  have hl : t < infMag := lt_infMag (by
    rw [ht]
    calc p.natAbs * 2 ^ (1074 - k) ≤ 2 ^ 53 * 2 ^ 1074 := Nat.mul_le_mul hp (Nat.pow_le_pow_right (by decide) (by omega))
      _ = 2 ^ (53 + 1074) := (Nat.pow_add ..).symm
      _ < 2 ^ 2098 := Nat.pow_lt_pow_right (by decide) (by omega))
  refine ⟨t, hl, ht, ?_⟩
  refine right_exact (ofFrac_right (W := p.natAbs * KN) (D := 2 ^ k) (Nat.two_pow_pos _) (by rw [KN_eq]) (Nat.two_pow_pos _)) (Nat.two_pow_pos _) ?_ hl
  rw [ht, pow_parts hk]; ac_rfl
theorem dy_decode {p : Int} {k : Nat} (hk : k ≤ 1074) (hp : p.natAbs ≤ 2 ^ 53) : ∃ m e, decode (dy p k) = .fin (decide (p < 0)) m e ∧ m * 2 ^ (e + 1074).toNat = p.natAbs * 2 ^ (1074 - k) := by
  obtain ⟨t, h1, h2, h3⟩ := dy_pack hk hp
  rw [h3, ← h2]
  exact decode_pack _ h1
theorem dy_val {p : Int} {k : Nat} (hk : k ≤ 1074) (hp : p.natAbs ≤ 2 ^ 53) : val (dy p k) = p * ((2 ^ (1074 - k) : Nat) : Int) := by
  obtain ⟨m, e, h1, h2⟩ := dy_decode hk hp
  rw [val_eq h1, h2, sgn_mul, sgn_self]
theorem dy_of_right {x : UInt64} {p : Int} {k : Nat} {W D : Nat} (hk : k ≤ 1074) (hD : 0 < D) (h : Right x (decide (p < 0)) W D) (e : W * 2 ^ k = p.natAbs * KN * D) : x = dy p k :=
  right_unique h (ofFrac_right (W := p.natAbs * KN) (D := 2 ^ k) (Nat.two_pow_pos _) (by rw [KN_eq]) (Nat.two_pow_pos _)) hD (Nat.two_pow_pos _) e
theorem dy_zero (k : Nat) : dy 0 k = zero false := by unfold dy ofFrac roundMag; rfl
theorem mul_pow_sign {s : Int} {n : Nat} : decide (s * ((2 ^ n : Nat) : Int) < 0) = decide (s < 0) := by
  have hp : (0 : Int) < ((2 ^ n : Nat) : Int) := Int.ofNat_lt.mpr (Nat.two_pow_pos _)
  apply decide_eq_decide.mpr
  constructor
  · intro h
    by_cases q : s < 0
    · exact q
    · have := Int.mul_nonneg (show 0 ≤ s by omega) (Int.le_of_lt hp); omega
  · intro h; exact Int.mul_neg_of_neg_of_pos h hp
theorem dy_add {p q : Int} {k : Nat} (hk : k ≤ 1074) (hp : p.natAbs ≤ 2 ^ 53) (hq : q.natAbs ≤ 2 ^ 53) : add (dy p k) (dy q k) = dy (p + q) k := by
  obtain ⟨m, e, d1, _⟩ := dy_decode hk hp
  obtain ⟨m', e', d2, _⟩ := dy_decode hk hq
  obtain ⟨g1, g2⟩ := add_right d1 d2
  have hv : val (dy p k) + val (dy q k) = (p + q) * ((2 ^ (1074 - k) : Nat) : Int) := by rw [dy_val hk hp, dy_val hk hq, Int.add_mul]
  by_cases z : p + q = 0
  · rw [g1 (by rw [hv, z, Int.zero_mul]), z, dy_zero]
    have : (decide (p < 0) && decide (q < 0)) = false := by
      by_cases h1 : p < 0
      · have : ¬ q < 0 := by omega
        simp [this]
      · simp [h1]
    rw [this]
  · have hp0 : (0 : Int) < ((2 ^ (1074 - k) : Nat) : Int) := Int.ofNat_lt.mpr (Nat.two_pow_pos _)
    have h2 := g2 (by rw [hv]; exact Int.mul_ne_zero z (by omega))
    rw [hv, mul_pow_sign] at h2
    refine dy_of_right hk (by decide) h2 ?_
    rw [Int.natAbs_mul, Int.natAbs_natCast, Nat.mul_one, pow_parts hk]; ac_rfl
theorem dy_sub {p q : Int} {k : Nat} (hk : k ≤ 1074) (hp : p.natAbs ≤ 2 ^ 53) (hq : q.natAbs ≤ 2 ^ 53) : sub (dy p k) (dy q k) = dy (p - q) k := by
  obtain ⟨m, e, d1, _⟩ := dy_decode hk hp
  obtain ⟨m', e', d2, _⟩ := dy_decode hk hq
  obtain ⟨g1, g2⟩ := sub_right d1 d2
  have hv : val (dy p k) - val (dy q k) = (p - q) * ((2 ^ (1074 - k) : Nat) : Int) := by rw [dy_val hk hp, dy_val hk hq, Int.sub_mul]
  by_cases z : p - q = 0
  · rw [g1 (by rw [hv, z, Int.zero_mul]), z, dy_zero]
    have : (decide (p < 0) && !decide (q < 0)) = false := by
      have : p = q := by omega
      subst this
      by_cases h1 : p < 0 <;> simp [h1]
    rw [this]
  · have hp0 : (0 : Int) < ((2 ^ (1074 - k) : Nat) : Int) := Int.ofNat_lt.mpr (Nat.two_pow_pos _)
    have h2 := g2 (by rw [hv]; exact Int.mul_ne_zero z (by omega))
    rw [hv, mul_pow_sign] at h2
    refine dy_of_right hk (by decide) h2 ?_
    rw [Int.natAbs_mul, Int.natAbs_natCast, Nat.mul_one, pow_parts hk]; ac_rfl
theorem dy_div {a b : Int} {k m : Nat} (hk : k ≤ 1074) (hm : m ≤ 1074) (ha : a.natAbs ≤ 2 ^ 53) (hb : b.natAbs ≤ 2 ^ 53) (h0 : b ≠ 0) : div (dy a k) (dy b m) = ofFrac (decide (a < 0) != decide (b < 0)) (a.natAbs * 2 ^ m) (b.natAbs * 2 ^ k) := by
  obtain ⟨n1, e1, d1, w1⟩ := dy_decode hk ha
  obtain ⟨n2, e2, d2, w2⟩ := dy_decode hm hb
  have hb0 : 0 < b.natAbs := by omega
  have hn2 : n2 ≠ 0 := by
    rintro rfl
    rw [Nat.zero_mul] at w2
    have := Nat.mul_pos hb0 (Nat.two_pow_pos (1074 - m))
    omega
  have r := div_right d1 d2 hn2
  rw [val_natAbs d1, val_natAbs d2, w1, w2, KN_eq] at r
  have hD : 0 < b.natAbs * 2 ^ k := Nat.mul_pos hb0 (Nat.two_pow_pos _)
  refine right_unique r (ofFrac_right (W := a.natAbs * 2 ^ m * KN) (D := b.natAbs * 2 ^ k) hD (by rw [KN_eq]) hD) (Nat.mul_pos hb0 (Nat.two_pow_pos _)) hD ?_
  have p1 := pow_parts hk
  have p2 := pow_parts hm
  calc a.natAbs * 2 ^ (1074 - k) * KN * (b.natAbs * 2 ^ k) = a.natAbs * b.natAbs * KN * (2 ^ (1074 - k) * 2 ^ k) := by ac_rfl
    _ = a.natAbs * b.natAbs * KN * (2 ^ (1074 - m) * 2 ^ m) := by rw [← p1, ← p2]
    _ = a.natAbs * 2 ^ m * KN * (b.natAbs * 2 ^ (1074 - m)) := by ac_rfl
theorem frac_eq {neg : Bool} {n d n' d' : Nat} (hd : 0 < d) (hd' : 0 < d') (e : n * d' = n' * d) : ofFrac neg n d = ofFrac neg n' d' :=
  right_unique (ofFrac_right (W := n * KN) (D := d) hd (by rw [KN_eq]) hd) (ofFrac_right (W := n' * KN) (D := d') hd' (by rw [KN_eq]) hd') hd hd' (by
    calc n * KN * d' = (n * d') * KN := by ac_rfl
      _ = n' * KN * d := by rw [e]; ac_rfl)
theorem dy_cmp {p q : Int} {k : Nat} (hk : k ≤ 1074) (hp : p.natAbs ≤ 2 ^ 53) (hq : q.natAbs ≤ 2 ^ 53) : cmp (dy p k) (dy q k) = some (compare p q) := by
  obtain ⟨m, e, d1, _⟩ := dy_decode hk hp
  obtain ⟨m', e', d2, _⟩ := dy_decode hk hq
  have hp0 : (0 : Int) < ((2 ^ (1074 - k) : Nat) : Int) := Int.ofNat_lt.mpr (Nat.two_pow_pos _)
  rw [cmp_right d1 d2, dy_val hk hp, dy_val hk hq]
  congr 1
  rcases Int.lt_trichotomy p q with h | h | h
  · rw [Int.compare_eq_lt.mpr h, Int.compare_eq_lt.mpr (Int.mul_lt_mul_of_pos_right h hp0)]
  · subst h; simp
  · rw [Int.compare_eq_gt.mpr h, Int.compare_eq_gt.mpr (Int.mul_lt_mul_of_pos_right h hp0)]
end Mine

end
section
open PySem PySem.W PySem.Calls PyProof.Rows
set_option linter.unusedVariables false
set_option maxRecDepth 100000
namespace Mine
open PySem.Float64

theorem divF {a b : UInt64} (h : isZero b = false) : pvBin .Div (.float a) (.float b) = some (.float (div a b)) := if_pos h
theorem modF {a b : UInt64} (h : isZero b = false) : pvBin .Mod (.float a) (.float b) = some (.float (divmod a b).2) := if_pos h
theorem z6 : isZero 4618441417868443648 = false := by kernel_rfl
theorem z1 : isZero 4607182418800017408 = false := by kernel_rfl
theorem z2 : isZero 4611686018427387904 = false := by kernel_rfl
noncomputable def hueE (r g b mx mn : UInt64) : UInt64 := (divmod (div (
      if cmp r mx == some .eq then sub (div (sub mx b) (sub mx mn)) (div (sub mx g) (sub mx mn))
      else if cmp g mx == some .eq then sub (add 4611686018427387904 (div (sub mx r) (sub mx mn))) (div (sub mx b) (sub mx mn))
      else sub (add 4616189618054758400 (div (sub mx g) (sub mx mn))) (div (sub mx r) (sub mx mn))) 4618441417868443648) 4607182418800017408).2
theorem hsv_run {r g b mx mn : UInt64} (h1 : spMax [.float r, .float g, .float b] = some (.float mx)) (h2 : spMin [.float r, .float g, .float b] = some (.float mn)) (hc : cmp mn mx = some .lt)
    (n1 : isZero mx = false) (n2 : isZero (sub mx mn) = false) :
    rgb_to_hsv_sp [.float r, .float g, .float b] = some (.tuple [.float (hueE r g b mx mn), .float (div (sub mx mn) mx), .float mx]) := by
  refine r_fn rfl ?_
  show Ret _ (rgb_to_hsv_d [.fz (.float r), .fz (.float g), .fz (.float b), .un, .un, .un, .un, .un, .un, .un, .un, .un])
  unfold rgb_to_hsv_d hueE
  refine r_asg (ev_call rfl h1) ?_; dsimp only [List.set]
  refine r_asg (ev_call rfl h2) ?_; dsimp only [List.set]
  refine r_asg (v := .float (sub mx mn)) rfl ?_; dsimp only [List.set]
  refine r_asg (v := .float mx) rfl ?_; dsimp only [List.set]
  refine r_ifF (ev_cmp rfl rfl (show some (cmp mn mx == some .eq) = some false by rw [hc]; rfl)) (r_end ?_)
  refine r_asg (ev_bin rfl rfl (divF n1)) ?_; dsimp only [List.set]
  refine r_asg (ev_bin rfl rfl (divF n2)) ?_; dsimp only [List.set]
  refine r_asg (ev_bin rfl rfl (divF n2)) ?_; dsimp only [List.set]
  refine r_asg (ev_bin rfl rfl (divF n2)) ?_; dsimp only [List.set]
  refine r_if (c := cmp r mx == some .eq) rfl ?_
  cases c1 : (cmp r mx == some .eq)
  · refine r_assoc (r_if (c := cmp g mx == some .eq) rfl ?_)
    cases c2 : (cmp g mx == some .eq)
    · refine r_assoc (r_asg rfl (r_end (r_end ?_))); dsimp only [List.set]
      exact r_asg (ev_bin (ev_bin rfl rfl (divF z6)) rfl (modF z1)) (r_ret rfl)
    · refine r_assoc (r_asg rfl (r_end (r_end ?_))); dsimp only [List.set]
      exact r_asg (ev_bin (ev_bin rfl rfl (divF z6)) rfl (modF z1)) (r_ret rfl)
  · refine r_assoc (r_asg rfl (r_end ?_)); dsimp only [List.set]
    exact r_asg (ev_bin (ev_bin rfl rfl (divF z6)) rfl (modF z1)) (r_ret rfl)
theorem hls_run {r g b mx mn : UInt64} (h1 : spMax [.float r, .float g, .float b] = some (.float mx)) (h2 : spMin [.float r, .float g, .float b] = some (.float mn)) (hc : cmp mn mx = some .lt)
    (n1 : isZero (add mx mn) = false) (n2 : isZero (sub mx mn) = false) (n3 : isZero (sub (sub 4611686018427387904 mx) mn) = false) :
    rgb_to_hls_sp [.float r, .float g, .float b] = some (.tuple [.float (hueE r g b mx mn), .float (div (add mx mn) 4611686018427387904),
      .float (if (cmp (div (add mx mn) 4611686018427387904) 4602678819172646912 == some .lt || cmp (div (add mx mn) 4611686018427387904) 4602678819172646912 == some .eq) = true then div (sub mx mn) (add mx mn) else div (sub mx mn) (sub (sub 4611686018427387904 mx) mn))]) := by
  refine r_fn rfl ?_
  show Ret _ (rgb_to_hls_d [.fz (.float r), .fz (.float g), .fz (.float b), .un, .un, .un, .un, .un, .un, .un, .un, .un, .un])
  unfold rgb_to_hls_d hueE
  refine r_asg (ev_call rfl h1) ?_; dsimp only [List.set]
  refine r_asg (ev_call rfl h2) ?_; dsimp only [List.set]
  refine r_asg (v := .float (add mx mn)) rfl ?_; dsimp only [List.set]
  refine r_asg (v := .float (sub mx mn)) rfl ?_; dsimp only [List.set]
  refine r_asg (ev_bin rfl rfl (divF z2)) ?_; dsimp only [List.set]
  refine r_ifF (ev_cmp rfl rfl (show some (cmp mn mx == some .eq) = some false by rw [hc]; rfl)) (r_end ?_)
  refine r_if (c := (cmp (div (add mx mn) 4611686018427387904) 4602678819172646912 == some .lt || cmp (div (add mx mn) 4611686018427387904) 4602678819172646912 == some .eq)) rfl ?_
  generalize (cmp (div (add mx mn) 4611686018427387904) 4602678819172646912 == some .lt || cmp (div (add mx mn) 4611686018427387904) 4602678819172646912 == some .eq) = c0
  have tl : ∀ s, Ret (.tuple [.float (hueE r g b mx mn), .float (div (add mx mn) 4611686018427387904), .float s]) ((dThen (dAsg (dBin .Div (dBin .Sub (dVar 3) (dVar 0)) (dVar 6)) 9) (dThen (dAsg (dBin .Div (dBin .Sub (dVar 3) (dVar 1)) (dVar 6)) 10) (dThen (dAsg (dBin .Div (dBin .Sub (dVar 3) (dVar 2)) (dVar 6)) 11) (dThen (dTest (dCmp .Eq (dVar 0) (dVar 3)) (dThen (dAsg (dBin .Sub (dVar 11) (dVar 10)) 12) (dEnd)) (dThen (dTest (dCmp .Eq (dVar 1) (dVar 3)) (dThen (dAsg (dBin .Sub (dBin .Add (dConst (.float 4611686018427387904)) (dVar 9)) (dVar 11)) 12) (dEnd)) (dThen (dAsg (dBin .Sub (dBin .Add (dConst (.float 4616189618054758400)) (dVar 10)) (dVar 9)) 12) (dEnd))) (dEnd))) (dThen (dAsg (dBin .Mod (dBin .Div (dVar 12) (dConst (.float 4618441417868443648))) (dConst (.float 4607182418800017408))) 12) (dThen (dRet (dSeq .tuple (dCons (dVar 12) (dCons (dVar 7) (dCons (dVar 8) (dNil)))))) (dEnd))))))) [.fz (.float r), .fz (.float g), .fz (.float b), .fz (.float mx), .fz (.float mn), .fz (.float (add mx mn)), .fz (.float (sub mx mn)), .fz (.float (div (add mx mn) 4611686018427387904)), .fz (.float s), .un, .un, .un, .un]) := by
    intro s
    unfold hueE
    refine r_asg (ev_bin rfl rfl (divF n2)) ?_; dsimp only [List.set]
    refine r_asg (ev_bin rfl rfl (divF n2)) ?_; dsimp only [List.set]
    refine r_asg (ev_bin rfl rfl (divF n2)) ?_; dsimp only [List.set]
    refine r_if (c := cmp r mx == some .eq) rfl ?_
    cases c1 : (cmp r mx == some .eq)
    · refine r_assoc (r_if (c := cmp g mx == some .eq) rfl ?_)
      cases c2 : (cmp g mx == some .eq)
      · refine r_assoc (r_asg rfl (r_end (r_end ?_))); dsimp only [List.set]
        exact r_asg (ev_bin (ev_bin rfl rfl (divF z6)) rfl (modF z1)) (r_ret rfl)
      · refine r_assoc (r_asg rfl (r_end (r_end ?_))); dsimp only [List.set]
        exact r_asg (ev_bin (ev_bin rfl rfl (divF z6)) rfl (modF z1)) (r_ret rfl)
    · refine r_assoc (r_asg rfl (r_end ?_)); dsimp only [List.set]
      exact r_asg (ev_bin (ev_bin rfl rfl (divF z6)) rfl (modF z1)) (r_ret rfl)
  cases c0
  · exact r_assoc (r_asg (ev_bin rfl rfl (divF n3)) (r_end (tl _)))
  · exact r_assoc (r_asg (ev_bin rfl rfl (divF n1)) (r_end (tl _)))
end Mine

end
section
open PySem PySem.W PySem.Calls PyProof.Rows
set_option linter.unusedVariables false
set_option maxRecDepth 100000
namespace Mine
open PySem.Float64

theorem spMin_int (a b : Int) : spMin [.int a, .int b] = some (.int (min a b)) := by
  show (some (decide (b < a))).map (fun c => if c then PV.int b else PV.int a) = _
  by_cases h : b < a
  · simp [h]; omega
  · simp [h]; omega
theorem spMax_int (a b : Int) : spMax [.int a, .int b] = some (.int (max a b)) := by
  show (some (decide (a < b))).map (fun c => if c then PV.int b else PV.int a) = _
  by_cases h : a < b
  · simp [h]; omega
  · simp [h]; omega

/-- the weight of a corner -/
noncomputable def wt (place c : Int) : Int := min 16 (max 0 (32 - min ((place - c) % 96) (96 - (place - c) % 96)))
/-- the weight by the distance -/
noncomputable def wf (t : Int) : Int := min 16 (max 0 (32 - min t (96 - t)))
theorem wt_wf (place c : Int) : wt place c = wf ((place - c) % 96) := rfl
theorem wt_mod (place c : Int) : wt (place % 96) c = wt place c := by
  rw [wt_wf, wt_wf, Int.emod_sub_emod]
theorem wf_tbl : ∀ t : Fin 96, 0 ≤ wf (t.val : Int) ∧ wf (t.val : Int) ≤ 16 ∧ wf ((96 - (t.val : Int)) % 96) = wf (t.val : Int) := by decide +kernel
theorem fin96 {P : Int → Prop} (h : ∀ t : Fin 96, P (t.val : Int)) {x : Int} (h0 : 0 ≤ x) (h1 : x < 96) : P x := by
  have e : ((x.toNat : Nat) : Int) = x := Int.toNat_of_nonneg h0
  have := h ⟨x.toNat, (Int.toNat_lt h0).mpr h1⟩
  rw [← e]; exact this
theorem m96 (x : Int) : 0 ≤ x % 96 ∧ x % 96 < 96 := ⟨Int.emod_nonneg _ (by decide), Int.emod_lt_of_pos _ (by decide)⟩
theorem wf_all {x : Int} (h0 : 0 ≤ x) (h1 : x < 96) : 0 ≤ wf x ∧ wf x ≤ 16 ∧ wf ((96 - x) % 96) = wf x := fin96 (P := fun t => 0 ≤ wf t ∧ wf t ≤ 16 ∧ wf ((96 - t) % 96) = wf t) wf_tbl h0 h1
theorem wt_lo (place c : Int) : 0 ≤ wt place c ∧ wt place c ≤ 16 := by
  have := wf_all (m96 (place - c)).1 (m96 (place - c)).2
  exact ⟨this.1, this.2.1⟩
theorem mir_mod (x : Int) : (-x) % 96 = (96 - x % 96) % 96 := by omega
theorem wt_mirror (place c : Int) : wt (64 - place) c = wt place (64 - c) := by
  rw [wt_wf, wt_wf, show 64 - place - c = -(place - (64 - c)) by omega, mir_mod]
  exact (wf_all (m96 _).1 (m96 _).2).2.2
theorem tb_tbl : ∀ t : Fin 96, (wt (t.val : Int) 0 = 16 ∨ wt (t.val : Int) 32 = 16 ∨ wt (t.val : Int) 64 = 16) ∧ (wt (t.val : Int) 0 = 0 ∨ wt (t.val : Int) 32 = 0 ∨ wt (t.val : Int) 64 = 0) := by decide +kernel

theorem tb_all {x : Int} (h0 : 0 ≤ x) (h1 : x < 96) : (wt x 0 = 16 ∨ wt x 32 = 16 ∨ wt x 64 = 16) ∧ (wt x 0 = 0 ∨ wt x 32 = 0 ∨ wt x 64 = 0) := fin96 (P := fun t => (wt t 0 = 16 ∨ wt t 32 = 16 ∨ wt t 64 = 16) ∧ (wt t 0 = 0 ∨ wt t 32 = 0 ∨ wt t 64 = 0)) tb_tbl h0 h1
theorem dy_isZero {p : Int} {k : Nat} (hk : k ≤ 1074) (hp : p.natAbs ≤ 2 ^ 53) (h : p ≠ 0) : isZero (dy p k) = false := by
  obtain ⟨m, e, d, hv⟩ := dy_decode hk hp
  have : m ≠ 0 := by
    intro z
    rw [z, Nat.zero_mul] at hv
    have h1 : 0 < p.natAbs * 2 ^ (1074 - k) := Nat.mul_pos (by omega) (Nat.two_pow_pos _)
    omega
  unfold isZero
  rw [d]
  cases m with
  | zero => exact absurd rfl this
  | succ n => rfl
theorem dy_lt {p q : Int} {k : Nat} (hk : k ≤ 1074) (hp : p.natAbs ≤ 2 ^ 53) (hq : q.natAbs ≤ 2 ^ 53) : (cmp (dy p k) (dy q k) == some .lt) = decide (p < q) := by
  rw [dy_cmp hk hp hq]
  rcases Int.lt_trichotomy p q with h | h | h
  · rw [Int.compare_eq_lt.mpr h, decide_eq_true h]; rfl
  · rw [Int.compare_eq_eq.mpr h, decide_eq_false (by omega)]; rfl
  · rw [Int.compare_eq_gt.mpr h, decide_eq_false (by omega)]; rfl
theorem dy_eqq {p q : Int} {k : Nat} (hk : k ≤ 1074) (hp : p.natAbs ≤ 2 ^ 53) (hq : q.natAbs ≤ 2 ^ 53) : (cmp (dy p k) (dy q k) == some .eq) = decide (p = q) := by
  rw [dy_cmp hk hp hq]
  rcases Int.lt_trichotomy p q with h | h | h
  · rw [Int.compare_eq_lt.mpr h, decide_eq_false (by omega)]; rfl
  · rw [Int.compare_eq_eq.mpr h, decide_eq_true h]; rfl
  · rw [Int.compare_eq_gt.mpr h, decide_eq_false (by omega)]; rfl
theorem dy_max3 {p q r m : Int} {k : Nat} (hk : k ≤ 1074) (hp : p.natAbs ≤ 2 ^ 53) (hq : q.natAbs ≤ 2 ^ 53) (hr : r.natAbs ≤ 2 ^ 53) (a : p ≤ m) (b : q ≤ m) (c : r ≤ m) (h : p = m ∨ q = m ∨ r = m) : spMax [.float (dy p k), .float (dy q k), .float (dy r k)] = some (.float (dy m k)) := by
  simp only [spMax, pvLt, Option.bind_some, dy_lt hk hp hq, dy_lt hk hq hr, dy_lt hk hp hr, decide_eq_true_eq]
  have e : ∀ {x : Int}, x = m → some (PV.float (dy x k)) = some (PV.float (dy m k)) := fun h => by rw [h]
  clear hk hp hq hr
  split
  · split
    · exact e (by omega)
    · exact e (by omega)
  · split
    · exact e (by omega)
    · exact e (by omega)
theorem dy_min3 {p q r m : Int} {k : Nat} (hk : k ≤ 1074) (hp : p.natAbs ≤ 2 ^ 53) (hq : q.natAbs ≤ 2 ^ 53) (hr : r.natAbs ≤ 2 ^ 53) (a : m ≤ p) (b : m ≤ q) (c : m ≤ r) (h : p = m ∨ q = m ∨ r = m) : spMin [.float (dy p k), .float (dy q k), .float (dy r k)] = some (.float (dy m k)) := by
  simp only [spMin, pvLt, Option.bind_some, dy_lt hk hq hp, dy_lt hk hr hq, dy_lt hk hr hp, decide_eq_true_eq]
  have e : ∀ {x : Int}, x = m → some (PV.float (dy x k)) = some (PV.float (dy m k)) := fun h => by rw [h]
  clear hk hp hq hr
  split
  · split
    · exact e (by omega)
    · exact e (by omega)
  · split
    · exact e (by omega)
    · exact e (by omega)

/-- a quotient of two dyadics of one depth -/
theorem dy_quot {a b a' b' : Int} {k : Nat} (hk : k ≤ 1074) (ha : a.natAbs ≤ 2 ^ 53) (hb : b.natAbs ≤ 2 ^ 53) (h0 : 0 ≤ a) (h1 : 0 < b) (h2 : 0 ≤ a') (h3 : 0 < b') (e : a * b' = a' * b) : div (dy a k) (dy b k) = fracBits a' b' := by
  rw [dy_div hk hk ha hb (by omega)]
  unfold fracBits
  have z1 : ¬ a < 0 := by omega
  have z2 : ¬ b < 0 := by omega
  have z3 : ¬ a' < 0 := by omega
  have z4 : ¬ b' < 0 := by omega
  simp only [z1, z2, z3, z4, decide_false]
  refine frac_eq (Nat.mul_pos (by omega) (Nat.two_pow_pos _)) (by omega) ?_
  have : a.natAbs * b'.natAbs = a'.natAbs * b.natAbs := by rw [← Int.natAbs_mul, ← Int.natAbs_mul, e]
  calc a.natAbs * 2 ^ k * b'.natAbs = a.natAbs * b'.natAbs * 2 ^ k := by ac_rfl
    _ = a'.natAbs * (b.natAbs * 2 ^ k) := by rw [this]; ac_rfl
theorem dy_frac {p : Int} {k : Nat} (h : 0 ≤ p) : fracBits p (2 ^ k) = dy p k := by
  unfold fracBits dy
  have e : ((2 : Int) ^ k) = ((2 ^ k : Nat) : Int) := by simp
  rw [e]
  have : decide (((2 ^ k : Nat) : Int) < 0) = false := by
    apply decide_eq_false; have := Nat.two_pow_pos k; omega
  rw [this, Int.natAbs_natCast, Bool.bne_false]

noncomputable def hueF (w0 w1 w2 : Int) : UInt64 := (divmod (div (
      if w0 = 16 then sub (dy (16 - w2) 4) (dy (16 - w1) 4)
      else if w1 = 16 then sub (add 4611686018427387904 (dy (16 - w0) 4)) (dy (16 - w2) 4)
      else sub (add 4616189618054758400 (dy (16 - w1) 4)) (dy (16 - w0) 4)) 4618441417868443648) 4607182418800017408).2
theorem hue_tbl : ∀ p : Fin 96, hueF (wt (p.val : Int) 0) (wt (p.val : Int) 32) (wt (p.val : Int) 64) = fracBits (p.val : Int) 96 := by decide +kernel
theorem hue_eq {place : Int} (h0 : 0 ≤ place) (h1 : place < 96) : hueF (wt place 0) (wt place 32) (wt place 64) = fracBits place 96 := fin96 (P := fun x => hueF (wt x 0) (wt x 32) (wt x 64) = fracBits x 96) hue_tbl h0 h1
end Mine

end
section
open PySem PySem.W PySem.Calls PyProof.Rows
set_option linter.unusedVariables false
set_option maxRecDepth 100000
namespace Mine
open PySem.Float64

structure Dep (k : Nat) (D : Int) : Prop where
  hD : D = 2 ^ k
  hk : k = 8 ∨ k = 16 ∨ k = 24
theorem Dep.bd {k : Nat} {D : Int} (h : Dep k D) : 256 ≤ D ∧ D ≤ 16777216 ∧ k ≤ 30 := by
  obtain ⟨e, rfl | rfl | rfl⟩ := h <;> subst e <;> decide
theorem Dep.k1 {k : Nat} {D : Int} (h : Dep k D) : k ≤ 1074 := Nat.le_trans h.bd.2.2 (by decide)
theorem Dep.k2 {k : Nat} {D : Int} (h : Dep k D) : k + 1 ≤ 1074 := Nat.le_trans (Nat.succ_le_succ h.bd.2.2) (by decide)
theorem Dep.pos {k : Nat} {D : Int} (h : Dep k D) : 0 < D := Int.lt_of_lt_of_le (by decide) h.bd.1
theorem Dep.nat {k : Nat} {D : Int} (h : Dep k D) {x : Int} (h0 : 0 ≤ x) (h1 : x ≤ 2 * D) : x.natAbs ≤ 2 ^ 53 := by
  have := h.bd.2.1
  clear h
  omega
noncomputable def pt (place least step c : Int) : Int := least + step * wt place c
structure Col (place least step : Int) (k : Nat) (D : Int) : Prop where
  dep : Dep k D
  p0 : 0 ≤ place
  p1 : place < 96
  l0 : 0 ≤ least
  s0 : 0 ≤ step
  pos : 0 < least + 16 * step
  top : least + 16 * step < D

theorem mul16 {step w : Int} (h : 0 ≤ step) (w0 : 0 ≤ w) (w1 : w ≤ 16) : 0 ≤ step * w ∧ step * w ≤ 16 * step :=
  ⟨Int.mul_nonneg h w0, by rw [Int.mul_comm 16]; exact Int.mul_le_mul_of_nonneg_left w1 h⟩
theorem pt_lo {step : Int} (hs : 0 ≤ step) (place least x : Int) : least ≤ pt place least step x ∧ pt place least step x ≤ least + 16 * step := by
  have a := wt_lo place x
  have m := mul16 hs a.1 a.2
  exact ⟨Int.le_add_of_nonneg_right m.1, Int.add_le_add_left m.2 least⟩
theorem pt_16 {place least step x : Int} (h : wt place x = 16) : pt place least step x = least + 16 * step := by unfold pt; rw [h, Int.mul_comm]
theorem pt_0 {place least step x : Int} (h : wt place x = 0) : pt place least step x = least := by unfold pt; rw [h, Int.mul_zero, Int.add_zero]
theorem bd_both {l s D : Int} (h1 : 0 ≤ l) (h2 : 0 ≤ s) (h3 : l + 16 * s < D) : l ≤ 2 * D ∧ l + 16 * s ≤ 2 * D ∧ 0 ≤ l + (l + 16 * s) ∧ l + (l + 16 * s) ≤ 2 * D ∧ 16 * s ≤ 2 * D ∧ 0 ≤ 16 * s ∧ 0 ≤ l + 16 * s := by omega
structure CB (place least step : Int) (k : Nat) : Prop where
  nl : least.natAbs ≤ 2 ^ 53
  nm : (least + 16 * step).natAbs ≤ 2 ^ 53
  nb : (least + (least + 16 * step)).natAbs ≤ 2 ^ 53
  ns : (16 * step).natAbs ≤ 2 ^ 53
  np : ∀ x, (pt place least step x).natAbs ≤ 2 ^ 53
theorem Col.b {place least step D : Int} {k : Nat} (c : Col place least step k D) : CB place least step k := by
  obtain ⟨b1, b2, b3, b4, b5, b6, b7⟩ := bd_both c.l0 c.s0 c.top
  refine ⟨c.dep.nat c.l0 b1, c.dep.nat b7 b2, c.dep.nat b3 b4, c.dep.nat b6 b5, fun x => ?_⟩
  have p := pt_lo c.s0 place least x
  exact c.dep.nat (Int.le_trans c.l0 p.1) (Int.le_trans p.2 b2)
structure Ext (p0 p1 p2 m0 m1 : Int) (k : Nat) : Prop where
  mx : spMax [.float (dy p0 k), .float (dy p1 k), .float (dy p2 k)] = some (.float (dy m1 k))
  mn : spMin [.float (dy p0 k), .float (dy p1 k), .float (dy p2 k)] = some (.float (dy m0 k))
theorem ext_of {place least step D : Int} {k : Nat} (c : Col place least step k D) : Ext (pt place least step 0) (pt place least step 32) (pt place least step 64) least (least + 16 * step) k := by
  have b := c.b
  have t := tb_all c.p0 c.p1
  have p := pt_lo c.s0 place least
  exact ⟨dy_max3 c.dep.k1 (b.np 0) (b.np 32) (b.np 64) (p 0).2 (p 32).2 (p 64).2 (t.1.imp pt_16 (Or.imp pt_16 pt_16)), dy_min3 c.dep.k1 (b.np 0) (b.np 32) (b.np 64) (p 0).1 (p 32).1 (p 64).1 (t.2.imp pt_0 (Or.imp pt_0 pt_0))⟩
theorem most_sub (l s : Int) : l + 16 * s - l = 16 * s := by rw [Int.add_comm, Int.add_sub_cancel]
theorem range_dy {place least step D : Int} {k : Nat} (c : Col place least step k D) : sub (dy (least + 16 * step) k) (dy least k) = dy (16 * step) k := by rw [dy_sub c.dep.k1 c.b.nm c.b.nl, most_sub]
theorem part_sub (l s w : Int) : l + 16 * s - (l + s * w) = s * (16 - w) := by rw [Int.mul_sub, Int.mul_comm s 16]; omega
theorem quot_dy {place least step D : Int} {k : Nat} (c : Col place least step k D) (hs : 0 < step) (x : Int) : div (sub (dy (least + 16 * step) k) (dy (pt place least step x) k)) (dy (16 * step) k) = dy (16 - wt place x) 4 := by
  have a := wt_lo place x
  have a1 : 0 ≤ 16 - wt place x := Int.sub_nonneg_of_le a.2
  have e1 : least + 16 * step - pt place least step x = step * (16 - wt place x) := part_sub ..
  have h1 := Int.mul_nonneg (Int.le_of_lt hs) a1
  have h2 : step * (16 - wt place x) ≤ 2 * D := by
    have := Int.mul_le_mul_of_nonneg_left (show 16 - wt place x ≤ 16 from Int.sub_le_self _ a.1) (Int.le_of_lt hs)
    rw [Int.mul_comm step 16] at this
    exact Int.le_trans this (bd_both c.l0 c.s0 c.top).2.2.2.2.1
  rw [dy_sub c.dep.k1 c.b.nm (c.b.np x), e1, dy_quot (a' := 16 - wt place x) (b' := 2 ^ 4) c.dep.k1 (c.dep.nat h1 h2) c.b.ns h1 (Int.mul_pos (by decide) hs) a1 (by decide) (by
    rw [show (2 : Int) ^ 4 = 16 from rfl]; ac_rfl)]
  exact dy_frac a1
theorem top_iff {place least step : Int} (hs : 0 < step) (x : Int) : (pt place least step x = least + 16 * step) ↔ wt place x = 16 := by
  constructor
  · intro e
    have e := Int.add_left_cancel e
    rw [Int.mul_comm 16] at e
    exact Int.eq_of_mul_eq_mul_left (Int.ne_of_gt hs) e
  · exact pt_16
theorem hue_run {place least step D : Int} {k : Nat} (c : Col place least step k D) (hs : 0 < step) :
    hueE (dy (pt place least step 0) k) (dy (pt place least step 32) k) (dy (pt place least step 64) k) (dy (least + 16 * step) k) (dy least k) = fracBits place 96 := by
  have hk := c.dep.k1
  rw [← hue_eq c.p0 c.p1]
  unfold hueE hueF
  rw [dy_eqq hk (c.b.np 0) c.b.nm, dy_eqq hk (c.b.np 32) c.b.nm, range_dy c, quot_dy c hs, quot_dy c hs, quot_dy c hs]
  simp only [decide_eq_true_eq, top_iff hs]
theorem lt_most {l s : Int} (h : 0 < s) : l < l + 16 * s := Int.lt_add_of_pos_right _ (Int.mul_pos (by decide) h)
theorem cmp_mn {place least step D : Int} {k : Nat} (c : Col place least step k D) (hs : 0 < step) : cmp (dy least k) (dy (least + 16 * step) k) = some .lt := by
  rw [dy_cmp c.dep.k1 c.b.nl c.b.nm, Int.compare_eq_lt.mpr (lt_most hs)]
theorem rng_nz {place least step D : Int} {k : Nat} (c : Col place least step k D) (hs : 0 < step) : isZero (sub (dy (least + 16 * step) k) (dy least k)) = false := by
  rw [range_dy c]; exact dy_isZero c.dep.k1 c.b.ns (Int.ne_of_gt (Int.mul_pos (by decide) hs))
theorem hsv_told {place least step D : Int} {k : Nat} (c : Col place least step k D) (hs : 0 < step) :
    rgb_to_hsv_sp [.float (dy (pt place least step 0) k), .float (dy (pt place least step 32) k), .float (dy (pt place least step 64) k)] =
      some (.tuple [.float (fracBits place 96), .float (fracBits (16 * step) (least + 16 * step)), .float (dy (least + 16 * step) k)]) := by
  have x := ext_of c
  have s16 : 0 ≤ 16 * step := Int.mul_nonneg (by decide) c.s0
  rw [hsv_run x.mx x.mn (cmp_mn c hs) (dy_isZero c.dep.k1 c.b.nm (Int.ne_of_gt c.pos)) (rng_nz c hs), hue_run c hs, range_dy c, dy_quot (a' := 16 * step) (b' := least + 16 * step) c.dep.k1 c.b.ns c.b.nm s16 c.pos s16 c.pos rfl]
end Mine

end
section
open PySem PySem.W PySem.Calls PyProof.Rows
set_option linter.unusedVariables false
set_option maxRecDepth 100000
namespace Mine
open PySem.Float64

theorem dy_scale {p : Int} {k j : Nat} : dy (p * 2 ^ j) (k + j) = dy p k := by
  unfold dy
  have e : ((2 : Int) ^ j) = ((2 ^ j : Nat) : Int) := by simp
  have h : decide (p * 2 ^ j < 0) = decide (p < 0) := by rw [e]; exact mul_pow_sign
  rw [h]
  refine frac_eq (Nat.two_pow_pos _) (Nat.two_pow_pos _) ?_
  rw [e, Int.natAbs_mul, Int.natAbs_natCast, Nat.pow_add]; ac_rfl
theorem two_dy (k : Nat) : (4611686018427387904 : UInt64) = dy (2 * 2 ^ k) k := by
  have h : (4611686018427387904 : UInt64) = dy 2 0 := by decide +kernel
  rw [h]
  have := @dy_scale 2 0 k
  rw [Nat.zero_add] at this
  exact this.symm
theorem half_dy (k : Nat) : (4602678819172646912 : UInt64) = dy (2 ^ k) (k + 1) := by
  have h : (4602678819172646912 : UInt64) = dy 1 1 := by decide +kernel
  rw [h]
  have := @dy_scale 1 1 k
  rw [Int.one_mul, Nat.add_comm] at this
  exact this.symm
theorem half_of {p : Int} {k : Nat} (hk : k ≤ 1073) (hp : p.natAbs ≤ 2 ^ 53) : div (dy p k) 4611686018427387904 = dy p (k + 1) := by
  have h : (4611686018427387904 : UInt64) = dy 2 0 := by decide +kernel
  rw [h, dy_div (by omega) (by omega) hp (by decide) (by decide)]
  unfold dy
  have : (decide ((2 : Int) < 0)) = false := by decide
  rw [this, Bool.bne_false, Nat.pow_zero, Nat.mul_one, Nat.pow_succ, show (2 : Int).natAbs = 2 from rfl, Nat.mul_comm 2]

theorem Dep.npow {k : Nat} {D : Int} (d : Dep k D) : ((2 : Int) ^ k).natAbs ≤ 2 ^ 53 := by
  rw [← d.hD]; exact d.nat (Int.le_of_lt d.pos) (by have := d.pos; omega)
theorem le_or {a b : Int} : (a < b ∨ a = b) ↔ a ≤ b := by omega
theorem light_cmp {p D : Int} {k : Nat} (d : Dep k D) (hp : p.natAbs ≤ 2 ^ 53) : (cmp (dy p (k + 1)) 4602678819172646912 == some .lt || cmp (dy p (k + 1)) 4602678819172646912 == some .eq) = decide (p ≤ D) := by
  rw [half_dy k, dy_lt d.k2 hp d.npow, dy_eqq d.k2 hp d.npow, ← d.hD, ← Bool.decide_or]
  exact decide_eq_decide.mpr le_or
theorem dark {l s D : Int} (h0 : 0 < l + 16 * s) (h1 : l + 16 * s < D) (h2 : 0 ≤ l) (h3 : 0 ≤ s) : 0 < 2 * D - (l + 16 * s) - l ∧ 0 ≤ 2 * D - (l + 16 * s) ∧ 2 * D - (l + 16 * s) - l ≤ 2 * D ∧ 2 * D - (l + 16 * s) ≤ 2 * D ∧ 0 < l + 16 * s + l ∧ 2 * D ≤ 2 * D ∧ 0 ≤ 2 * D := by omega
theorem min_lo {b D : Int} (h : b ≤ D) : min b (2 * D - b) = b := by omega
theorem min_hi {l s D : Int} (h : ¬ l + 16 * s + l ≤ D) : min (l + (l + 16 * s)) (2 * D - (l + (l + 16 * s))) = 2 * D - (l + 16 * s) - l := by omega
theorem hls_told {place least step D : Int} {k : Nat} (c : Col place least step k D) (hs : 0 < step) :
    rgb_to_hls_sp [.float (dy (pt place least step 0) k), .float (dy (pt place least step 32) k), .float (dy (pt place least step 64) k)] =
      some (.tuple [.float (fracBits place 96), .float (dy (least + (least + 16 * step)) (k + 1)), .float (fracBits (16 * step) (min (least + (least + 16 * step)) (2 * D - (least + (least + 16 * step)))))]) := by
  have hk := c.dep.k1
  obtain ⟨d1, d2, d3, d4, d5, d6, d7⟩ := dark c.pos c.top c.l0 c.s0
  have b := c.b
  have nb : (least + 16 * step + least).natAbs ≤ 2 ^ 53 := by rw [Int.add_comm]; exact b.nb
  have n5 : (2 * D - (least + 16 * step)).natAbs ≤ 2 ^ 53 := c.dep.nat d2 d4
  have n6 : (2 * D - (least + 16 * step) - least).natAbs ≤ 2 ^ 53 := c.dep.nat (Int.le_of_lt d1) d3
  have n2 : (2 * D).natAbs ≤ 2 ^ 53 := c.dep.nat d7 d6
  have x := ext_of c
  have s16 : 0 ≤ 16 * step := Int.mul_nonneg (by decide) c.s0
  have e1 : add (dy (least + 16 * step) k) (dy least k) = dy (least + 16 * step + least) k := dy_add hk b.nm b.nl
  have e3 : sub (sub 4611686018427387904 (dy (least + 16 * step) k)) (dy least k) = dy (2 * D - (least + 16 * step) - least) k := by
    rw [two_dy k, ← c.dep.hD, dy_sub hk n2 b.nm, dy_sub hk n5 b.nl]
  rw [hls_run x.mx x.mn (cmp_mn c hs) (by rw [e1]; exact dy_isZero hk nb (Int.ne_of_gt d5)) (rng_nz c hs) (by rw [e3]; exact dy_isZero hk n6 (Int.ne_of_gt d1)), hue_run c hs, e1, range_dy c, e3, half_of (Nat.le_of_succ_le_succ c.dep.k2) nb, light_cmp c.dep nb]
  have es : (if decide (least + 16 * step + least ≤ D) = true then div (dy (16 * step) k) (dy (least + 16 * step + least) k) else div (dy (16 * step) k) (dy (2 * D - (least + 16 * step) - least) k)) = fracBits (16 * step) (min (least + (least + 16 * step)) (2 * D - (least + (least + 16 * step)))) := by
    by_cases h : least + 16 * step + least ≤ D
    · rw [if_pos (decide_eq_true h), Int.add_comm least (least + 16 * step), min_lo h]
      exact dy_quot hk b.ns nb s16 d5 s16 d5 rfl
    · rw [if_neg (by rw [decide_eq_true_eq]; exact h), min_hi h]
      exact dy_quot hk b.ns n6 s16 d1 s16 d1 rfl
  rw [es, Int.add_comm (least + 16 * step) least]
theorem max_self {x : UInt64} (h : cmp x x = some .eq) : spMax [.float x, .float x, .float x] = some (.float x) ∧ spMin [.float x, .float x, .float x] = some (.float x) := by
  constructor
  · simp [spMax, h, pvLt]
  · simp [spMin, h, pvLt]
theorem hsv_grey {x : UInt64} (h : cmp x x = some .eq) : rgb_to_hsv_sp [.float x, .float x, .float x] = some (.tuple [.float 0, .float 0, .float x]) := by
  obtain ⟨h1, h2⟩ := max_self h
  have key : Ret (.tuple [.float 0, .float 0, .float x]) (rgb_to_hsv_d [.fz (.float x), .fz (.float x), .fz (.float x), .un, .un, .un, .un, .un, .un, .un, .un, .un]) := by
    unfold rgb_to_hsv_d
    refine r_asg (ev_call rfl h1) ?_; dsimp only [List.set]
    refine r_asg (ev_call rfl h2) ?_; dsimp only [List.set]
    refine r_asg rfl ?_; dsimp only [List.set]
    refine r_asg rfl ?_; dsimp only [List.set]
    refine r_ifT (ev_cmp rfl rfl (show some (cmp x x == some .eq) = some true by rw [h]; rfl)) (r_assoc (r_ret rfl))
  exact r_fn rfl key
theorem hls_grey {x : UInt64} (h : cmp x x = some .eq) : rgb_to_hls_sp [.float x, .float x, .float x] = some (.tuple [.float 0, .float (div (add x x) 4611686018427387904), .float 0]) := by
  have q2 : isZero 4611686018427387904 = false := by kernel_rfl
  have dv : ∀ {a b : UInt64}, isZero b = false → pvBin .Div (.float a) (.float b) = some (.float (div a b)) := fun h => if_pos h
  obtain ⟨h1, h2⟩ := max_self h
  have key : Ret (.tuple [.float 0, .float (div (add x x) 4611686018427387904), .float 0]) (rgb_to_hls_d [.fz (.float x), .fz (.float x), .fz (.float x), .un, .un, .un, .un, .un, .un, .un, .un, .un, .un]) := by
    unfold rgb_to_hls_d
    refine r_asg (ev_call rfl h1) ?_; dsimp only [List.set]
    refine r_asg (ev_call rfl h2) ?_; dsimp only [List.set]
    refine r_asg rfl ?_; dsimp only [List.set]
    refine r_asg rfl ?_; dsimp only [List.set]
    refine r_asg (ev_bin rfl rfl (dv q2)) ?_; dsimp only [List.set]
    refine r_ifT (ev_cmp rfl rfl (show some (cmp x x == some .eq) = some true by rw [h]; rfl)) (r_assoc (r_ret rfl))
  exact r_fn rfl key
end Mine

end
section
open PySem PySem.W PySem.Calls PyProof.Rows
set_option linter.unusedVariables false
set_option maxRecDepth 100000
namespace Mine
open PySem.Float64

theorem rat_prod {A a e d : Rat} (h1 : -A ≤ a) (h2 : a ≤ A) (h3 : -e ≤ d) (h4 : d ≤ e) : a * d ≤ A * e ∧ -(A * e) ≤ a * d := by
  have p1 : 0 ≤ (A - a) * (e + d) := Rat.mul_nonneg (by grind) (by grind)
  have p2 : 0 ≤ (A + a) * (e - d) := Rat.mul_nonneg (by grind) (by grind)
  have p3 : 0 ≤ (A - a) * (e - d) := Rat.mul_nonneg (by grind) (by grind)
  have p4 : 0 ≤ (A + a) * (e + d) := Rat.mul_nonneg (by grind) (by grind)
  constructor <;> grind
theorem ep_pos : 0 < ep := by unfold ep; decide +kernel
theorem pw3 : pw 3 = 8 := by unfold pw; rfl
theorem pw7 : pw 7 = 128 := by unfold pw; rfl
theorem near_add {x y : UInt64} {a b e f : Rat} (hx : Near x a e) (hy : Near y b f) (a1 : -3 ≤ a) (a2 : a ≤ 3) (b1 : -3 ≤ b) (b2 : b ≤ 3) (he : e ≤ 1 / 10) (hf : f ≤ 1 / 10) : Near (add x y) (a + b) (e + f + 8 * ep) := by
  obtain ⟨x0, x1, x2⟩ := hx
  obtain ⟨y0, y1, y2⟩ := hy
  have := add_near 3 (by decide) x0 y0 (by rw [pw3]; grind) (by rw [pw3]; grind)
  obtain ⟨z0, z1, z2⟩ := this
  rw [pw3] at z1 z2
  exact ⟨z0, by grind, by grind⟩
theorem near_sub {x y : UInt64} {a b e f : Rat} (hx : Near x a e) (hy : Near y b f) (a1 : -3 ≤ a) (a2 : a ≤ 3) (b1 : -3 ≤ b) (b2 : b ≤ 3) (he : e ≤ 1 / 10) (hf : f ≤ 1 / 10) : Near (sub x y) (a - b) (e + f + 8 * ep) := by
  obtain ⟨x0, x1, x2⟩ := hx
  obtain ⟨y0, y1, y2⟩ := hy
  have := sub_near 3 (by decide) x0 y0 (by rw [pw3]; grind) (by rw [pw3]; grind)
  obtain ⟨z0, z1, z2⟩ := this
  rw [pw3] at z1 z2
  exact ⟨z0, by grind, by grind⟩
theorem near_mul {x y : UInt64} {a b e f : Rat} (hx : Near x a e) (hy : Near y b f) (a1 : -8 ≤ a) (a2 : a ≤ 8) (b1 : -8 ≤ b) (b2 : b ≤ 8) (e0 : 0 ≤ e) (f0 : 0 ≤ f) (he : e ≤ 1 / 10) (hf : f ≤ 1 / 10) : Near (mul x y) (a * b) (9 * e + 9 * f + 128 * ep) := by
  obtain ⟨x0, x1, x2⟩ := hx
  obtain ⟨y0, y1, y2⟩ := hy
  have d1 := rat_prod (A := 8) (a := a) (e := f) (d := rv y - b) a1 a2 (by grind) (by grind)
  have d2 := rat_prod (A := 8) (a := b) (e := e) (d := rv x - a) b1 b2 (by grind) (by grind)
  have d3 := rat_prod (A := e) (a := rv x - a) (e := f) (d := rv y - b) (by grind) (by grind) (by grind) (by grind)
  have d4 := rat_prod (A := 8) (a := a) (e := 8) (d := b) a1 a2 b1 b2
  have d5 : e * f ≤ 1 / 10 * f := by
    have : 0 ≤ (1 / 10 - e) * f := Rat.mul_nonneg (by grind) f0
    grind
  have ex : rv x * rv y = a * b + a * (rv y - b) + b * (rv x - a) + (rv x - a) * (rv y - b) := by grind
  obtain ⟨t1, t2⟩ := d1; obtain ⟨t3, t4⟩ := d2; obtain ⟨t5, t6⟩ := d3; obtain ⟨t7, t8⟩ := d4
  generalize a * b = p at *
  generalize a * (rv y - b) = q at *
  generalize b * (rv x - a) = r at *
  generalize (rv x - a) * (rv y - b) = u at *
  clear x1 x2 y1 y2 a1 a2 b1 b2
  have := mul_near 7 (by decide) x0 y0 (by rw [pw7, ex]; grind) (by rw [pw7, ex]; grind)
  obtain ⟨z0, z1, z2⟩ := this
  rw [pw7, ex] at z1 z2
  clear ex x0 y0
  exact ⟨z0, by grind, by grind⟩
theorem Near.mono {x : UInt64} {r e f : Rat} (h : Near x r e) (q : e ≤ f) : Near x r f := ⟨h.1, by have := h.2.1; grind, by have := h.2.2; grind⟩
theorem Near.eq {x : UInt64} {r r' e : Rat} (h : Near x r e) (q : r = r') : Near x r' e := q ▸ h

theorem dy_rv {p : Int} {k : Nat} (hk : k ≤ 1074) (hp : p.natAbs ≤ 2 ^ 53) : FinF (dy p k) ∧ rv (dy p k) * ((2 ^ k : Nat) : Rat) = (p : Rat) := by
  obtain ⟨m, e, d, _⟩ := dy_decode hk hp
  refine ⟨⟨_, _, _, d⟩, ?_⟩
  have hv := dy_val hk hp
  have r := rv_mul (dy p k)
  rw [hv, Rat.intCast_mul, Rat.intCast_natCast] at r
  have hK : KK = ((2 ^ (1074 - k) : Nat) : Rat) * ((2 ^ k : Nat) : Rat) := by unfold KK; rw [pow_parts hk, Rat.natCast_mul]
  have h1 : (0 : Rat) < ((2 ^ (1074 - k) : Nat) : Rat) := Rat.natCast_pos.mpr (Nat.two_pow_pos _)
  have h2 : (0 : Rat) < ((2 ^ k : Nat) : Rat) := Rat.natCast_pos.mpr (Nat.two_pow_pos _)
  rw [hK] at r
  generalize ((2 ^ (1074 - k) : Nat) : Rat) = u at *
  generalize ((2 ^ k : Nat) : Rat) = w at *
  generalize rv (dy p k) = z at *
  have : (z * w - p) * u = 0 := by grind
  grind
theorem dy_near {p : Int} {k : Nat} {A : Rat} (hk : k ≤ 1074) (hp : p.natAbs ≤ 2 ^ 53) (hA : ((2 ^ k : Nat) : Rat) * A = 1) : Near (dy p k) ((p : Rat) * A) 0 := by
  obtain ⟨f, e⟩ := dy_rv hk hp
  have : rv (dy p k) = (p : Rat) * A := by rw [← e]; grind
  exact ⟨f, by grind, by grind⟩
theorem frac_nearI {a b : Int} (h0 : 0 ≤ a) (h1 : 0 < b) (h : a ≤ b) {S : Rat} (hS : S * (b : Rat) = (a : Rat)) : Near (fracBits a b) S ep := by
  have := frac_near (neg := false) (n := a.toNat) (d := b.toNat) 0 (by decide) (by omega) (by simp; omega)
  have e : fracBits a b = ofFrac false a.toNat b.toNat := by
    unfold fracBits
    have z3 : ¬ a < 0 := by omega
    have z4 : ¬ b < 0 := by omega
    simp only [z3, z4, decide_false, Bool.bne_false]
    rw [show a.natAbs = a.toNat by omega, show b.natAbs = b.toNat by omega]
  rw [e]
  have hb : ((b.toNat : Nat) : Rat) = (b : Rat) := by rw [← Rat.intCast_natCast, show ((b.toNat : Nat) : Int) = b by omega]
  have ha : (sgn false a.toNat : Rat) = (a : Rat) := by
    rw [show sgn false a.toNat = ((a.toNat : Nat) : Int) from rfl, show ((a.toNat : Nat) : Int) = a by omega]
  rw [hb, ha] at this
  have hbp : (0 : Rat) < (b : Rat) := Rat.intCast_pos.mpr h1
  have p0 : pw 0 = 1 := by unfold pw; rfl
  rw [p0] at this
  have e2 : (a : Rat) / (b : Rat) = S := by rw [← hS]; grind
  rw [e2] at this
  exact this.mono (by grind)

/-! errors as so many ep -/
noncomputable def En (n : Nat) : Rat := (n : Rat) * ep
noncomputable def UR (r : Rat) : Prop := 0 ≤ r ∧ r ≤ 1
theorem UR.sub1 {r : Rat} (h : UR r) : UR (1 - r) := by obtain ⟨a, b⟩ := h; exact ⟨by grind, by grind⟩
theorem UR.mul {a b : Rat} (h : UR a) (g : UR b) : UR (a * b) := by
  have p := rat_prod (A := 1) (a := a) (e := 1) (d := b) (by have := h.1; grind) h.2 (by have := g.1; grind) g.2
  exact ⟨Rat.mul_nonneg h.1 g.1, by have := p.1; grind⟩
theorem En_mono {n m : Nat} (h : n ≤ m) : En n ≤ En m := by
  have : ((n : Nat) : Rat) ≤ (m : Rat) := Rat.natCast_le_natCast.mpr h
  have := Rat.mul_nonneg (show (0 : Rat) ≤ (m : Rat) - (n : Rat) by grind) (Rat.le_of_lt ep_pos)
  unfold En; grind
theorem En_ok {n : Nat} (h : n ≤ 100000) : 0 ≤ En n ∧ En n ≤ 1 / 10 := by
  have a := En_mono (Nat.zero_le n)
  have b := En_mono h
  have c : En 0 = 0 := by unfold En; decide +kernel
  have d : En 100000 ≤ 1 / 10 := by unfold En ep; decide +kernel
  exact ⟨by grind, by grind⟩
theorem near_addN {x y : UInt64} {a b : Rat} {n m : Nat} (hx : Near x a (En n)) (hy : Near y b (En m)) (a1 : -3 ≤ a) (a2 : a ≤ 3) (b1 : -3 ≤ b) (b2 : b ≤ 3) (hn : n ≤ 100000) (hm : m ≤ 100000) : Near (add x y) (a + b) (En (n + m + 8)) :=
  (near_add hx hy a1 a2 b1 b2 (En_ok hn).2 (En_ok hm).2).mono (by unfold En; rw [Rat.natCast_add, Rat.natCast_add]; have : ((8 : Nat) : Rat) = 8 := rfl; grind)
theorem near_subN {x y : UInt64} {a b : Rat} {n m : Nat} (hx : Near x a (En n)) (hy : Near y b (En m)) (a1 : -3 ≤ a) (a2 : a ≤ 3) (b1 : -3 ≤ b) (b2 : b ≤ 3) (hn : n ≤ 100000) (hm : m ≤ 100000) : Near (sub x y) (a - b) (En (n + m + 8)) :=
  (near_sub hx hy a1 a2 b1 b2 (En_ok hn).2 (En_ok hm).2).mono (by unfold En; rw [Rat.natCast_add, Rat.natCast_add]; have : ((8 : Nat) : Rat) = 8 := rfl; grind)
theorem near_mulN {x y : UInt64} {a b : Rat} {n m : Nat} (hx : Near x a (En n)) (hy : Near y b (En m)) (a1 : -8 ≤ a) (a2 : a ≤ 8) (b1 : -8 ≤ b) (b2 : b ≤ 8) (hn : n ≤ 100000) (hm : m ≤ 100000) : Near (mul x y) (a * b) (En (9 * n + 9 * m + 128)) :=
  (near_mul hx hy a1 a2 b1 b2 (En_ok hn).1 (En_ok hm).1 (En_ok hn).2 (En_ok hm).2).mono (by unfold En; rw [Rat.natCast_add, Rat.natCast_add, Rat.natCast_mul, Rat.natCast_mul]; have : ((9 : Nat) : Rat) = 9 := rfl; have : ((128 : Nat) : Rat) = 128 := rfl; grind)
theorem one_near : Near 4607182418800017408 1 (En 0) := by
  have e : (4607182418800017408 : UInt64) = dy 1 0 := by decide +kernel
  rw [e]; exact (dy_near (A := 1) (by decide) (by decide) (by decide +kernel)).eq (by decide +kernel) |>.mono (by decide +kernel)
theorem two_near : Near 4611686018427387904 2 (En 0) := by
  have e : (4611686018427387904 : UInt64) = dy 2 0 := by decide +kernel
  rw [e]; exact (dy_near (A := 1) (by decide) (by decide) (by decide +kernel)).eq (by decide +kernel) |>.mono (by decide +kernel)
theorem six_near : Near 4618441417868443648 6 (En 0) := by
  have e : (4618441417868443648 : UInt64) = dy 6 0 := by decide +kernel
  rw [e]; exact (dy_near (A := 1) (by decide) (by decide) (by decide +kernel)).eq (by decide +kernel) |>.mono (by decide +kernel)
theorem c31 : (-3 : Rat) ≤ 1 ∧ (1 : Rat) ≤ 3 ∧ (-8 : Rat) ≤ 1 ∧ (1 : Rat) ≤ 8 ∧ (-8 : Rat) ≤ 2 ∧ (2 : Rat) ≤ 8 ∧ (-8 : Rat) ≤ 6 ∧ (6 : Rat) ≤ 8 ∧ (-3 : Rat) ≤ 0 ∧ (-8 : Rat) ≤ 0 := by decide +kernel
theorem UR.l3 {r : Rat} (h : UR r) : -3 ≤ r := Rat.le_trans c31.2.2.2.2.2.2.2.2.1 h.1
theorem UR.u3 {r : Rat} (h : UR r) : r ≤ 3 := Rat.le_trans h.2 c31.2.1
theorem UR.l8 {r : Rat} (h : UR r) : -8 ≤ r := Rat.le_trans c31.2.2.2.2.2.2.2.2.2 h.1
theorem UR.u8 {r : Rat} (h : UR r) : r ≤ 8 := Rat.le_trans h.2 c31.2.2.2.1
theorem one_subN {x : UInt64} {r : Rat} {n : Nat} (h : Near x r (En n)) (u : UR r) (hn : n ≤ 100000) : Near (sub 4607182418800017408 x) (1 - r) (En (0 + n + 8)) :=
  near_subN one_near h c31.1 c31.2.1 u.l3 u.u3 (Nat.zero_le _) hn
theorem mul1N {x y : UInt64} {a b : Rat} {n m : Nat} (hx : Near x a (En n)) (hy : Near y b (En m)) (u : UR a) (v : UR b) (hn : n ≤ 100000) (hm : m ≤ 100000) : Near (mul x y) (a * b) (En (9 * n + 9 * m + 128)) :=
  near_mulN hx hy u.l8 u.u8 v.l8 v.u8 hn hm
theorem b_add {a b : Rat} (u : UR a) (v : UR b) : -3 ≤ a + b ∧ a + b ≤ 3 ∧ -8 ≤ 1 + b ∧ 1 + b ≤ 8 ∧ -3 ≤ 2 * a ∧ 2 * a ≤ 3 := by
  obtain ⟨a1, a2⟩ := u; obtain ⟨b1, b2⟩ := v
  exact ⟨by grind, by grind, by grind, by grind, by grind, by grind⟩
/-- l * (1.0 + s) -/
theorem lift_lo {l s : UInt64} {a b : Rat} (hl : Near l a (En 0)) (hs : Near s b (En 1)) (u : UR a) (v : UR b) : Near (mul l (add 4607182418800017408 s)) (a * (1 + b)) (En 209) :=
  (near_mulN hl (near_addN one_near hs c31.1 c31.2.1 v.l3 v.u3 (by decide) (by decide)) u.l8 u.u8 (b_add u v).2.2.1 (b_add u v).2.2.2.1 (by decide) (by decide)).mono (En_mono (by decide))
/-- l + s - l * s -/
theorem lift_hi {l s : UInt64} {a b : Rat} (hl : Near l a (En 0)) (hs : Near s b (En 1)) (u : UR a) (v : UR b) : Near (sub (add l s) (mul l s)) (a + b - a * b) (En 154) :=
  (near_subN (near_addN hl hs u.l3 u.u3 v.l3 v.u3 (by decide) (by decide)) (mul1N hl hs u v (by decide) (by decide)) (b_add u v).1 (b_add u v).2.1 (u.mul v).l3 (u.mul v).u3 (by decide) (by decide)).mono (En_mono (by decide))
/-- 2.0 * l - m -/
theorem twice_sub {l m2 : UInt64} {a b : Rat} (hl : Near l a (En 0)) (hm2 : Near m2 b (En 209)) (u : UR a) (v : UR b) : Near (sub (mul 4611686018427387904 l) m2) (2 * a - b) (En 345) :=
  (near_subN (near_mulN two_near hl c31.2.2.2.2.1 c31.2.2.2.2.2.1 u.l8 u.u8 (by decide) (by decide)) hm2 (b_add u v).2.2.2.2.1 (b_add u v).2.2.2.2.2 v.l3 v.u3 (by decide) (by decide)).mono (En_mono (by decide))
theorem UR.diff {a b : Rat} (u : UR a) (v : UR b) (h : a ≤ b) : UR (b - a) := by
  have := u.1; have := v.2
  exact ⟨by grind, by grind⟩
theorem UR.six {c : Rat} (c0 : 0 ≤ c) (c6 : c * 6 ≤ 1) : UR c := ⟨c0, by grind⟩
theorem six_bd {w c : Rat} (u : UR w) (c0 : 0 ≤ c) (c6 : c * 6 ≤ 1) : -3 ≤ w * c * 6 ∧ w * c * 6 ≤ 3 := by
  have p := u.mul ⟨by grind, c6⟩
  obtain ⟨p1, p2⟩ := p
  exact ⟨by grind, by grind⟩
/-- m1 + (m2 - m1) * g * 6.0 -/
theorem ramp {m1 m2 g : UInt64} {a b c : Rat} (h1 : Near m1 a (En 345)) (h2 : Near m2 b (En 209)) (hg : Near g c (En 256)) (u : UR a) (v : UR b) (hab : a ≤ b) (c0 : 0 ≤ c) (c6 : c * 6 ≤ 1) :
    Near (add m1 (mul (mul (sub m2 m1) g) 4618441417868443648)) (a + (b - a) * c * 6) (En 70000) :=
  have w := u.diff v hab
  have wc := UR.six c0 c6
  have x2 := mul1N (near_subN h2 h1 v.l3 v.u3 u.l3 u.u3 (by decide) (by decide)) hg w wc (by decide) (by decide)
  have x3 := near_mulN x2 six_near (w.mul wc).l8 (w.mul wc).u8 c31.2.2.2.2.2.2.1 c31.2.2.2.2.2.2.2.1 (by decide) (by decide)
  (near_addN h1 x3 u.l3 u.u3 (six_bd w c0 c6).1 (six_bd w c0 c6).2 (by decide) (by decide)).mono (En_mono (by decide))

/-- rounding to the next whole number -/
theorem half_nat {n d N : Nat} (hd : 0 < d) (h1 : 2 * n < 2 * (N * d) + d) (h2 : 2 * (N * d) < 2 * n + d) : halfEven n d = N := by
  have hm := Nat.div_add_mod n d
  have hr := Nat.mod_lt n hd
  unfold halfEven
  simp only
  have q1 : n / d < N + 1 := by
    refine (Nat.div_lt_iff_lt_mul hd).mpr ?_
    rw [Nat.add_mul, Nat.one_mul]; omega
  have q2 : N ≤ n / d + 1 := by
    have : N * d < (n / d + 1 + 1) * d := by
      rw [Nat.add_mul, Nat.add_mul, Nat.one_mul, Nat.mul_comm (n / d)]; omega
    have := Nat.lt_of_mul_lt_mul_right this
    omega
  generalize n / d = q at *
  generalize n % d = r at *
  rcases Nat.lt_or_ge q N with z | z
  · have : N = q + 1 := by omega
    subst this
    rw [Nat.add_mul, Nat.one_mul, Nat.mul_comm q] at h2
    have : 2 * r > d := by omega
    simp [this]
  · have : N = q := by omega
    subst this
    rw [Nat.mul_comm N] at h1
    have c1 : ¬ 2 * r > d := by omega
    have c2 : ¬ 2 * r = d := by omega
    simp [c1, c2]
theorem round_near {x : UInt64} {N : Nat} {e : Rat} (h : Near x (N : Rat) e) (he : e < 1 / 2) : spRound [.float x] = some (.int (N : Int)) := by
  obtain ⟨⟨s, m, g, d⟩, h1, h2⟩ := h
  have hf : isFinite x = true := by unfold isFinite; rw [d]
  show (if isFinite x = true then some (PV.int (PySem.Flt.toInt nearestOf x)) else none) = _
  rw [if_pos hf]
  have hg := decode_ge d
  have so := shift_one m g 1074 (by omega)
  have ed : (shift m 1 g).2 > 0 := shift_pos _ _ _ (by decide)
  have ht : PySem.Flt.toInt nearestOf x = sgn s (halfEven (shift m 1 g).1 (shift m 1 g).2) := by unfold PySem.Flt.toInt; rw [d]; rfl
  rw [ht]
  have hv := val_eq d
  have rr := rv_mul x
  generalize (shift m 1 g).1 = n at *
  generalize (shift m 1 g).2 = D at *
  have e1 : val x * (D : Int) = sgn s n * (KN : Int) := by
    rw [hv, ← sgn_mul, ← sgn_mul, ← KN_eq, so]; rfl
  have hK := KK_pos
  have e2 : rv x * (D : Rat) = ((sgn s n : Int) : Rat) := by
    have : ((val x * (D : Int) : Int) : Rat) = ((sgn s n * (KN : Int) : Int) : Rat) := by rw [e1]
    rw [Rat.intCast_mul, Rat.intCast_mul, Rat.intCast_natCast, Rat.intCast_natCast] at this
    have : (rv x * (D : Rat) - ((sgn s n : Int) : Rat)) * KK = 0 := by
      have hh : ((KN : Nat) : Rat) = KK := rfl
      rw [hh] at this
      grind
    grind
  have hD : (0 : Rat) < (D : Rat) := Rat.natCast_pos.mpr ed
  have a1 : 2 * ((sgn s n : Int) : Rat) < 2 * ((N : Rat) * (D : Rat)) + (D : Rat) := by
    have : 0 < (1 / 2 - (rv x - N)) * (D : Rat) := Rat.mul_pos (by grind) hD
    rw [← e2]; grind
  have a2 : 2 * ((N : Rat) * (D : Rat)) < 2 * ((sgn s n : Int) : Rat) + (D : Rat) := by
    have : 0 < (1 / 2 - (N - rv x)) * (D : Rat) := Rat.mul_pos (by grind) hD
    rw [← e2]; grind
  have b1 : 2 * sgn s n < 2 * ((N * D : Nat) : Int) + (D : Int) := by
    apply Rat.intCast_lt_intCast.mp
    rw [Rat.intCast_add, Rat.intCast_mul, Rat.intCast_mul, Rat.intCast_natCast, Rat.intCast_natCast, Rat.natCast_mul]; exact a1
  have b2 : 2 * ((N * D : Nat) : Int) < 2 * sgn s n + (D : Int) := by
    apply Rat.intCast_lt_intCast.mp
    rw [Rat.intCast_add, Rat.intCast_mul, Rat.intCast_mul, Rat.intCast_natCast, Rat.intCast_natCast, Rat.natCast_mul]; exact a2
  cases s with
  | false =>
    have z : sgn false n = (n : Int) := rfl
    rw [z] at b1 b2
    rw [half_nat ed (N := N) (by omega) (by omega)]; rfl
  | true =>
    have z : sgn true n = -(n : Int) := rfl
    rw [z] at b1 b2
    have hN : N = 0 := by
      rcases Nat.eq_zero_or_pos N with q | q
      · exact q
      · have := Nat.mul_le_mul_right D q; omega
    subst hN
    rw [half_nat ed (N := 0) (by omega) (by omega)]; rfl
end Mine

end
section
open PySem PySem.W PySem.Calls PyProof.Rows
set_option linter.unusedVariables false
set_option maxRecDepth 100000
namespace Mine
open PySem.Float64

noncomputable def pickC {α : Type} (i : Int) (v t p q : α) : α × α × α :=
  if i = 0 then (v, t, p) else if i = 1 then (q, v, p) else if i = 2 then (p, v, t) else if i = 3 then (p, q, v) else if i = 4 then (t, p, v) else (v, p, q)
theorem hsvb_run {h s v : UInt64} {i : Int} (hs : (cmp s 0 == some .eq) = false) (hi : spInt [.float (mul h 4618441417868443648)] = some (.int i)) (i0 : 0 ≤ i) (i5 : i ≤ 5) {f p q t : UInt64}
    (ef : f = sub (mul h 4618441417868443648) (ofInt i)) (e1 : p = mul v (sub 4607182418800017408 s)) (e2 : q = mul v (sub 4607182418800017408 (mul s f))) (e3 : t = mul v (sub 4607182418800017408 (mul s (sub 4607182418800017408 f)))) :
    hsv_to_rgb_sp [.float h, .float s, .float v] = some (.tuple [.float (pickC i v t p q).1, .float (pickC i v t p q).2.1, .float (pickC i v t p q).2.2]) := by
  refine r_fn rfl ?_
  show Ret _ (hsv_to_rgb_d [.fz (.float h), .fz (.float s), .fz (.float v), .un, .un, .un, .un, .un])
  unfold hsv_to_rgb_d
  refine r_ifF (ev_cmp rfl rfl (show some (cmp s 0 == some .eq) = some false by rw [hs])) (r_end ?_)
  refine r_asg (ev_call rfl hi) ?_; dsimp only [List.set]
  refine r_asg (v := .float f) (ev_bin rfl rfl (by rw [ef]; exact if_pos (show i.natAbs < 18446744073709551616 by omega))) ?_; dsimp only [List.set]
  refine r_asg (v := .float p) (by rw [e1]; rfl) ?_; dsimp only [List.set]
  refine r_asg (v := .float q) (by rw [e2]; rfl) ?_; dsimp only [List.set]
  refine r_asg (v := .float t) (by rw [e3]; rfl) ?_; dsimp only [List.set]
  refine r_asg (v := .int i) (ev_bin rfl rfl (by rw [modI (by decide), Int.emod_eq_of_lt i0 (by omega)])) ?_; dsimp only [List.set]
  have hc : i = 0 ∨ i = 1 ∨ i = 2 ∨ i = 3 ∨ i = 4 ∨ i = 5 := by omega
  rcases hc with rfl | rfl | rfl | rfl | rfl | rfl
  · exact r_ifT rfl (r_assoc (r_ret rfl))
  · exact r_ifF rfl (r_end (r_ifT rfl (r_assoc (r_ret rfl))))
  · exact r_ifF rfl (r_end (r_ifF rfl (r_end (r_ifT rfl (r_assoc (r_ret rfl))))))
  · exact r_ifF rfl (r_end (r_ifF rfl (r_end (r_ifF rfl (r_end (r_ifT rfl (r_assoc (r_ret rfl))))))))
  · exact r_ifF rfl (r_end (r_ifF rfl (r_end (r_ifF rfl (r_end (r_ifF rfl (r_end (r_ifT rfl (r_assoc (r_ret rfl))))))))))
  · exact r_ifF rfl (r_end (r_ifF rfl (r_end (r_ifF rfl (r_end (r_ifF rfl (r_end (r_ifF rfl (r_end (r_ifT rfl (r_assoc (r_ret rfl))))))))))))
theorem hsvb_grey {h s v : UInt64} (hs : (cmp s 0 == some .eq) = true) : hsv_to_rgb_sp [.float h, .float s, .float v] = some (.tuple [.float v, .float v, .float v]) := by
  refine r_fn rfl ?_
  show Ret _ (hsv_to_rgb_d [.fz (.float h), .fz (.float s), .fz (.float v), .un, .un, .un, .un, .un])
  unfold hsv_to_rgb_d
  exact r_ifT (ev_cmp rfl rfl (show some (cmp s 0 == some .eq) = some true by rw [hs])) (r_assoc (r_ret rfl))

noncomputable def vF (m1 m2 u : UInt64) : UInt64 :=
  if (cmp u 4595172819793696085 == some .lt) = true then add m1 (mul (mul (sub m2 m1) u) 4618441417868443648)
  else if (cmp u 4602678819172646912 == some .lt) = true then m2
  else if (cmp u 4604180019048437077 == some .lt) = true then add m1 (mul (mul (sub m2 m1) (sub 4604180019048437077 u)) 4618441417868443648)
  else m1
theorem v_run {m1 m2 x : UInt64} : f_v_sp [.float m1, .float m2, .float x] = some (.float (vF m1 m2 (divmod x 4607182418800017408).2)) := by
  have q1 : isZero 4607182418800017408 = false := by kernel_rfl
  have md : pvBin .Mod (.float x) (.float 4607182418800017408) = some (.float (divmod x 4607182418800017408).2) := if_pos q1
  generalize (divmod x 4607182418800017408).2 = u at *
  refine r_fn rfl ?_
  show Ret _ (f_v_d [.fz (.float m1), .fz (.float m2), .fz (.float x)])
  unfold f_v_d vF
  refine r_asg (ev_bin rfl rfl md) ?_; dsimp only [List.set]
  refine r_if (c := cmp u 4595172819793696085 == some .lt) rfl ?_
  cases c0 : (cmp u 4595172819793696085 == some .lt)
  · refine r_end (r_if (c := cmp u 4602678819172646912 == some .lt) rfl ?_)
    cases c1 : (cmp u 4602678819172646912 == some .lt)
    · refine r_end (r_if (c := cmp u 4604180019048437077 == some .lt) rfl ?_)
      cases c2 : (cmp u 4604180019048437077 == some .lt)
      · exact r_end (r_ret rfl)
      · exact r_assoc (r_ret rfl)
    · exact r_assoc (r_ret rfl)
  · exact r_assoc (r_ret rfl)
theorem hlsb_run {h l s m1 m2 : UInt64} (hs : (cmp s 0 == some .eq) = false)
    (e2 : m2 = if (cmp l 4602678819172646912 == some .lt || cmp l 4602678819172646912 == some .eq) = true then mul l (add 4607182418800017408 s) else sub (add l s) (mul l s)) (e1 : m1 = sub (mul 4611686018427387904 l) m2) :
    hls_to_rgb_sp [.float h, .float l, .float s] = some (.tuple [.float (vF m1 m2 (divmod (add h 4599676419421066581) 4607182418800017408).2), .float (vF m1 m2 (divmod h 4607182418800017408).2), .float (vF m1 m2 (divmod (sub h 4599676419421066581) 4607182418800017408).2)]) := by
  refine r_fn rfl ?_
  show Ret _ (hls_to_rgb_d [.fz (.float h), .fz (.float l), .fz (.float s), .un, .un])
  unfold hls_to_rgb_d
  refine r_ifF (ev_cmp rfl rfl (show some (cmp s 0 == some .eq) = some false by rw [hs])) (r_end ?_)
  refine r_if (c := (cmp l 4602678819172646912 == some .lt || cmp l 4602678819172646912 == some .eq)) rfl ?_
  cases c : (cmp l 4602678819172646912 == some .lt || cmp l 4602678819172646912 == some .eq)
  · rw [c] at e2
    refine r_assoc (r_asg (v := .float m2) (by rw [e2]; rfl) (r_end ?_)); dsimp only [List.set]
    refine r_asg (v := .float m1) (by rw [e1]; rfl) ?_; dsimp only [List.set]
    exact r_ret (ev_seq (ev_cons (ev_call rfl v_run) (ev_cons (ev_call rfl v_run) (ev_cons (ev_call rfl v_run) rfl))) (show 3 ≤ 16777216 by decide))
  · rw [c] at e2
    refine r_assoc (r_asg (v := .float m2) (by rw [e2]; rfl) (r_end ?_)); dsimp only [List.set]
    refine r_asg (v := .float m1) (by rw [e1]; rfl) ?_; dsimp only [List.set]
    exact r_ret (ev_seq (ev_cons (ev_call rfl v_run) (ev_cons (ev_call rfl v_run) (ev_cons (ev_call rfl v_run) rfl))) (show 3 ≤ 16777216 by decide))
theorem hlsb_grey {h l s : UInt64} (hs : (cmp s 0 == some .eq) = true) : hls_to_rgb_sp [.float h, .float l, .float s] = some (.tuple [.float l, .float l, .float l]) := by
  refine r_fn rfl ?_
  show Ret _ (hls_to_rgb_d [.fz (.float h), .fz (.float l), .fz (.float s), .un, .un])
  unfold hls_to_rgb_d
  exact r_ifT (ev_cmp rfl rfl (show some (cmp s 0 == some .eq) = some true by rw [hs])) (r_assoc (r_ret rfl))
end Mine

end
section
open PySem PySem.W PySem.Calls PyProof.Rows
set_option linter.unusedVariables false
set_option maxRecDepth 100000
set_option exponentiation.threshold 2000
namespace Mine
open PySem.Float64

/-- close to p / q: within ep times 256 -/
noncomputable def isNear (x : UInt64) (p q : Int) : Bool := isFinite x && decide ((q * val x - p * (KN : Int)).natAbs * 70368744177664 ≤ q.natAbs * KN)
theorem isNear_near {x : UInt64} {p q : Int} (hq : 0 < q) (h : isNear x p q = true) {r : Rat} (hr : r * (q : Rat) = (p : Rat)) : Near x r (256 * ep) := by
  unfold isNear at h
  obtain ⟨h1, h2⟩ := Bool.and_eq_true_iff.mp h
  have h2 := of_decide_eq_true h2
  have hf : FinF x := by
    unfold isFinite at h1
    cases d : decode x with
    | fin a m e => exact ⟨a, m, e, d⟩
    | nan => rw [d] at h1; cases h1
    | inf _ => rw [d] at h1; cases h1
  have r0 := rv_mul x
  have hK := KK_pos
  have hqp : (0 : Rat) < (q : Rat) := Rat.intCast_pos.mpr hq
  have hn : ((q.natAbs * KN : Nat) : Int) = q * (KN : Int) := by rw [Int.natCast_mul, show ((q.natAbs : Nat) : Int) = q by omega]
  have a1 : (q * val x - p * (KN : Int)) * 70368744177664 ≤ q * (KN : Int) := by omega
  have a2 : (p * (KN : Int) - q * val x) * 70368744177664 ≤ q * (KN : Int) := by omega
  have b1 := Rat.intCast_le_intCast.mpr a1
  have b2 := Rat.intCast_le_intCast.mpr a2
  simp only [Rat.intCast_mul, Rat.intCast_sub, Rat.intCast_natCast] at b1 b2
  have hh : ((KN : Nat) : Rat) = KK := rfl
  rw [hh, ← r0, ← hr] at b1 b2
  have c : ((70368744177664 : Int) : Rat) = 70368744177664 := rfl
  rw [c] at b1 b2
  refine ⟨hf, ?_, ?_⟩
  · refine rat_cancel hK (rat_cancel hqp ?_)
    unfold ep; grind
  · refine rat_cancel hK (rat_cancel hqp ?_)
    unfold ep; grind

noncomputable def iOf (x : UInt64) : Int := match decode x with | .fin sg m e => truncOf sg m e | _ => -1
theorem iOf_int {x : UInt64} (h : 0 ≤ iOf x) : spInt [.float x] = some (.int (iOf x)) := by
  unfold iOf at *
  show (match decode x with | .fin sg m e => some (PV.int (truncOf sg m e)) | _ => none) = _
  cases d : decode x with
  | fin a m e => rfl
  | nan => rw [d] at h; exact absurd h (show ¬ (0 : Int) ≤ -1 by decide)
  | inf _ => rw [d] at h; exact absurd h (show ¬ (0 : Int) ≤ -1 by decide)

noncomputable def tblV (p : Nat) : Bool :=
  let x := mul (fracBits (p : Int) 96) 4618441417868443648
  let i := iOf x
  let c := pickC i (16 : Int) ((p : Int) - 16 * i) 0 (16 - ((p : Int) - 16 * i))
  decide (0 ≤ i ∧ i ≤ 5 ∧ 0 ≤ (p : Int) - 16 * i ∧ (p : Int) - 16 * i ≤ 16) && isNear (sub x (ofInt i)) ((p : Int) - 16 * i) 16 && decide (c.1 = wt p 0 ∧ c.2.1 = wt p 32 ∧ c.2.2 = wt p 64)
theorem tblV_ok : ∀ p : Fin 96, tblV p.val = true := by decide +kernel

noncomputable def tblU (u : UInt64) (w : Int) : Bool :=
  if (cmp u 4595172819793696085 == some .lt) = true then isNear u w 96
  else if (cmp u 4602678819172646912 == some .lt) = true then decide (w = 16)
  else if (cmp u 4604180019048437077 == some .lt) = true then isNear (sub 4604180019048437077 u) w 96
  else decide (w = 0)
noncomputable def tblL (p : Nat) : Bool :=
  let h := fracBits (p : Int) 96
  tblU (divmod (add h 4599676419421066581) 4607182418800017408).2 (wt p 0) && tblU (divmod h 4607182418800017408).2 (wt p 32) && tblU (divmod (sub h 4599676419421066581) 4607182418800017408).2 (wt p 64)
theorem tblL_ok : ∀ p : Fin 96, tblL p.val = true := by decide +kernel
end Mine

end
section
open PySem PySem.W PySem.Calls PyProof.Rows
set_option linter.unusedVariables false
set_option maxRecDepth 100000
set_option exponentiation.threshold 2000
namespace Mine
open PySem.Float64

theorem pick_rel {α β : Type} {R : α → β → Prop} {i : Int} {v t p q : α} {v' t' p' q' : β} (hv : R v v') (ht : R t t') (hp : R p p') (hq : R q q') :
    R (pickC i v t p q).1 (pickC i v' t' p' q').1 ∧ R (pickC i v t p q).2.1 (pickC i v' t' p' q').2.1 ∧ R (pickC i v t p q).2.2 (pickC i v' t' p' q').2.2 := by
  unfold pickC
  split
  · exact ⟨hv, ht, hp⟩
  · split
    · exact ⟨hq, hv, hp⟩
    · split
      · exact ⟨hp, hv, ht⟩
      · split
        · exact ⟨hp, hq, hv⟩
        · split
          · exact ⟨ht, hp, hv⟩
          · exact ⟨hv, hp, hq⟩
theorem not_zero {x : UInt64} {r e : Rat} (h : Near x r e) (h1 : e < r) : (cmp x 0 == some .eq) = false := by
  obtain ⟨⟨a, m, g, d⟩, h2, h3⟩ := h
  have z : decode (0 : UInt64) = .fin false 0 (-1074) := by kernel_rfl
  rw [cmp_right d z]
  have hv0 : val (0 : UInt64) = 0 := by rw [val_eq z]; simp [sgn]
  have hp : 0 < rv x := by grind
  have hv : 0 < val x := by
    have r0 := rv_mul x
    have : 0 < rv x * KK := Rat.mul_pos hp KK_pos
    rw [r0] at this
    exact Rat.intCast_pos.mp this
  rw [hv0, Int.compare_eq_gt.mpr hv]; rfl
theorem zero_zero : (cmp (0 : UInt64) 0 == some .eq) = true := by decide +kernel

/-- the rationals of a colour -/
structure Rc (le st M A : Rat) : Prop where
  m : M = le + 16 * st
  l0 : 0 ≤ le * A
  s0 : 0 ≤ st * A
  m1 : M * A ≤ 1
theorem natPow {k : Nat} {D : Int} (d : Dep k D) : ((2 ^ k : Nat) : Rat) = (D : Rat) := by
  rw [d.hD, ← Rat.intCast_natCast]; congr 1
theorem rc_of {place least step D : Int} {k : Nat} (c : Col place least step k D) {A : Rat} (hA : (D : Rat) * A = 1) : Rc (least : Rat) (step : Rat) ((least + 16 * step : Int) : Rat) A := by
  have hD : (0 : Rat) < (D : Rat) := Rat.intCast_pos.mpr (by have := c.dep.bd; omega)
  have l0 : (0 : Rat) ≤ (least : Rat) := Rat.intCast_nonneg.mpr c.l0
  have s0 : (0 : Rat) ≤ (step : Rat) := Rat.intCast_nonneg.mpr c.s0
  have m1 : ((least + 16 * step : Int) : Rat) ≤ (D : Rat) := Rat.intCast_le_intCast.mpr (Int.le_of_lt c.top)
  have A0 : 0 ≤ A := by
    refine rat_cancel hD ?_
    have : A * (D : Rat) = 1 := by rw [Rat.mul_comm]; exact hA
    rw [this]; grind
  refine ⟨by rw [Rat.intCast_add, Rat.intCast_mul]; rfl, Rat.mul_nonneg l0 A0, Rat.mul_nonneg s0 A0, ?_⟩
  have := Rat.mul_nonneg (show (0 : Rat) ≤ (D : Rat) - ((least + 16 * step : Int) : Rat) by grind) A0
  grind

theorem share_of {a b : Int} (h0 : 0 < a) (h1 : 0 < b) (h : a ≤ b) (hb : b ≤ 70000000) : ∃ S : Rat, S * (b : Rat) = (a : Rat) ∧ Near (fracBits a b) S ep ∧ 0 ≤ S ∧ S ≤ 1 ∧ ep < S := by
  have hbp : (0 : Rat) < (b : Rat) := Rat.intCast_pos.mpr h1
  have hap : (1 : Rat) ≤ (a : Rat) := by
    have : ((1 : Int) : Rat) ≤ (a : Rat) := Rat.intCast_le_intCast.mpr (by omega)
    exact this
  have hab : (a : Rat) ≤ (b : Rat) := Rat.intCast_le_intCast.mpr h
  have hbb : (b : Rat) ≤ 70000000 := by
    have : (b : Rat) ≤ ((70000000 : Int) : Rat) := Rat.intCast_le_intCast.mpr hb
    exact this
  have e : (a : Rat) / (b : Rat) * (b : Rat) = (a : Rat) := by grind
  refine ⟨(a : Rat) / (b : Rat), e, frac_nearI (by omega) h1 h e, ?_, ?_, ?_⟩
  · refine rat_cancel hbp ?_; rw [e]; grind
  · refine rat_cancel hbp ?_; rw [e]; grind
  · have h2 : ep * 70000001 ≤ 1 := by unfold ep; decide +kernel
    have h3 := ep_pos
    have h4 : ep * (b : Rat) ≤ ep * 70000000 := by
      have : 0 ≤ ep * (70000000 - (b : Rat)) := Rat.mul_nonneg (by grind) (by grind)
      grind
    by_cases q : ep < (a : Rat) / (b : Rat)
    · exact q
    · have h5 : 0 ≤ (ep - (a : Rat) / (b : Rat)) * (b : Rat) := Rat.mul_nonneg (by grind) (by grind)
      have : (ep - (a : Rat) / (b : Rat)) * (b : Rat) = ep * (b : Rat) - (a : Rat) := by grind
      grind

abbrev Wn (le st A : Rat) (x : UInt64) (w : Int) : Prop := Near x ((le + st * (w : Rat)) * A) (En 70000)
theorem Rc.u {le st M A : Rat} (r : Rc le st M A) : UR (M * A) ∧ UR (le * A) ∧ M * A = le * A + 16 * (st * A) := by
  obtain ⟨r1, r2, r3, r4⟩ := r
  have MA : M * A = le * A + 16 * (st * A) := by rw [r1]; grind
  exact ⟨⟨by grind, r4⟩, ⟨r2, by grind⟩, MA⟩
theorem q_mid {M S A le st w : Rat} (h : S * M = 16 * st) (m : M * A = le * A + 16 * (st * A)) : M * A * (1 - S * (w / 16)) = (le + st * (16 - w)) * A := by
  have : S * M * A = 16 * st * A := by rw [h]
  grind
theorem q_top {M S A le st w : Rat} (h : S * M = 16 * st) (m : M * A = le * A + 16 * (st * A)) : M * A * (1 - S * (1 - w / 16)) = (le + st * w) * A := by
  have : S * M * A = 16 * st * A := by rw [h]
  grind
theorem q_low {M S A le st : Rat} (h : S * M = 16 * st) (m : M * A = le * A + 16 * (st * A)) : M * A * (1 - S) = (le + st * 0) * A := by
  have : S * M * A = 16 * st * A := by rw [h]
  grind
theorem q_all {M A le st : Rat} (m : M * A = le * A + 16 * (st * A)) : M * A = (le + st * 16) * A := by grind
theorem e16i {w : Rat} : w / 16 * ((16 : Int) : Rat) = w := by
  have : ((16 : Int) : Rat) = 16 := rfl
  rw [this]; grind
theorem u16 {w : Rat} (a : 0 ≤ w) (b : w ≤ 16) : UR (w / 16) := ⟨by grind, by grind⟩
theorem ep1 : ep ≤ En 1 := by unfold En; decide +kernel
theorem e256 : 256 * ep = En 256 := by unfold En; decide +kernel
theorem e00 : (0 : Rat) ≤ En 0 := by decide +kernel
theorem hsv_back {place least step D : Int} {k : Nat} (c : Col place least step k D) (hs : 0 < step) {A : Rat} (hA : (D : Rat) * A = 1) :
    ∃ a0 a1 a2, hsv_to_rgb_sp [.float (fracBits place 96), .float (fracBits (16 * step) (least + 16 * step)), .float (dy (least + 16 * step) k)] = some (.tuple [.float a0, .float a1, .float a2]) ∧
      Wn least step A a0 (wt place 0) ∧ Wn least step A a1 (wt place 32) ∧ Wn least step A a2 (wt place 64) := by
  obtain ⟨S, S1, S2, S3, S4, S5⟩ := share_of (a := 16 * step) (b := least + 16 * step) (Int.mul_pos (by decide) hs) c.pos (Int.le_add_of_nonneg_left c.l0) (Int.le_trans (Int.le_of_lt c.top) (Int.le_trans c.dep.bd.2.1 (by decide)))
  have T := fin96 (P := fun x => tblV x.toNat = true) (fun t => by rw [Int.toNat_natCast]; exact tblV_ok t) c.p0 c.p1
  unfold tblV at T
  simp only [Int.toNat_of_nonneg c.p0] at T
  obtain ⟨T, T3⟩ := Bool.and_eq_true_iff.mp T
  obtain ⟨T1, T2⟩ := Bool.and_eq_true_iff.mp T
  obtain ⟨i0, i5, w0, w1⟩ := of_decide_eq_true T1
  have T3 := of_decide_eq_true T3
  have hi := iOf_int i0
  obtain ⟨UM, UL, MA⟩ := (rc_of c hA).u
  have V := (dy_near (p := least + 16 * step) (A := A) c.dep.k1 c.b.nm (by rw [natPow c.dep]; exact hA)).mono e00
  have es : ((16 * step : Int) : Rat) = 16 * (step : Rat) := by rw [Rat.intCast_mul]; rfl
  rw [es] at S1
  clear T hA es
  generalize iOf (mul (fracBits place 96) 4618441417868443648) = i at *
  have F := isNear_near (by decide) T2 e16i
  have W0 : (0 : Rat) ≤ ((place - 16 * i : Int) : Rat) := Rat.intCast_nonneg.mpr w0
  have W1 : ((place - 16 * i : Int) : Rat) ≤ 16 := Rat.intCast_le_intCast.mpr w1
  have eq : ((16 - (place - 16 * i) : Int) : Rat) = 16 - ((place - 16 * i : Int) : Rat) := by rw [Rat.intCast_sub]; rfl
  refine ⟨_, _, _, hsvb_run (not_zero S2 S5) hi i0 i5 rfl rfl rfl rfl, ?_⟩
  rw [← T3.1, ← T3.2.1, ← T3.2.2]
  have US : UR S := ⟨S3, S4⟩
  have UF := u16 W0 W1
  rw [e256] at F
  have S2 := S2.mono ep1
  have sf := mul1N S2 F US UF (by decide) (by decide)
  have sof := mul1N S2 (one_subN F UF (by decide)) US UF.sub1 (by decide) (by decide)
  have P := mul1N V (one_subN S2 US (by decide)) UM US.sub1 (by decide) (by decide)
  have Q := mul1N V (one_subN sf (US.mul UF) (by decide)) UM (US.mul UF).sub1 (by decide) (by decide)
  have T := mul1N V (one_subN sof (US.mul UF.sub1) (by decide)) UM (US.mul UF.sub1).sub1 (by decide) (by decide)
  refine pick_rel (R := fun x w => Wn least step A x w) ?_ ?_ ?_ ?_
  · exact (V.mono (En_mono (by decide))).eq (q_all MA)
  · exact (T.mono (En_mono (by decide))).eq (q_top S1 MA)
  · exact (P.mono (En_mono (by decide))).eq (q_low S1 MA)
  · exact (Q.mono (En_mono (by decide))).eq (by rw [eq]; exact q_mid S1 MA)
end Mine

end
section
open PySem PySem.W PySem.Calls PyProof.Rows
set_option linter.unusedVariables false
set_option maxRecDepth 100000
set_option exponentiation.threshold 2000
namespace Mine
open PySem.Float64

theorem e96i {w : Rat} : w / 96 * ((96 : Int) : Rat) = w := by
  have : ((96 : Int) : Rat) = 96 := rfl
  rw [this]; grind
theorem u96 {w : Rat} (a : 0 ≤ w) (b : w ≤ 16) : 0 ≤ w / 96 ∧ w / 96 * 6 ≤ 1 := ⟨by grind, by grind⟩
theorem mid_eq {M A le st w : Rat} (m : M * A = le * A + 16 * (st * A)) : le * A + (M * A - le * A) * (w / 96) * 6 = (le + st * w) * A := by rw [m]; grind
theorem low_eq {A le st : Rat} : le * A = (le + st * ((0 : Int) : Rat)) * A := by
  have : ((0 : Int) : Rat) = 0 := rfl
  rw [this]; grind
theorem le_MA {x y z : Rat} (m : x = y + 16 * z) (h : 0 ≤ z) : y ≤ x := by grind
theorem vF_near {m1 m2 u : UInt64} {w : Int} {le st M A : Rat} (rc : Rc le st M A) (h1 : Near m1 (le * A) (En 345)) (h2 : Near m2 (M * A) (En 209)) (ht : tblU u w = true) (w0 : 0 ≤ w) (w1 : w ≤ 16) : Wn le st A (vF m1 m2 u) w := by
  have W0 : (0 : Rat) ≤ (w : Rat) := Rat.intCast_nonneg.mpr w0
  have W1 : (w : Rat) ≤ 16 := Rat.intCast_le_intCast.mpr w1
  obtain ⟨UM, UL, MA⟩ := rc.u
  have lm := le_MA MA rc.s0
  have go : ∀ g : UInt64, isNear g w 96 = true → Wn le st A (add m1 (mul (mul (sub m2 m1) g) 4618441417868443648)) w := fun g hg => by
    have G := isNear_near (by decide) hg e96i
    rw [e256] at G
    exact (ramp h1 h2 G UL UM lm (u96 W0 W1).1 (u96 W0 W1).2).eq (mid_eq MA)
  unfold tblU at ht
  unfold vF
  by_cases c : (cmp u 4595172819793696085 == some .lt) = true
  · rw [if_pos c] at ht ⊢; exact go _ ht
  · rw [if_neg c] at ht ⊢
    by_cases c1 : (cmp u 4602678819172646912 == some .lt) = true
    · rw [if_pos c1] at ht ⊢
      rw [of_decide_eq_true ht]
      exact (h2.mono (En_mono (by decide))).eq (q_all MA)
    · rw [if_neg c1] at ht ⊢
      by_cases c2 : (cmp u 4604180019048437077 == some .lt) = true
      · rw [if_pos c2] at ht ⊢; exact go _ ht
      · rw [if_neg c2] at ht ⊢
        rw [of_decide_eq_true ht]
        exact (h1.mono (En_mono (by decide))).eq low_eq
theorem half_A {D A K : Rat} (h : D * A = 1) (k : K = D * 2) : K * (A / 2) = 1 := by rw [k]; grind
theorem both_u {le M A st : Rat} (u : UR (M * A)) (l : UR (le * A)) : UR ((le + M) * (A / 2)) := by
  obtain ⟨a, b⟩ := u; obtain ⟨c, d⟩ := l
  exact ⟨by grind, by grind⟩
theorem lo_eq {S M A le st : Rat} (h : S * (le + M) = 16 * st) (m : M * A = le * A + 16 * (st * A)) : (le + M) * (A / 2) * (1 + S) = M * A := by
  have : S * (le + M) * A = 16 * st * A := by rw [h]
  grind
theorem hi_eq {S M A le st D : Rat} (h : S * (2 * D - (le + M)) = 16 * st) (hA : D * A = 1) (m : M * A = le * A + 16 * (st * A)) : (le + M) * (A / 2) + S - (le + M) * (A / 2) * S = M * A := by
  have : S * (2 * D - (le + M)) * A = 16 * st * A := by rw [h]
  grind
theorem twice_eq {M A le : Rat} : 2 * ((le + M) * (A / 2)) - M * A = le * A := by grind
theorem shade {l s D : Int} (h0 : 0 < l + 16 * s) (h1 : l + 16 * s < D) (h2 : 0 ≤ l) (h3 : 0 ≤ s) (hD : D ≤ 16777216) : 0 < min (l + (l + 16 * s)) (2 * D - (l + (l + 16 * s))) ∧ 16 * s ≤ min (l + (l + 16 * s)) (2 * D - (l + (l + 16 * s))) ∧ min (l + (l + 16 * s)) (2 * D - (l + (l + 16 * s))) ≤ 70000000 := by omega
theorem min_hi2 {b D : Int} (h : ¬ b ≤ D) : min b (2 * D - b) = 2 * D - b := by omega
theorem hls_back {place least step D : Int} {k : Nat} (c : Col place least step k D) (hs : 0 < step) {A : Rat} (hA : (D : Rat) * A = 1) :
    ∃ a0 a1 a2, hls_to_rgb_sp [.float (fracBits place 96), .float (dy (least + (least + 16 * step)) (k + 1)), .float (fracBits (16 * step) (min (least + (least + 16 * step)) (2 * D - (least + (least + 16 * step)))))] = some (.tuple [.float a0, .float a1, .float a2]) ∧
      Wn least step A a0 (wt place 0) ∧ Wn least step A a1 (wt place 32) ∧ Wn least step A a2 (wt place 64) := by
  have rc := rc_of c hA
  have nb := c.b.nb
  have sh := shade c.pos c.top c.l0 c.s0 c.dep.bd.2.1
  obtain ⟨S, S1, S2, S3, S4, S5⟩ := share_of (a := 16 * step) (b := min (least + (least + 16 * step)) (2 * D - (least + (least + 16 * step)))) (Int.mul_pos (by decide) hs) sh.1 sh.2.1 sh.2.2
  have T := fin96 (P := fun x => tblL x.toNat = true) (fun t => by rw [Int.toNat_natCast]; exact tblL_ok t) c.p0 c.p1
  unfold tblL at T
  simp only [Int.toNat_of_nonneg c.p0] at T
  obtain ⟨T, T3⟩ := Bool.and_eq_true_iff.mp T
  obtain ⟨T1, T2⟩ := Bool.and_eq_true_iff.mp T
  obtain ⟨UM, UL, MA⟩ := rc.u
  have hA2 : ((2 ^ (k + 1) : Nat) : Rat) * (A / 2) = 1 := half_A hA (by rw [Nat.pow_succ, Rat.natCast_mul, natPow c.dep]; rfl)
  have L := (dy_near (p := least + (least + 16 * step)) (A := A / 2) (k := k + 1) c.dep.k2 nb hA2).mono e00
  refine ⟨_, _, _, hlsb_run (not_zero S2 S5) rfl rfl, ?_⟩
  rw [light_cmp c.dep nb]
  have es : ((16 * step : Int) : Rat) = 16 * (step : Rat) := by rw [Rat.intCast_mul]; rfl
  rw [es] at S1
  have eb : ((least + (least + 16 * step) : Int) : Rat) = (least : Rat) + ((least + 16 * step : Int) : Rat) := Rat.intCast_add ..
  rw [eb] at L
  have UB := both_u (st := (step : Rat)) UM UL
  have US : UR S := ⟨S3, S4⟩
  have S2 := S2.mono ep1
  have m2 : Near (if decide (least + (least + 16 * step) ≤ D) = true then mul (dy (least + (least + 16 * step)) (k + 1)) (add 4607182418800017408 (fracBits (16 * step) (min (least + (least + 16 * step)) (2 * D - (least + (least + 16 * step))))))
      else sub (add (dy (least + (least + 16 * step)) (k + 1)) (fracBits (16 * step) (min (least + (least + 16 * step)) (2 * D - (least + (least + 16 * step)))))) (mul (dy (least + (least + 16 * step)) (k + 1)) (fracBits (16 * step) (min (least + (least + 16 * step)) (2 * D - (least + (least + 16 * step)))))))
      (((least + 16 * step : Int) : Rat) * A) (En 209) := by
    by_cases h : least + (least + 16 * step) ≤ D
    · rw [if_pos (decide_eq_true h)]
      rw [min_lo h] at S1
      rw [eb] at S1
      exact (lift_lo L S2 UB US).eq (lo_eq S1 MA)
    · rw [if_neg (by rw [decide_eq_true_eq]; exact h)]
      rw [min_hi2 h, Rat.intCast_sub, eb, Rat.intCast_mul] at S1
      exact ((lift_hi L S2 UB US).mono (En_mono (by decide))).eq (hi_eq S1 hA MA)
  have m1 := (twice_sub L m2 UB UM).eq twice_eq
  have a := wt_lo place
  exact ⟨vF_near rc m1 m2 T1 (a 0).1 (a 0).2, vF_near rc m1 m2 T2 (a 32).1 (a 32).2, vF_near rc m1 m2 T3 (a 64).1 (a 64).2⟩

/-- the way back to whole numbers -/
theorem paint {x : UInt64} {N D : Int} {k : Nat} (d : Dep k D) {A : Rat} (hA : (D : Rat) * A = 1) (h0 : 0 ≤ N) (h1 : N ≤ D) (h0' : Near x ((N : Rat) * A) (En 70000)) : pvBin .Mult (.int D) (.float x) = some (.float (mul (ofInt D) x)) ∧ spRound [.float (mul (ofInt D) x)] = some (.int N) := by
  obtain ⟨b1, b2, b3⟩ := d.bd
  refine ⟨if_pos (show D.natAbs < 18446744073709551616 by omega), ?_⟩
  have h : Near x ((N : Rat) * A) (70000 * ep) := h0'
  have e0 : ofInt D = dy D 0 := by unfold ofInt dy; rw [Nat.pow_zero]
  have dn := dy_near (p := D) (k := 0) (A := 1) (by decide) (d.nat (Int.le_of_lt d.pos) (by have := d.pos; omega)) (by decide +kernel)
  rw [← e0, Rat.mul_one] at dn
  obtain ⟨f1, f2, f3⟩ := dn
  have eD : rv (ofInt D) = (D : Rat) := by grind
  obtain ⟨x0, x1, x2⟩ := h
  have hDp : (0 : Rat) < (D : Rat) := Rat.intCast_pos.mpr (by omega)
  have hD : (D : Rat) ≤ 16777216 := by
    have : (D : Rat) ≤ ((16777216 : Int) : Rat) := Rat.intCast_le_intCast.mpr b2
    exact this
  have E := ep_pos
  have p := rat_prod (A := 16777216) (a := (D : Rat)) (e := 70000 * ep) (d := rv x - (N : Rat) * A) (by grind) hD (by grind) (by grind)
  have eN : (D : Rat) * rv x = (N : Rat) + (D : Rat) * (rv x - (N : Rat) * A) := by grind
  have N0 : (0 : Rat) ≤ (N : Rat) := Rat.intCast_nonneg.mpr h0
  have N1 : (N : Rat) ≤ (D : Rat) := Rat.intCast_le_intCast.mpr h1
  have pw25 : pw 25 = 33554432 := by unfold pw; rfl
  have q1 : 16777216 * (70000 * ep) ≤ 1 / 4 := by unfold ep; decide +kernel
  have q2 : 33554432 * ep ≤ 1 / 8 := by unfold ep; decide +kernel
  have m := mul_near 25 (by decide) f1 x0 (by rw [eD, eN, pw25]; grind) (by rw [eD, eN, pw25]; grind)
  rw [eD, eN, pw25] at m
  obtain ⟨m0, m1, m2⟩ := m
  have fin : Near (mul (ofInt D) x) ((N.toNat : Nat) : Rat) (3 / 8) := by
    have e : ((N.toNat : Nat) : Rat) = (N : Rat) := by rw [← Rat.intCast_natCast, show ((N.toNat : Nat) : Int) = N by omega]
    rw [e]
    exact ⟨m0, by grind, by grind⟩
  have := round_near fin (by decide +kernel)
  rw [show ((N.toNat : Nat) : Int) = N by omega] at this
  exact this
end Mine

end
section
open PySem PySem.W PySem.Calls PyProof.Rows
set_option linter.unusedVariables false
set_option maxRecDepth 100000
set_option exponentiation.threshold 2000
namespace Mine
open PySem.Float64

abbrev Pt (D : Int) (x : UInt64) (N : Int) : Prop := pvBin .Mult (.int D) (.float x) = some (.float (mul (ofInt D) x)) ∧ spRound [.float (mul (ofInt D) x)] = some (.int N)
structure CF (place least step D : Int) (hue : UInt64) : Prop where
  hsv : rgb_to_hsv_sp [.float (fracBits (pt place least step 0) D), .float (fracBits (pt place least step 32) D), .float (fracBits (pt place least step 64) D)] =
      some (.tuple [.float hue, .float (fracBits (16 * step) (least + 16 * step)), .float (fracBits (least + 16 * step) D)])
  hls : rgb_to_hls_sp [.float (fracBits (pt place least step 0) D), .float (fracBits (pt place least step 32) D), .float (fracBits (pt place least step 64) D)] =
      some (.tuple [.float hue, .float (fracBits (least + (least + 16 * step)) (2 * D)), .float (fracBits (16 * step) (min (least + (least + 16 * step)) (2 * D - (least + (least + 16 * step)))))])
  bh : ∃ a0 a1 a2, hsv_to_rgb_sp [.float hue, .float (fracBits (16 * step) (least + 16 * step)), .float (fracBits (least + 16 * step) D)] = some (.tuple [.float a0, .float a1, .float a2]) ∧
      Pt D a0 (pt place least step 0) ∧ Pt D a1 (pt place least step 32) ∧ Pt D a2 (pt place least step 64)
  bl : ∃ a0 a1 a2, hls_to_rgb_sp [.float hue, .float (fracBits (least + (least + 16 * step)) (2 * D)), .float (fracBits (16 * step) (min (least + (least + 16 * step)) (2 * D - (least + (least + 16 * step)))))] = some (.tuple [.float a0, .float a1, .float a2]) ∧
      Pt D a0 (pt place least step 0) ∧ Pt D a1 (pt place least step 32) ∧ Pt D a2 (pt place least step 64)
  f0 : FinF hue
  f1 : FinF (fracBits (16 * step) (least + 16 * step))
  f2 : FinF (fracBits (least + 16 * step) D)
  f3 : FinF (fracBits (least + (least + 16 * step)) (2 * D))
  f4 : FinF (fracBits (16 * step) (min (least + (least + 16 * step)) (2 * D - (least + (least + 16 * step)))))
  g0 : FinF (fracBits (pt place least step 0) D)
  g1 : FinF (fracBits (pt place least step 32) D)
  g2 : FinF (fracBits (pt place least step 64) D)

theorem fin_frac {a b : Int} (h0 : 0 ≤ a) (h1 : 0 < b) (h : a ≤ b) : FinF (fracBits a b) := by
  have hb : (0 : Rat) < (b : Rat) := Rat.intCast_pos.mpr h1
  exact (frac_nearI h0 h1 h (S := (a : Rat) / (b : Rat)) (by grind)).1
theorem zero_frac {b : Int} (h : 0 < b) : fracBits 0 b = 0 := by
  unfold fracBits ofFrac
  have z : ¬ b < 0 := by omega
  simp only [z, decide_false, Int.natAbs_zero]
  rfl
theorem pt_bd {place least step D : Int} {k : Nat} (c : Col place least step k D) (x : Int) : 0 ≤ pt place least step x ∧ pt place least step x < D :=
  have p := pt_lo c.s0 place least x
  ⟨Int.le_trans c.l0 p.1, Int.lt_of_le_of_lt p.2 c.top⟩
theorem pt_rat (place least step x : Int) : ((least : Rat) + (step : Rat) * ((wt place x : Int) : Rat)) = ((pt place least step x : Int) : Rat) := by
  unfold pt; rw [Rat.intCast_add, Rat.intCast_mul]
theorem Dep.frac {k : Nat} {D : Int} (d : Dep k D) {p : Int} (h : 0 ≤ p) : fracBits p D = dy p k := by rw [d.hD]; exact dy_frac h
theorem Dep.frac2 {k : Nat} {D : Int} (d : Dep k D) {p : Int} (h : 0 ≤ p) : fracBits p (2 * D) = dy p (k + 1) := by
  rw [d.hD, show (2 : Int) * 2 ^ k = 2 ^ (k + 1) by rw [Int.pow_succ]; exact Int.mul_comm _ _]; exact dy_frac h
theorem shade0 {l s D : Int} (h0 : 0 < l + 16 * s) (h1 : l + 16 * s < D) (h2 : 0 ≤ l) (h3 : 0 ≤ s) : 0 < min (l + (l + 16 * s)) (2 * D - (l + (l + 16 * s))) ∧ 16 * s ≤ min (l + (l + 16 * s)) (2 * D - (l + (l + 16 * s))) ∧ 16 * s ≤ l + 16 * s := by omega
theorem lt2 {D : Int} (h : 0 < D) : 0 < 2 * D := by omega
structure FF (place least step D : Int) : Prop where
  f1 : FinF (fracBits (16 * step) (least + 16 * step))
  f2 : FinF (fracBits (least + 16 * step) D)
  f3 : FinF (fracBits (least + (least + 16 * step)) (2 * D))
  f4 : FinF (fracBits (16 * step) (min (least + (least + 16 * step)) (2 * D - (least + (least + 16 * step)))))
  g : ∀ x, FinF (fracBits (pt place least step x) D)
theorem fins {place least step D : Int} {k : Nat} (c : Col place least step k D) : FF place least step D := by
  obtain ⟨s1, s2, s3⟩ := shade0 c.pos c.top c.l0 c.s0
  have b := bd_both c.l0 c.s0 c.top
  have s16 : 0 ≤ 16 * step := Int.mul_nonneg (by decide) c.s0
  have hD := c.dep.pos
  exact ⟨fin_frac s16 c.pos s3, fin_frac b.2.2.2.2.2.2 hD (Int.le_of_lt c.top), fin_frac b.2.2.1 (lt2 hD) b.2.2.2.1, fin_frac s16 s1 s2, fun x => fin_frac (pt_bd c x).1 hD (Int.le_of_lt (pt_bd c x).2)⟩
theorem fin_zero : FinF 0 := ⟨false, 0, -1074, by kernel_rfl⟩
theorem hA_of {k : Nat} {D : Int} (d : Dep k D) : (D : Rat) * (1 / (D : Rat)) = 1 := by
  have : (0 : Rat) < (D : Rat) := Rat.intCast_pos.mpr d.pos
  grind
theorem colour {place least step D : Int} {k : Nat} (c : Col place least step k D) : CF place least step D (if step > 0 then fracBits place 96 else 0) := by
  have hk := c.dep.k1
  have hA := hA_of c.dep
  have f := fins c
  have p := pt_bd c
  have b := bd_both c.l0 c.s0 c.top
  rcases Int.lt_or_eq_of_le c.s0 with hs | hs
  · rw [if_pos hs]
    refine ⟨?_, ?_, ?_, ?_, fin_frac c.p0 (by decide) (Int.le_of_lt c.p1), f.f1, f.f2, f.f3, f.f4, f.g 0, f.g 32, f.g 64⟩
    · rw [c.dep.frac (p 0).1, c.dep.frac (p 32).1, c.dep.frac (p 64).1, c.dep.frac b.2.2.2.2.2.2]; exact hsv_told c hs
    · rw [c.dep.frac (p 0).1, c.dep.frac (p 32).1, c.dep.frac (p 64).1, c.dep.frac2 b.2.2.1]; exact hls_told c hs
    · rw [c.dep.frac b.2.2.2.2.2.2]
      obtain ⟨a0, a1, a2, h, h0, h1, h2⟩ := hsv_back c hs hA
      unfold Wn at h0 h1 h2
      rw [pt_rat] at h0 h1 h2
      exact ⟨a0, a1, a2, h, paint c.dep hA (p 0).1 (Int.le_of_lt (p 0).2) h0, paint c.dep hA (p 32).1 (Int.le_of_lt (p 32).2) h1, paint c.dep hA (p 64).1 (Int.le_of_lt (p 64).2) h2⟩
    · rw [c.dep.frac2 b.2.2.1]
      obtain ⟨a0, a1, a2, h, h0, h1, h2⟩ := hls_back c hs hA
      unfold Wn at h0 h1 h2
      rw [pt_rat] at h0 h1 h2
      exact ⟨a0, a1, a2, h, paint c.dep hA (p 0).1 (Int.le_of_lt (p 0).2) h0, paint c.dep hA (p 32).1 (Int.le_of_lt (p 32).2) h1, paint c.dep hA (p 64).1 (Int.le_of_lt (p 64).2) h2⟩
  · have hs' : step = 0 := hs.symm
    subst hs'
    have e0 : ∀ x, pt place least 0 x = least := fun x => by unfold pt; rw [Int.zero_mul, Int.add_zero]
    have e16 : (16 : Int) * 0 = 0 := rfl
    have em : least + 16 * 0 = least := Int.add_zero _
    have nl := c.b.nl
    have nb := c.b.nb
    have hl := c.l0
    have hp : 0 < least := by have := c.pos; rw [em] at this; exact this
    have hlD : least ≤ D := by have := Int.le_of_lt c.top; rw [em] at this; exact this
    have cx : cmp (dy least k) (dy least k) = some .eq := by rw [dy_cmp hk nl nl]; simp
    have V := dy_near (A := 1 / (D : Rat)) hk nl (by rw [natPow c.dep]; exact hA)
    have P := paint c.dep hA hl hlD (V.mono (En_ok (show 70000 ≤ 100000 by decide)).1)
    have L : dy (least + least) (k + 1) = dy least k := by
      have := @dy_scale least k 1
      rw [← this]; congr 1; omega
    have b3 := b.2.2.1
    have s1 := (shade0 c.pos c.top c.l0 c.s0).1
    rw [em] at nb b3 s1
    rw [if_neg (show ¬ (0 : Int) > 0 by decide)]
    refine ⟨?_, ?_, ?_, ?_, fin_zero, ?_, ?_, ?_, ?_, ?_, ?_, ?_⟩
    · rw [e0, e0, e0, em, e16, zero_frac hp, c.dep.frac hl]; exact hsv_grey cx
    · rw [e0, e0, e0, em, e16, zero_frac s1, c.dep.frac hl, c.dep.frac2 b3, hls_grey cx, dy_add hk nl nl, half_of (Nat.le_of_succ_le_succ c.dep.k2) nb]
    · rw [em, e16, zero_frac hp, c.dep.frac hl, e0, e0, e0]
      exact ⟨_, _, _, hsvb_grey zero_zero, P, P, P⟩
    · rw [em, e16, zero_frac s1, c.dep.frac2 b3, e0, e0, e0, L]
      exact ⟨_, _, _, hlsb_grey zero_zero, P, P, P⟩
    · exact f.f1
    · exact f.f2
    · exact f.f3
    · exact f.f4
    · exact f.g 0
    · exact f.g 32
    · exact f.g 64
end Mine

end
section
open PySem PySem.W PySem.Calls PyProof.Rows
set_option linter.unusedVariables false
set_option maxRecDepth 100000
namespace Mine
open PySem.Float64

/-! equality of values with themselves -/
theorem pvEqL_self {f : PV → PV → Option Bool} : ∀ {xs : List PV}, (∀ x ∈ xs, f x x = some true) → pvEqL f xs xs = some true
  | [], _ => rfl
  | x :: xs, h => by
    show (f x x).bind _ = _
    rw [h x List.mem_cons_self]
    show (pvEqL f xs xs).bind _ = _
    rw [pvEqL_self fun y hy => h y (List.mem_cons_of_mem _ hy)]; rfl
theorem pvEq_int (n : Nat) (a : Int) : pvEq n (.int a) (.int a) = some true := by cases n <;> simp [pvEq]
theorem pvEq_bytes (n : Nat) (a : List UInt8) : pvEq n (.bytes a) (.bytes a) = some true := by cases n <;> simp [pvEq]
theorem pvEq_float (n : Nat) {x : UInt64} (h : FinF x) : pvEq n (.float x) (.float x) = some true := by
  obtain ⟨a, m, e, d⟩ := h
  have : Float64.isNaN x = false := by unfold Float64.isNaN; rw [d]
  cases n <;> simp [pvEq, this]
theorem pvEq_list (n : Nat) {xs : List PV} (h : ∀ x ∈ xs, pvEq n x x = some true) : pvEq (n + 1) (.list xs) (.list xs) = some true := pvEqL_self h
theorem pvEq_tuple (n : Nat) {xs : List PV} (h : ∀ x ∈ xs, pvEq n x x = some true) : pvEq (n + 1) (.tuple xs) (.tuple xs) = some true := pvEqL_self h
theorem pvEq_ints (n : Nat) (is : List Int) : pvEq (n + 1) (.list (is.map .int)) (.list (is.map .int)) = some true :=
  pvEq_list n fun x hx => by obtain ⟨i, _, rfl⟩ := List.mem_map.mp hx; exact pvEq_int n i
theorem noFF {a b : PV} (hf : ∀ x y, a = .float x → b = .float y → False) : isFF a b = none := by
  cases e : isFF a b with
  | none => rfl
  | some x => exact (hf _ _ (isFF_some e).1 (isFF_some e).2).elim
theorem neq_of {a b : PV} {c : Bool} (h : pvEq 6 a b = some c) (hf : ∀ x y, a = .float x → b = .float y → False) : pvCmp .NotEq a b = some !c := by
  unfold pvCmp; rw [noFF hf]
  show (pvEq 6 a b).map not = _
  rw [h]; rfl
theorem eq_of {a b : PV} {c : Bool} (h : pvEq 6 a b = some c) (hf : ∀ x y, a = .float x → b = .float y → False) : pvCmp .Eq a b = some c := by
  unfold pvCmp; rw [noFF hf]; exact h
theorem divI {a b : Int} (h : b ≠ 0) (hf : FinF (fracBits a b)) : pvBin .Div (.int a) (.int b) = some (.float (fracBits a b)) := by
  obtain ⟨s, m, e, d⟩ := hf
  exact if_pos ⟨h, by unfold isInf; rw [d]⟩

/-! the weight, as both laws write it -/
theorem far_body {db : St → Option (St × Out)} (hdb : db = (dThen (dAsg (dBin .Mod (dBin .Sub (dVar 0) (dVar 4)) (dConst (.int 96))) 5) (dThen (dAsg (dCall spMin (dCons (dVar 5) (dCons (dBin .Sub (dConst (.int 96)) (dVar 5)) (dNil)))) 5) (dThen (dAppend (dBin .Add (dVar 1) (dBin .Mult (dVar 2) (dCall spMin (dCons (dConst (.int 16)) (dCons (dCall spMax (dCons (dConst (.int 0)) (dCons (dBin .Sub (dConst (.int 32)) (dVar 5)) (dNil)))) (dNil)))))) 3) (dEnd)))))
    (place least step c : Int) (xs : List PV) (s : Slot) (hl : xs.length < 1000000) :
    ∃ s', db [.fz (.int place), .fz (.int least), .fz (.int step), .ol xs, .fz (.int c), s] = some ([.fz (.int place), .fz (.int least), .fz (.int step), .ol (xs ++ [.int (pt place least step c)]), .fz (.int c), s'], .next) := by
  subst hdb
  refine ⟨.fz (.int (min ((place - c) % 96) (96 - (place - c) % 96))), ?_⟩
  refine st_asg (ev_bin rfl rfl (modI (by decide))) ?_; dsimp only [List.set]
  refine st_asg (ev_call rfl (spMin_int _ _)) ?_; dsimp only [List.set]
  refine st_app (xs := xs) rfl (ev_bin rfl (ev_bin rfl (ev_call (ev_cons rfl (ev_cons (ev_call rfl (spMax_int _ _)) rfl)) (spMin_int _ _)) (mulI ?_)) rfl) (by omega) ?_
  · right; show _ < 18446744073709551616; omega
  · rfl
theorem for3 {bd : PV → St → Option St} {db : St → Option (St × Out)} {a b c : PV} {σ0 σ1 σ2 σ3 τ1 τ2 τ3 : St} (h1 : bd a σ0 = some τ1) (g1 : db τ1 = some (σ1, .next)) (h2 : bd b σ1 = some τ2) (g2 : db τ2 = some (σ2, .next)) (h3 : bd c σ2 = some τ3) (g3 : db τ3 = some (σ3, .next)) :
    forRun bd db [a, b, c] σ0 = some (σ3, .next) := by
  unfold forRun; rw [h1]; show (match db τ1 with | some (σ2, .next) => forRun bd db [b, c] σ2 | some (σ2, .ret v) => some (σ2, .ret v) | none => none) = _
  rw [g1]; show forRun bd db [b, c] σ1 = _
  unfold forRun; rw [h2]; show (match db τ2 with | some (σ2, .next) => forRun bd db [c] σ2 | some (σ2, .ret v) => some (σ2, .ret v) | none => none) = _
  rw [g2]; show forRun bd db [c] σ2 = _
  unfold forRun; rw [h3]; show (match db τ3 with | some (σ2, .next) => forRun bd db [] σ2 | some (σ2, .ret v) => some (σ2, .ret v) | none => none) = _
  rw [g3]; rfl
theorem r_forR {w v : PV} {σ σ' : St} {d : St → Option PV} {k : St → Option (St × Out)} {fz : List Nat} {bd : PV → St → Option St} {db : St → Option (St × Out)} {xs : List PV} (h : d (frAll fz σ) = some v) (hi : pvIter v = some xs) (hf : forRun bd db xs (frAll fz σ) = some (σ', .next)) (hk : Ret w (k σ')) : Ret w (dThen (dFor fz d bd db) k σ) :=
  rt (frame_of h hi hf rfl) hk
end Mine

end
section
open PySem PySem.W PySem.Calls PyProof.Rows
set_option linter.unusedVariables false
set_option maxRecDepth 100000
namespace Mine
open PySem.Float64

theorem mem3 {α : Type} {P : α → Prop} {a b c : α} (h1 : P a) (h2 : P b) (h3 : P c) : ∀ x ∈ [a, b, c], P x := by
  intro x hx
  rcases List.mem_cons.mp hx with rfl | hx
  · exact h1
  rcases List.mem_cons.mp hx with rfl | hx
  · exact h2
  rcases List.mem_cons.mp hx with rfl | hx
  · exact h3
  · cases hx
theorem mem2 {α : Type} {P : α → Prop} {a b : α} (h1 : P a) (h2 : P b) : ∀ x ∈ [a, b], P x := by
  intro x hx
  rcases List.mem_cons.mp hx with rfl | hx
  · exact h1
  rcases List.mem_cons.mp hx with rfl | hx
  · exact h2
  · cases hx
theorem turns3 {bd : PV → St → Option St} {f : St → Option (List PV)} {σf τ1 τ2 τ3 : St} {a b c : PV} {u v w : List PV} (h1 : bd a σf = some τ1) (g1 : f τ1 = some u) (h2 : bd b σf = some τ2) (g2 : f τ2 = some v) (h3 : bd c σf = some τ3) (g3 : f τ3 = some w) :
    dTurns bd f σf [a, b, c] = some (u ++ (v ++ (w ++ []))) := by
  unfold dTurns; rw [h1]; show (f τ1).bind _ = _
  rw [g1]; unfold dTurns; rw [h2]; show ((f τ2).bind _).bind _ = _
  rw [g2]; unfold dTurns; rw [h3]; show (((f τ3).bind _).bind _).bind _ = _
  rw [g3]; rfl
theorem ev_compT {σ : St} {v : PV} {d : St → Option PV} {bd : PV → St → Option St} {f : St → Option (List PV)} {kk : Nat} {fs : List Nat} {xs zs : List PV} (h : d σ = some v) (hi : pvIter v = some xs) (hf : fs.all (isFz σ) = true)
    (hb : dTurns bd f (inner kk fs σ) xs = some zs) (hl : zs.length ≤ 16777216) : dComp d bd f kk fs σ = some (.list zs) := by
  unfold dComp; rw [h]; show (pvIter v).bind _ = _
  rw [hi]; show (if _ then _ else _) = _
  rw [if_pos hf, hb]; show (if _ then _ else _) = _
  rw [if_pos hl]
end Mine

end
section
open PySem PySem.W PySem.Calls PyProof.Rows
set_option linter.unusedVariables false
set_option maxRecDepth 100000
namespace Mine

/-! slices -/
theorem pick_map {α : Type} (xs : List α) (a : Nat) : ∀ m : Nat, ((List.range m).map (a + ·)).filterMap (xs[·]?) = (xs.drop a).take m
  | 0 => by simp
  | m + 1 => by
    rw [List.range_succ, List.map_append, List.filterMap_append, pick_map xs a m, List.take_add_one, List.getElem?_drop]
    congr 1
theorem range_up (a b : Nat) : sliceRange (a : Int) (b : Int) 1 = (List.range (b - a)).map (a + ·) := by
  unfold sliceRange
  simp only [show (1 : Int) > 0 by decide, if_true]
  have e : (if (a : Int) < (b : Int) then ((b : Int) - a + 1 - 1) / 1 else 0).toNat = b - a := by split <;> omega
  rw [e]
  apply List.map_congr_left
  intro k _
  omega
theorem pick_run {α : Type} (xs : List α) (a b : Nat) (hb : b ≤ xs.length) (hab : a ≤ b) : pickL xs (some (a : Int)) (some (b : Int)) none = (xs.drop a).take (b - a) := by
  have e : sliceBounds (some (a : Int)) (some (b : Int)) none xs.length = ((a : Int), (b : Int), 1) := by
    unfold sliceBounds
    simp only [Option.getD_none, show (1 : Int) > 0 by decide, if_true]
    have h1 : ¬ (a : Int) < 0 := by omega
    have h2 : ¬ (b : Int) < 0 := by omega
    simp only [h1, h2, if_false]
    rw [show max (0 : Int) (min (a : Int) (xs.length : Int)) = a by omega, show max (0 : Int) (min (b : Int) (xs.length : Int)) = b by omega]
  unfold pickL; rw [e]; simp only
  rw [range_up, pick_map]
theorem pick_to {α : Type} (xs : List α) (b : Nat) : pickL xs none (some (b : Int)) none = xs.take b := by
  have e : sliceBounds none (some (b : Int)) none xs.length = (((0 : Nat) : Int), ((min b xs.length : Nat) : Int), 1) := by
    unfold sliceBounds
    simp only [Option.getD_none, show (1 : Int) > 0 by decide, if_true]
    have h2 : ¬ (b : Int) < 0 := by omega
    simp only [h2, if_false]
    rw [show max (0 : Int) (min (b : Int) (xs.length : Int)) = ((min b xs.length : Nat) : Int) by omega]
    rfl
  unfold pickL; rw [e]; simp only
  rw [range_up, pick_map, List.drop_zero, Nat.sub_zero]
  rcases Nat.le_total b xs.length with h | h
  · rw [Nat.min_eq_left h]
  · rw [Nat.min_eq_right h, List.take_of_length_le h, List.take_length]
theorem pick_from {α : Type} (xs : List α) (a : Nat) : pickL xs (some (a : Int)) none none = xs.drop a := by
  have e : sliceBounds (some (a : Int)) none none xs.length = (((min a xs.length : Nat) : Int), ((xs.length : Nat) : Int), 1) := by
    unfold sliceBounds
    simp only [Option.getD_none, show (1 : Int) > 0 by decide, if_true]
    have h2 : ¬ (a : Int) < 0 := by omega
    simp only [h2, if_false]
    rw [show max (0 : Int) (min (a : Int) (xs.length : Int)) = ((min a xs.length : Nat) : Int) by omega]
  unfold pickL; rw [e]; simp only
  rw [range_up, pick_map]
  rcases Nat.le_total a xs.length with h | h
  · rw [Nat.min_eq_left h, List.take_of_length_le (by simp)]
  · rw [Nat.min_eq_right h, List.drop_of_length_le h]; simp
theorem pick_rev {α : Type} (xs : List α) : pickL xs none none (some (-1)) = xs.reverse := by
  have e : sliceBounds none none (some (-1)) xs.length = ((xs.length : Int) - 1, -1, -1) := by
    unfold sliceBounds
    simp
  unfold pickL; rw [e]; simp only
  have e2 : sliceRange ((xs.length : Int) - 1) (-1) (-1) = (List.range xs.length).reverse := by
    unfold sliceRange
    simp only [show ¬ (-1 : Int) > 0 by decide, if_false]
    rw [show (-(-1 : Int)) = 1 from rfl, Int.ediv_one]
    have e : (if ((xs.length : Int) - 1) > -1 then ((xs.length : Int) - 1 - -1 - -1 - 1) else 0).toNat = xs.length := by split <;> omega
    rw [e]
    apply List.ext_getElem
    · simp
    · intro i h1 h2
      simp at h1
      simp
      omega
  rw [e2, List.filterMap_reverse]
  have := pick_map xs 0 xs.length
  simp only [Nat.zero_add, List.map_id', List.drop_zero] at this
  rw [this, List.take_of_length_le (by simp)]

theorem pvIter_range {a b c : Int} (h : Builtin.Range.small a b c = true) : pvIter (.range a b c) = some (stepInts a c (Builtin.Range.rangeSize a b c).toNat) := by
  unfold pvIter; exact if_pos h
/-! ranges -/
theorem range_it (n c : Nat) (hc : 0 < c) (h : n * c ≤ 1000000) (hc2 : c ≤ 1000000) : pvIter (.range 0 ((n * c : Nat) : Int) (c : Int)) = some ((List.range n).map fun i => .int ((i * c : Nat) : Int)) := by
  have e : Builtin.Range.rangeSize 0 ((n * c : Nat) : Int) (c : Int) = (n : Int) := by
    rw [rangeSize_pos (by omega) (by omega)]
    rw [show ((n * c : Nat) : Int) + c - 1 = ((c : Int) - 1) + (n : Int) * c by rw [Int.natCast_mul]; omega, Int.add_mul_ediv_right _ _ (by omega), Int.ediv_eq_zero_of_lt (by omega) (by omega)]; omega
  have hs : Builtin.Range.small 0 ((n * c : Nat) : Int) (c : Int) = true := by
    unfold Builtin.Range.small
    have hn : n ≤ 1000000 := by
      have := Nat.le_mul_of_pos_right n hc; omega
    rw [e]
    simp only [Builtin.Range.rangeFitsLong, Bool.and_eq_true, Bool.or_eq_true, decide_eq_true_eq, beq_iff_eq, show (c : Int) > 0 by omega, if_true]
    omega
  rw [pvIter_range hs, e, Int.toNat_natCast]
  unfold stepInts
  refine congrArg some (List.map_congr_left fun i _ => ?_)
  rw [Int.zero_add, Int.natCast_mul]
theorem range_one (n : Nat) (h : n ≤ 1000000) : pvIter (.range 0 (n : Int) 1) = some ((List.range n).map fun (i : Nat) => PV.int (i : Int)) := by
  have := range_it n 1 (by decide) (by omega) (by decide)
  simp only [Nat.mul_one] at this
  exact this
theorem forRun_range {bd : PV → St → Option St} {db : St → Option (St × Out)} {g : Nat → PV} {n : Nat} (S : Nat → St → Prop) (hs : ∀ j σ, j < n → S j σ → ∃ σ1 σ2, bd (g j) σ = some σ1 ∧ db σ1 = some (σ2, .next) ∧ S (j + 1) σ2) :
    ∀ (m a : Nat) (σ : St), a + m = n → S a σ → ∃ σ', forRun bd db ((List.range' a m).map g) σ = some (σ', .next) ∧ S n σ'
  | 0, a, σ, h, h0 => ⟨σ, rfl, by rw [← h]; exact h0⟩
  | m + 1, a, σ, h, h0 => by
    obtain ⟨σ1, σ2, h1, h2, h3⟩ := hs a σ (by omega) h0
    obtain ⟨σ', h4, h5⟩ := forRun_range S hs m (a + 1) σ2 (by omega) h3
    refine ⟨σ', ?_, h5⟩
    rw [List.range'_succ, List.map_cons]
    show (bd (g a) σ).bind _ = _
    rw [h1]
    show (match db σ1 with | some (σ2, .next) => forRun bd db ((List.range' (a + 1) m).map g) σ2 | some (σ2, .ret v) => some (σ2, .ret v) | none => none) = _
    rw [h2]; exact h4
theorem forR {bd : PV → St → Option St} {db : St → Option (St × Out)} {g : Nat → PV} {n : Nat} {σ : St} (S : Nat → St → Prop) (h0 : S 0 σ) (hs : ∀ j σ, j < n → S j σ → ∃ σ1 σ2, bd (g j) σ = some σ1 ∧ db σ1 = some (σ2, .next) ∧ S (j + 1) σ2) :
    ∃ σ', forRun bd db ((List.range n).map g) σ = some (σ', .next) ∧ S n σ' := by
  rw [List.range_eq_range']
  exact forRun_range S hs n 0 σ (by omega) h0

/-! _byteswap -/
theorem set_mid {α : Type} (a : List α) (z v : α) (m : Nat) (t : List α) : (a ++ (List.replicate (m + 1) z ++ t)).set (a.length + m) v = a ++ (List.replicate m z ++ (v :: t)) := by
  rw [List.set_append_right _ _ (by omega), show a.length + m - a.length = m by omega, List.replicate_succ', List.append_assoc, List.set_append_right _ _ (by simp)]
  simp
theorem st_ba {σ : St} {d : St → Option PV} {i : Nat} {k : St → Option (St × Out)} {n : Nat} {w : PV} (h : d σ = some (.int (n : Int))) (hn : n ≤ 16777216) (hk : Ret w (k (σ.set i (.ob (List.replicate n 0))))) : Ret w (dThen (dBa d i) k σ) := by
  have e : dBa d i σ = some (σ.set i (.ob (List.replicate n 0)), .next) := by
    unfold dBa; rw [h]; show (if _ then _ else _) = _
    rw [if_pos (by omega)]; simp
  unfold dThen; rw [e]; exact hk
theorem st_dset {σ : St} {dv di : St → Option PV} {i : Nat} {b : List UInt8} {c : UInt8} {kk : Nat} (hs : σ[i]? = some (.ob b)) (hv : dv σ = some (.int (c.toNat : Int))) (hi : di σ = some (.int (kk : Int))) (hk : kk < b.length) (hb : b.length ≤ 16777216) : dSet dv di i σ = some (σ.set i (.ob (b.set kk c)), .next) := by
  unfold dSet; rw [hs]
  show (dv σ).bind _ = _
  rw [hv]; show (di σ).bind _ = _
  rw [hi]; show (if _ then _ else _) = _
  have hc := c.toNat_lt
  rw [if_pos (by omega)]
  have e2 : ((c.toNat : Int).toNat).toUInt8 = c := by
    rw [show (c.toNat : Int).toNat = c.toNat by omega]
    show UInt8.ofNat c.toNat = c
    exact UInt8.ofNat_toNat
  rw [e2]; rfl
theorem itemB {b : List UInt8} {i : Nat} {c : UInt8} (h : b[i]? = some c) (hl : b.length ≤ 16777216) : pvItem (.bytes b) (.int (i : Int)) = some (.int (c.toNat : Int)) := by
  show (if _ then (b[(i : Int).toNat]?).map _ else none) = _
  rw [if_pos (by omega), show (i : Int).toNat = i by omega, h]; rfl

theorem flat_len {w : Nat} : ∀ {cs : List (List UInt8)}, (∀ c ∈ cs, c.length = w) → cs.flatten.length = cs.length * w
  | [], _ => by simp
  | c :: cs, h => by
    rw [List.flatten_cons, List.length_append, h c List.mem_cons_self, flat_len fun d hd => h d (List.mem_cons_of_mem _ hd), List.length_cons, Nat.add_mul]; omega
theorem sw_idx {o w j m : Nat} (hm : w - j = m + 1) : ((o : Int) + (w : Int) - 1 - (j : Int)) = ((o + m : Nat) : Int) := by omega
theorem buf_len {a ch t : List UInt8} {w j : Nat} (hw : ch.length = w) (hj : j ≤ w) : (a ++ (List.replicate (w - j) 0 ++ ((ch.take j).reverse ++ t))).length = a.length + (w + t.length) := by
  rw [List.length_append, List.length_append, List.length_append, List.length_replicate, List.length_reverse, List.length_take, hw, Nat.min_eq_left hj, ← Nat.add_assoc (w - j), Nat.sub_add_cancel hj]
theorem pred_m {w j : Nat} (h : j < w) : ∃ m, w - j = m + 1 ∧ w - (j + 1) = m := ⟨w - j - 1, by omega, by omega⟩
theorem m_lt {a w j m t : Nat} (hm : w - j = m + 1) : a + m < a + (w + t) := by omega
theorem swap_inner {data ch a t : List UInt8} {w o : Nat} (x : Slot) (s : Slot) (hw : ch.length = w) (ha : a.length = o) (hd : ∀ j, j < w → data[o + j]? = ch[j]?) (hl : data.length ≤ 1000000) (hb : a.length + (w + t.length) ≤ 1000000) (hx : x = .fz (.int (o : Int))) :
    ∃ s', forRun (bName 4) (dThen (dSet (dItem (dVar 0) (dBin .Add (dVar 3) (dVar 4))) (dBin .Sub (dBin .Sub (dBin .Add (dVar 3) (dVar 1)) (dConst (.int 1))) (dVar 4)) 2) (dEnd)) ((List.range w).map fun (i : Nat) => PV.int (i : Int))
      [.fz (.bytes data), .fz (.int (w : Int)), .ob (a ++ (List.replicate w 0 ++ t)), x, s] = some ([.fz (.bytes data), .fz (.int (w : Int)), .ob (a ++ (ch.reverse ++ t)), x, s'], .next) := by
  obtain ⟨σ', h1, s', h2⟩ := forR (bd := bName 4) (g := fun (i : Nat) => PV.int (i : Int)) (n := w) (σ := [.fz (.bytes data), .fz (.int (w : Int)), .ob (a ++ (List.replicate w 0 ++ t)), x, s])
    (db := (dThen (dSet (dItem (dVar 0) (dBin .Add (dVar 3) (dVar 4))) (dBin .Sub (dBin .Sub (dBin .Add (dVar 3) (dVar 1)) (dConst (.int 1))) (dVar 4)) 2) (dEnd)))
    (fun j σ => ∃ s, σ = [.fz (.bytes data), .fz (.int (w : Int)), .ob (a ++ (List.replicate (w - j) 0 ++ ((ch.take j).reverse ++ t))), x, s]) ⟨s, by simp⟩ (by
      rintro j σ hj ⟨s, rfl⟩
      refine ⟨_, _, rfl, ?_, .fz (.int (j : Int)), rfl⟩
      have hjc : j < ch.length := by rw [hw]; exact hj
      have hc : ch[j]? = some ch[j] := List.getElem?_eq_getElem hjc
      obtain ⟨m, hm, hm1⟩ := pred_m hj
      have bl := buf_len (a := a) (t := t) hw (Nat.le_of_lt hj)
      have e : dSet (dItem (dVar 0) (dBin .Add (dVar 3) (dVar 4))) (dBin .Sub (dBin .Sub (dBin .Add (dVar 3) (dVar 1)) (dConst (.int 1))) (dVar 4)) 2
          ([.fz (.bytes data), .fz (.int (w : Int)), .ob (a ++ (List.replicate (w - j) 0 ++ ((ch.take j).reverse ++ t))), x, .fz (.int (j : Int))]) =
          some ([.fz (.bytes data), .fz (.int (w : Int)), .ob ((a ++ (List.replicate (w - j) 0 ++ ((ch.take j).reverse ++ t))).set (a.length + m) ch[j]), x, .fz (.int (j : Int))], .next) := by
        subst hx
        refine st_dset rfl (ev_item rfl (ev_bin rfl rfl rfl) ?_) ?_ (by rw [bl, ha]; exact m_lt hm) (by rw [bl]; exact Nat.le_trans hb (by decide))
        · show pvItem _ (.int ((o : Int) + (j : Int))) = _
          rw [show (o : Int) + (j : Int) = ((o + j : Nat) : Int) from rfl]
          exact itemB (by rw [hd j hj, hc]) (Nat.le_trans hl (by decide))
        · show some (PV.int ((o : Int) + (w : Int) - 1 - (j : Int))) = _
          rw [sw_idx hm, ha]
      show (match dSet _ _ 2 _ with | some (σ', .next) => dEnd σ' | some (σ', .ret v) => some (σ', .ret v) | none => none) = _
      rw [show (List.set [Slot.fz (.bytes data), .fz (.int (w : Int)), .ob (a ++ (List.replicate (w - j) 0 ++ ((ch.take j).reverse ++ t))), x, s] 4 (.fz (.int (j : Int)))) = [.fz (.bytes data), .fz (.int (w : Int)), .ob (a ++ (List.replicate (w - j) 0 ++ ((ch.take j).reverse ++ t))), x, .fz (.int (j : Int))] from rfl, e]
      show some (_, Out.next) = _
      rw [hm, set_mid, hm1, List.take_add_one, hc]
      simp only [Option.toList_some, List.reverse_append, List.reverse_cons, List.reverse_nil, List.nil_append, List.cons_append])
  refine ⟨s', ?_⟩
  rw [h1, h2, Nat.sub_self, List.take_of_length_le (Nat.le_of_eq hw)]; rfl

theorem part_le {n w i : Nat} (hi : i < n) (h : n * w ≤ 1000000) : (n - i) * w = w + (n - (i + 1)) * w ∧ i * w + (w + (n - (i + 1)) * w) ≤ 1000000 ∧ i * w + w ≤ n * w := by
  have e1 : n - i = 1 + (n - (i + 1)) := by omega
  have e2 : i + (n - i) = n := by omega
  have h1 : (n - i) * w = w + (n - (i + 1)) * w := by rw [e1, Nat.add_mul, Nat.one_mul]
  have h2 : i * w + (n - i) * w = n * w := by rw [← Nat.add_mul, e2]
  refine ⟨h1, by rw [← h1, h2]; exact h, ?_⟩
  rw [← h2, h1, ← Nat.add_assoc]; exact Nat.le_add_right _ _
theorem rev_len {w : Nat} {cs : List (List UInt8)} (h : ∀ c ∈ cs, c.length = w) : ∀ c ∈ cs.map List.reverse, c.length = w := fun c hc => by
  obtain ⟨d, hd, rfl⟩ := List.mem_map.mp hc
  rw [List.length_reverse]; exact h d hd
theorem swap_sp {cs : List (List UInt8)} {w : Nat} (h0 : 0 < w) (hw : ∀ c ∈ cs, c.length = w) (hl : cs.length * w ≤ 1000000) (hw2 : w ≤ 1000000) : f_byteswap_sp [.bytes cs.flatten, .int (w : Int)] = some (.bytes (cs.map List.reverse).flatten) := by
  have fl := flat_len hw
  refine r_fn rfl ?_
  show Ret _ (f_byteswap_d [.fz (.bytes cs.flatten), .fz (.int (w : Int)), .un, .un, .un])
  unfold f_byteswap_d
  have el : spLen [.bytes cs.flatten] = some (.int ((cs.length * w : Nat) : Int)) := by
    show (if _ then _ else _) = _
    rw [if_pos (by rw [fl]; exact Nat.le_trans hl (by decide)), fl]
  refine st_ba (ev_call rfl el) (Nat.le_trans hl (by decide)) ?_
  dsimp only [List.set]
  have er : spRange [.int 0, .int ((cs.length * w : Nat) : Int), .int (w : Int)] = some (.range 0 ((cs.length * w : Nat) : Int) (w : Int)) := by
    show (if _ then _ else _) = _
    rw [if_pos (by omega)]
  obtain ⟨σ', h1, s3, s4, h2⟩ := forR (bd := bName 3) (g := fun i => .int ((i * w : Nat) : Int)) (n := cs.length) (σ := [.fz (.bytes cs.flatten), .fz (.int (w : Int)), .ob (List.replicate (cs.length * w) 0), .un, .un])
    (db := (dThen (dFor [] (dCall spRange (dCons (dVar 1) (dNil))) (bName 4) (dThen (dSet (dItem (dVar 0) (dBin .Add (dVar 3) (dVar 4))) (dBin .Sub (dBin .Sub (dBin .Add (dVar 3) (dVar 1)) (dConst (.int 1))) (dVar 4)) 2) (dEnd))) (dEnd)))
    (fun i σ => ∃ s3 s4, σ = [.fz (.bytes cs.flatten), .fz (.int (w : Int)), .ob (((cs.take i).map List.reverse).flatten ++ List.replicate ((cs.length - i) * w) 0), s3, s4]) ⟨.un, .un, by simp⟩ (by
      rintro i σ hi ⟨s3, s4, rfl⟩
      have hwt : ∀ c ∈ cs.take i, c.length = w := fun c hc => hw c (List.mem_of_mem_take hc)
      have ht : (cs.take i).flatten.length = i * w := by rw [flat_len hwt, List.length_take, Nat.min_eq_left (Nat.le_of_lt hi)]
      have ht2 : (((cs.take i).map List.reverse).flatten).length = i * w := by
        rw [flat_len (rev_len hwt), List.length_map, List.length_take, Nat.min_eq_left (Nat.le_of_lt hi)]
      have hcl : cs[i].length = w := hw _ (List.getElem_mem hi)
      have hsplit : cs.flatten = (cs.take i).flatten ++ (cs[i] ++ (cs.drop (i + 1)).flatten) := by
        conv => lhs; rw [← List.take_append_drop i cs, List.flatten_append, List.drop_eq_getElem_cons hi, List.flatten_cons]
      obtain ⟨hm, hm2, hm3⟩ := part_le hi hl
      obtain ⟨s', h⟩ := swap_inner (data := cs.flatten) (ch := cs[i]) (a := ((cs.take i).map List.reverse).flatten) (t := List.replicate ((cs.length - (i + 1)) * w) 0) (w := w) (o := i * w) (.fz (.int ((i * w : Nat) : Int))) s4 hcl ht2 (by
        intro j hj
        rw [hsplit, List.getElem?_append_right (by rw [ht]; exact Nat.le_add_right _ _), ht, Nat.add_sub_cancel_left, List.getElem?_append_left (by rw [hcl]; exact hj)]) (by rw [fl]; exact hl) (by rw [List.length_replicate, ht2]; exact hm2) rfl
      refine ⟨_, _, rfl, ?_, .fz (.int ((i * w : Nat) : Int)), s', rfl⟩
      rw [hm, ← List.replicate_append_replicate]
      refine frame_of (v := .range 0 (w : Int) 1) rfl (range_one w hw2) h ?_
      show some (_, Out.next) = _
      rw [List.take_add_one, List.getElem?_eq_getElem hi]
      simp only [Option.toList_some, List.map_append, List.map_cons, List.map_nil, List.flatten_append, List.flatten_cons, List.flatten_nil, List.append_nil, List.append_assoc])
  refine r_forR (xs := (List.range cs.length).map fun i => .int ((i * w : Nat) : Int)) (ev_call (ev_cons rfl (ev_cons (ev_call rfl el) (ev_cons rfl rfl))) er) (range_it _ _ h0 hl hw2) h1 ?_
  rw [h2]
  refine r_ret (ev_call (ev_cons rfl rfl) ?_)
  rw [List.take_length, Nat.sub_self, Nat.zero_mul]
  show (if _ then _ else _) = _
  have : (List.map List.reverse cs).flatten.length = cs.length * w := by rw [flat_len (rev_len hw), List.length_map]
  rw [List.replicate_zero, List.append_nil]
  exact if_pos (by rw [this]; exact Nat.le_trans hl (by decide))
end Mine

end
section
open PySem PySem.W PySem.Calls PyProof.Rows
set_option linter.unusedVariables false
set_option maxRecDepth 100000
namespace Mine

theorem flat_chunk {α : Type} {w : Nat} : ∀ {cs : List (List α)} (i : Nat) (c : List α), (∀ c ∈ cs, c.length = w) → cs[i]? = some c → (cs.flatten.drop (i * w)).take w = c
  | [], i, c, _, h => by simp at h
  | d :: cs, 0, c, hw, h => by
    simp at h; subst h
    have := hw d List.mem_cons_self
    rw [Nat.zero_mul, List.drop_zero, List.flatten_cons, List.take_left' this]
  | d :: cs, i + 1, c, hw, h => by
    have hd := hw d List.mem_cons_self
    have := flat_chunk (w := w) (cs := cs) i c (fun e he => hw e (List.mem_cons_of_mem _ he)) (by simpa using h)
    rw [List.flatten_cons, Nat.add_mul, Nat.one_mul, Nat.add_comm (i * w) w, ← List.drop_drop, List.drop_left' hd]
    exact this
theorem flat_lenA {α : Type} {w : Nat} : ∀ {cs : List (List α)}, (∀ c ∈ cs, c.length = w) → cs.flatten.length = cs.length * w
  | [], _ => by simp
  | c :: cs, h => by
    rw [List.flatten_cons, List.length_append, h c List.mem_cons_self, flat_lenA fun d hd => h d (List.mem_cons_of_mem _ hd), List.length_cons, Nat.add_mul]; omega

theorem u8_nat {i : Int} (h0 : 0 ≤ i) (h1 : i < 256) : ((i.toNat.toUInt8).toNat : Int) = i := by
  have : (i.toNat.toUInt8).toNat = i.toNat % 256 := UInt8.toNat_ofNat'
  rw [this, Nat.mod_eq_of_lt (by omega)]; omega

theorem sliceB {b : List UInt8} {a c : Nat} (hc : c ≤ b.length) (hac : a ≤ c) (hl : b.length ≤ 16777216) : pvSlice (.bytes b) (some (a : Int)) (some (c : Int)) none = some (.bytes ((b.drop a).take (c - a))) := by
  unfold pvSlice
  rw [← pick_run b a c hc hac]
  exact if_pos ⟨rfl, hl⟩
end Mine

end
section
open PySem PySem.W PySem.Calls PyProof.Rows
set_option linter.unusedVariables false
set_option maxRecDepth 100000
namespace Mine

theorem pt_mir (place least step c : Int) : pt ((64 - place) % 96) least step c = pt place least step (64 - c) := by
  unfold pt; rw [wt_mod, wt_mirror]
theorem flat_rev {α β : Type} (f : α → List β) : ∀ l : List α, (l.flatMap f).reverse = l.reverse.flatMap fun x => (f x).reverse
  | [] => rfl
  | a :: l => by
    rw [List.flatMap_cons, List.reverse_append, flat_rev f l, List.reverse_cons, List.flatMap_append]
    simp
theorem itemL {b : List PV} {i : Nat} {c : PV} (h : b[i]? = some c) (hi : i ≤ 1000000) : pvItem (.list b) (.int (i : Int)) = some c := by
  have e : pvItem (.list b) (.int (i : Int)) = if (0 ≤ (i : Int) ∧ (i : Int) < 9223372036854775807) then b[(i : Int).toNat]? else none := rfl
  rw [e, if_pos (by omega), Int.toNat_natCast]; exact h
theorem three (i : Nat) : (3 * (i : Int)) = ((i * 3 : Nat) : Int) ∧ (3 * (i : Int) + 3) = ((i * 3 + 3 : Nat) : Int) := by omega
theorem cut3 {n i : Nat} (hn : n ≤ 100) (h : i < n) : i * 3 + 3 ≤ n * 3 ∧ i * 3 ≤ i * 3 + 3 ∧ n * 3 ≤ 16777216 ∧ i ≤ 1000000 ∧ n ≤ 16777216 := by omega
end Mine

end
section
open PySem PySem.W PySem.Calls PyProof.Rows
set_option linter.unusedVariables false
set_option maxRecDepth 100000
namespace Mine
open PySem.Float64

abbrev Trip : Type := Int × Int × Int
noncomputable def tr (x : Trip) : PV := .tuple [.int x.1, .int x.2.1, .int x.2.2]
/-- the place on the circle -/
noncomputable def hp (x : Trip) : Int := (x.1 + 32) % 96
structure Good (x : Trip) : Prop where
  a : -47 ≤ x.1
  b : x.1 ≤ 47
  z : x.1 ≠ 0
  l0 : 0 ≤ x.2.1
  l1 : x.2.1 ≤ 191
  s0 : 1 ≤ x.2.2
  s1 : x.2.2 ≤ 4
theorem dep8 : Dep 8 256 := ⟨rfl, .inl rfl⟩
theorem good_bd {l s : Int} (a : 0 ≤ l) (b : l ≤ 191) (c : 1 ≤ s) (d : s ≤ 4) : 0 ≤ s ∧ 0 < l + 16 * s ∧ l + 16 * s < 256 := by omega
theorem Good.col {x : Trip} (g : Good x) : Col (hp x) x.2.1 x.2.2 8 256 :=
  have b := good_bd g.l0 g.l1 g.s0 g.s1
  ⟨dep8, (m96 _).1, (m96 _).2, g.l0, b.1, b.2.1, b.2.2⟩
theorem Good.cf {x : Trip} (g : Good x) : CF (hp x) x.2.1 x.2.2 256 (fracBits (hp x) 96) := by
  have := colour g.col
  rw [if_pos (Int.lt_of_lt_of_le (by decide) g.s0)] at this; exact this
/-- the parts -/
noncomputable def ox (x : Trip) : List Int := [pt (hp x) x.2.1 x.2.2 0, pt (hp x) x.2.1 x.2.2 32, pt (hp x) x.2.1 x.2.2 64]
noncomputable def u8 (i : Int) : UInt8 := i.toNat.toUInt8
noncomputable def oc (x : Trip) : List UInt8 := (ox x).map u8
theorem oc_len (x : Trip) : (oc x).length = 3 := rfl
theorem u8_int {i : Int} (h0 : 0 ≤ i) (h1 : i < 256) : ((u8 i).toNat : Int) = i := u8_nat h0 h1
theorem oc_ints {x : Trip} (g : Good x) : byteInts (oc x) = (ox x).map .int := by
  have b := pt_bd g.col
  show [PV.int ((u8 _).toNat : Int), .int ((u8 _).toNat : Int), .int ((u8 _).toNat : Int)] = [.int _, .int _, .int _]
  rw [u8_int (b 0).1 (b 0).2, u8_int (b 32).1 (b 32).2, u8_int (b 64).1 (b 64).2]

theorem pt_wt (way least step c : Int) : pt way least step c = pt ((way + 32) % 96) least step (c + 32) := by
  unfold pt
  rw [wt_mod, wt_wf, wt_wf, show way + 32 - (c + 32) = way - c by omega]
theorem octets_sp (x : Trip) : L1.f_law_octets_sp [.int x.1, .int x.2.1, .int x.2.2] = some (.list ((ox x).map .int)) := by
  have e1 : pt x.1 x.2.1 x.2.2 (-32) = pt (hp x) x.2.1 x.2.2 0 := pt_wt ..
  have e2 : pt x.1 x.2.1 x.2.2 0 = pt (hp x) x.2.1 x.2.2 32 := pt_wt ..
  have e3 : pt x.1 x.2.1 x.2.2 32 = pt (hp x) x.2.1 x.2.2 64 := pt_wt ..
  unfold ox
  rw [← e1, ← e2, ← e3]
  obtain ⟨way, least, step⟩ := x
  refine r_fn rfl ?_
  show Ret _ (L1.f_law_octets_d [.fz (.int way), .fz (.int least), .fz (.int step), .un, .un, .un])
  unfold L1.f_law_octets_d
  refine r_new ?_; dsimp only [List.set]
  obtain ⟨s1, h1⟩ := far_body rfl way least step (-32) [] .un (by decide)
  obtain ⟨s2, h2⟩ := far_body rfl way least step 0 [.int (pt way least step (-32))] s1 (show 1 < 1000000 by decide)
  obtain ⟨s3, h3⟩ := far_body rfl way least step 32 [.int (pt way least step (-32)), .int (pt way least step 0)] s2 (show 2 < 1000000 by decide)
  refine r_forR (xs := [.int (-32), .int 0, .int 32]) rfl rfl (for3 rfl h1 rfl h2 rfl h3) ?_
  exact r_ret rfl

noncomputable def nm1v (x : Trip) : PV := .tuple [.float (fracBits (hp x) 96), .float (fracBits (16 * x.2.2) (x.2.1 + 16 * x.2.2)), .float (fracBits (x.2.1 + 16 * x.2.2) 256)]
noncomputable def nm2v (x : Trip) : PV := .tuple [.float (fracBits (hp x) 96), .float (fracBits (x.2.1 + (x.2.1 + 16 * x.2.2)) (2 * 256)), .float (fracBits (16 * x.2.2) (min (x.2.1 + (x.2.1 + 16 * x.2.2)) (2 * 256 - (x.2.1 + (x.2.1 + 16 * x.2.2)))))]
theorem names_sp {x : Trip} (g : Good x) : L1.f_law_names_sp [.int x.1, .int x.2.1, .int x.2.2] = some (.tuple [nm1v x, nm2v x]) := by
  have F := g.cf
  have c := g.col
  have sh := shade0 c.pos c.top c.l0 c.s0
  refine r_fn rfl ?_
  show Ret _ (L1.f_law_names_d [.fz (.int x.1), .fz (.int x.2.1), .fz (.int x.2.2), .un, .un, .un, .un])
  unfold L1.f_law_names_d
  refine r_asg (v := .float (fracBits (hp x) 96)) (ev_bin (ev_bin (ev_bin rfl rfl rfl) rfl (modI (by decide))) rfl (divI (b := 96) (by decide) F.f0)) ?_; dsimp only [List.set]
  refine r_asg (ev_bin rfl (ev_bin rfl rfl (mulI (.inl (by decide)))) rfl) ?_; dsimp only [List.set]
  refine r_asg (ev_bin rfl rfl rfl) ?_; dsimp only [List.set]
  refine r_asg (ev_bin (ev_bin rfl rfl (mulI (.inl (by decide)))) (ev_call (ev_cons rfl (ev_cons (ev_bin rfl rfl rfl) rfl)) (spMin_int _ _)) (divI (Int.ne_of_gt sh.1) F.f4)) ?_; dsimp only [List.set]
  exact r_ret (ev_seq (ev_cons (ev_seq (ev_cons rfl (ev_cons (ev_bin (ev_bin rfl rfl (mulI (.inl (by decide)))) rfl (divI (Int.ne_of_gt c.pos) F.f1)) (ev_cons (ev_bin rfl rfl (divI (b := 256) (by decide) F.f2)) rfl))) (show 3 ≤ 16777216 by decide))
    (ev_cons (ev_seq (ev_cons rfl (ev_cons (ev_bin rfl rfl (divI (b := 512) (by decide) F.f3)) (ev_cons rfl rfl))) (show 3 ≤ 16777216 by decide)) rfl)) (show 2 ≤ 16777216 by decide))

/-- the octets of a row -/
noncomputable def E1 (L : List Trip) : List UInt8 := L.flatMap oc
theorem E1_len (L : List Trip) : (E1 L).length = L.length * 3 := by
  unfold E1; rw [List.flatMap_def, flat_lenA (w := 3), List.length_map]
  intro c hc; obtain ⟨x, _, rfl⟩ := List.mem_map.mp hc; rfl
theorem E1_at {L : List Trip} {i : Nat} {x : Trip} (h : L[i]? = some x) : ((E1 L).drop (i * 3)).take 3 = oc x := by
  unfold E1; rw [List.flatMap_def]
  exact flat_chunk (w := 3) (cs := L.map oc) i (oc x) (fun c hc => by obtain ⟨x, _, rfl⟩ := List.mem_map.mp hc; rfl) (by rw [List.getElem?_map, h]; rfl)
theorem len_of {xs : List PV} {n : Nat} (h : xs.length = n) (hn : n ≤ 16777216) : spLen [.list xs] = some (.int (n : Int)) := by
  show (if _ then _ else _) = _
  rw [h, if_pos hn]
theorem lenB_of {xs : List UInt8} {n : Nat} (h : xs.length = n) (hn : n ≤ 16777216) : spLen [.bytes xs] = some (.int (n : Int)) := by
  show (if _ then _ else _) = _
  rw [h, if_pos hn]
theorem itemL' {b : List PV} {i : Nat} {c : PV} (h : b[i]? = some c) (hi : i ≤ 1000000) : pvItem (.list b) (.int (i : Int)) = some c := by
  have e : pvItem (.list b) (.int (i : Int)) = if (0 ≤ (i : Int) ∧ (i : Int) < 9223372036854775807) then b[(i : Int).toNat]? else none := rfl
  rw [e, if_pos (by omega), Int.toNat_natCast]; exact h
theorem spList_of {b : List UInt8} (h : b.length ≤ 16777216) : spList [.bytes b] = some (.list (byteInts b)) := if_pos h
theorem sl3 {b : List UInt8} {n i : Nat} (hb : b.length = n * 3) (hn : n ≤ 100) (h : i < n) : pvSlice (.bytes b) (some (3 * (i : Int))) (some (3 * (i : Int) + 3)) none = some (.bytes ((b.drop (i * 3)).take 3)) := by
  have c := cut3 hn h
  rw [(three i).2, (three i).1, sliceB (by rw [hb]; exact c.1) c.2.1 (by rw [hb]; exact c.2.2.1), Nat.add_sub_cancel_left]

theorem told_sp {L : List Trip} (hL : ∀ x ∈ L, Good x) (hl : L.length ≤ 100) : L1.f_law_told_sp [.bytes (E1 L), .list (L.map tr)] = some (.bool true) := by
  have hb := E1_len L
  refine r_fn rfl ?_
  show Ret _ (L1.f_law_told_d [.fz (.bytes (E1 L)), .fz (.list (L.map tr)), .un, .un, .un, .un, .un, .un, .un, .un, .un])
  unfold L1.f_law_told_d
  have e1 : spLen [.list (L.map tr)] = some (.int (L.length : Int)) := len_of (List.length_map ..) (Nat.le_trans hl (by decide))
  have e2 : spLen [.bytes (E1 L)] = some (.int ((L.length * 3 : Nat) : Int)) := lenB_of hb (Nat.le_trans (Nat.mul_le_mul_right 3 hl) (by decide))
  refine r_ifF (ev_or0 (ev_not (c := true) (ev_val rfl)) (ev_or0 (ev_cmp (ev_call rfl e2) (ev_bin rfl (ev_call rfl e1) (mulI (.inl (by decide)))) (neq_of (c := true) (by
    rw [(three L.length).1]; exact pvEq_int 6 _) fun _ _ h _ => by cases h)) rfl)) (r_end ?_)
  refine r_for (v := .range 0 (L.length : Int) 1) (ev_call (ev_cons (ev_call rfl e1) rfl) rfl) (range_one _ (Nat.le_trans hl (by decide)))
    (fun rest σ => ∃ i, rest = ((List.range L.length).drop i).map (fun (i : Nat) => PV.int (i : Int)) ∧ ∃ s2 s3 s4 s5 s6 s7 s8 s9 s10, σ = [.fz (.bytes (E1 L)), .fz (.list (L.map tr)), s2, s3, s4, s5, s6, s7, s8, s9, s10])
    ⟨0, rfl, .un, .un, .un, .un, .un, .un, .un, .un, .un, rfl⟩ ?_ ?_
  · rintro y rest σ ⟨i, hi, s2, s3, s4, s5, s6, s7, s8, s9, s10, rfl⟩
    have hlt : i < L.length := by
      rcases Nat.lt_or_ge i L.length with h | h
      · exact h
      · rw [List.drop_of_length_le (by rw [List.length_range]; exact h)] at hi; cases hi
    rw [List.drop_eq_getElem_cons (by rw [List.length_range]; exact hlt), List.map_cons, List.getElem_range] at hi
    injection hi with hy hrest
    subst hy
    have hxi : L[i]? = some L[i] := List.getElem?_eq_getElem hlt
    have g := hL _ (List.getElem_mem hlt)
    have F := g.cf
    have hat := E1_at hxi
    generalize L[i] = x at *
    have e6 : pvEq 6 (.list ((ox x).map .int)) (.list ((ox x).map .int)) = some true := pvEq_ints 5 (ox x)
    have q : pvEq 6 (.tuple [nm1v x, nm2v x]) (.tuple [nm1v x, nm2v x]) = some true :=
      pvEq_tuple 5 (mem2 (pvEq_tuple 4 (mem3 (pvEq_float 4 F.f0) (pvEq_float 4 F.f1) (pvEq_float 4 F.f2))) (pvEq_tuple 4 (mem3 (pvEq_float 4 F.f0) (pvEq_float 4 F.f3) (pvEq_float 4 F.f4))))
    refine ⟨_, _, rfl, ?_, i + 1, hrest, .fz (.int (i : Int)), .fz (.int x.1), .fz (.int x.2.1), .fz (.int x.2.2), .fz (.list ((ox x).map .int)), .fz (.float (fracBits (pt (hp x) x.2.1 x.2.2 0) 256)), .fz (.float (fracBits (pt (hp x) x.2.1 x.2.2 32) 256)), .fz (.float (fracBits (pt (hp x) x.2.1 x.2.2 64) 256)), .fz (.tuple [nm1v x, nm2v x]), rfl⟩
    refine st_asgT (v := tr x) (ev_item rfl rfl (itemL' (by rw [List.getElem?_map, hxi]; rfl) (cut3 hl hlt).2.2.2.1)) rfl ?_
    dsimp only [setAll, List.set]
    refine st_asg (v := .list ((ox x).map .int)) (ev_call (ev_cons (ev_slice (r := none) rfl (ev_osome (ev_bin rfl rfl (mulI (.inl (by decide))))) (ev_osome (ev_bin (ev_bin rfl rfl (mulI (.inl (by decide)))) rfl rfl)) rfl (sl3 hb hl hlt)) rfl) (by rw [hat, spList_of (b := oc x) (show 3 ≤ 16777216 by decide), oc_ints g])) ?_
    dsimp only [List.set]
    refine st_ifF (ev_cmp rfl (ev_call rfl (octets_sp x)) (neq_of (c := true) e6 fun _ _ h _ => by cases h)) (st_end ?_)
    refine st_asgT (ev_compT (xs := (ox x).map .int) (zs := [.float (fracBits (pt (hp x) x.2.1 x.2.2 0) 256), .float (fracBits (pt (hp x) x.2.1 x.2.2 32) 256), .float (fracBits (pt (hp x) x.2.1 x.2.2 64) 256)]) rfl rfl rfl
      (turns3 rfl (ev_emit (ev_bin rfl rfl (divI (b := 256) (by decide) F.g0))) rfl (ev_emit (ev_bin rfl rfl (divI (b := 256) (by decide) F.g1))) rfl (ev_emit (ev_bin rfl rfl (divI (b := 256) (by decide) F.g2)))) (show 3 ≤ 16777216 by decide)) rfl ?_
    dsimp only [setAll, List.set]
    refine st_asg (v := .tuple [nm1v x, nm2v x]) (ev_seq (ev_cons (ev_call rfl F.hsv) (ev_cons (ev_call rfl F.hls) rfl)) (show 2 ≤ 16777216 by decide)) ?_
    dsimp only [List.set]
    exact st_ifF (ev_cmp rfl (ev_call rfl (names_sp g)) (neq_of (c := true) q fun _ _ h _ => by cases h)) (st_end rfl)
  · rintro σ' ⟨i, hi, s2, s3, s4, s5, s6, s7, s8, s9, s10, rfl⟩
    exact r_ret rfl
end Mine

end
section
open PySem PySem.W PySem.Calls PyProof.Rows
set_option linter.unusedVariables false
set_option maxRecDepth 100000
namespace Mine
open PySem.Float64

noncomputable def rndB (p : Int) : Bool := isFinite (mul (ofInt 96) (fracBits p 96)) && (PySem.Flt.toInt nearestOf (mul (ofInt 96) (fracBits p 96)) == p)
theorem rnd_tbl : ∀ p : Fin 96, rndB (p.val : Int) = true := by decide +kernel
theorem rnd_ok (x : Int) : spRound [.float (mul (ofInt 96) (fracBits (x % 96) 96))] = some (.int (x % 96)) := by
  have h := fin96 (P := fun p => rndB p = true) rnd_tbl (m96 x).1 (m96 x).2
  obtain ⟨h1, h2⟩ := Bool.and_eq_true_iff.mp h
  refine Eq.trans (if_pos h1) ?_
  rw [eq_of_beq h2]
theorem back_way {w : Int} (a : -47 ≤ w) (b : w ≤ 47) : ((w + 32) % 96 + 16) % 96 - 48 = w := by omega
theorem cutS {n i : Nat} (hn : n ≤ 100) (h : i < n) : i * 3 + 3 ≤ n * 3 ∧ n * 3 ≤ 1000000 ∧ i < 1000000 := by omega
theorem seen_sp {L : List Trip} (hL : ∀ x ∈ L, Good x) (hl : L.length ≤ 100) : L1.f_law_seen_sp [.bytes (E1 L)] = some (.list (L.map fun x => .int x.1)) := by
  have hb := E1_len L
  refine r_fn rfl ?_
  show Ret _ (L1.f_law_seen_d [.fz (.bytes (E1 L)), .un, .un, .un, .un, .un])
  unfold L1.f_law_seen_d
  refine r_new ?_
  dsimp only [List.set]
  have e2 : spLen [.bytes (E1 L)] = some (.int ((L.length * 3 : Nat) : Int)) := lenB_of hb (Nat.le_trans (Nat.mul_le_mul_right 3 hl) (by decide))
  obtain ⟨σ', h1, s2, s3, s4, s5, h2⟩ := forR (bd := bName 2) (g := fun (i : Nat) => PV.int ((i * 3 : Nat) : Int)) (n := L.length) (σ := [.fz (.bytes (E1 L)), .ol [], .un, .un, .un, .un])
    (db := (dThen (dAsgT (dComp (dSlice (dVar 0) (oSome (dVar 2)) (oSome (dBin .Add (dVar 2) (dConst (.int 3)))) (oNone)) (bName 0) (dEmit (dBin .Div (dVar 0) (dConst (.int 256)))) 1 []) (bTuple [3, 4, 5])) (dThen (dAppend (dBin .Sub (dBin .Mod (dBin .Add (dCall spRound (dCons (dBin .Mult (dConst (.int 96)) (dItem (dCall rgb_to_hsv_sp (dCons (dVar 3) (dCons (dVar 4) (dCons (dVar 5) (dNil))))) (dConst (.int 0)))) (dNil))) (dConst (.int 16))) (dConst (.int 96))) (dConst (.int 48))) 1) (dEnd))))
    (fun i σ => ∃ s2 s3 s4 s5, σ = [.fz (.bytes (E1 L)), .ol ((L.take i).map fun x => .int x.1), s2, s3, s4, s5]) ⟨.un, .un, .un, .un, rfl⟩ (by
      rintro i σ hi ⟨s2, s3, s4, s5, rfl⟩
      have hxi : L[i]? = some L[i] := List.getElem?_eq_getElem hi
      have g := hL _ (List.getElem_mem hi)
      have hat := E1_at hxi
      have F := g.cf
      have c := cutS hl hi
      generalize hx : L[i] = x at *
      refine ⟨_, _, rfl, ?_, .fz (.int ((i * 3 : Nat) : Int)), .fz (.float (fracBits (pt (hp x) x.2.1 x.2.2 0) 256)), .fz (.float (fracBits (pt (hp x) x.2.1 x.2.2 32) 256)), .fz (.float (fracBits (pt (hp x) x.2.1 x.2.2 64) 256)), rfl⟩
      refine st_asgT (ev_compT (v := .bytes (oc x)) (xs := (ox x).map .int) (zs := [.float (fracBits (pt (hp x) x.2.1 x.2.2 0) 256), .float (fracBits (pt (hp x) x.2.1 x.2.2 32) 256), .float (fracBits (pt (hp x) x.2.1 x.2.2 64) 256)])
        (ev_slice (p := some ((i * 3 : Nat) : Int)) (q := some ((i * 3 + 3 : Nat) : Int)) (r := none) rfl rfl rfl rfl (by
          rw [sliceB (by rw [hb]; exact c.1) (Nat.le_add_right _ _) (by rw [hb]; exact Nat.le_trans c.2.1 (by decide)), Nat.add_sub_cancel_left, hat])) (congrArg some (oc_ints g)) rfl
        (turns3 rfl (ev_emit (ev_bin rfl rfl (divI (b := 256) (by decide) F.g0))) rfl (ev_emit (ev_bin rfl rfl (divI (b := 256) (by decide) F.g1))) rfl (ev_emit (ev_bin rfl rfl (divI (b := 256) (by decide) F.g2)))) (show 3 ≤ 16777216 by decide)) rfl ?_
      dsimp only [setAll, List.set]
      refine st_app (xs := (L.take i).map fun x => .int x.1) (v := .int x.1) rfl (ev_bin (ev_bin (ev_bin (ev_call (ev_cons (ev_bin rfl (ev_item (ev_call rfl F.hsv) rfl rfl) rfl) rfl) (rnd_ok (x.1 + 32))) rfl rfl) rfl (modI (by decide))) rfl (congrArg (fun i => some (PV.int i)) (back_way g.a g.b))) (by
          rw [List.length_map, List.length_take]; exact Nat.lt_of_le_of_lt (Nat.min_le_left _ _) (Nat.lt_trans c.2.2 (by decide))) ?_
      show some (_, Out.next) = _
      rw [List.take_add_one, hxi]
      simp only [Option.toList_some, List.map_append, List.map_cons, List.map_nil, List.set])
  refine r_forR (xs := (List.range L.length).map fun (i : Nat) => PV.int ((i * 3 : Nat) : Int)) (ev_call (ev_cons rfl (ev_cons (ev_call rfl e2) (ev_cons rfl rfl))) rfl) (range_it _ 3 (by decide) (Nat.le_trans (Nat.mul_le_mul_right 3 hl) (by decide)) (by decide)) h1 ?_
  rw [h2, List.take_length]
  exact r_ret rfl

theorem E1_app (A B : List Trip) : E1 (A ++ B) = E1 A ++ E1 B := by unfold E1; rw [List.flatMap_append]
theorem E1_one (x : Trip) : E1 [x] = oc x := by unfold E1; simp
theorem byteInts_app (a b : List UInt8) : byteInts (a ++ b) = byteInts a ++ byteInts b := by simp [byteInts]
theorem byteInts_len' (b : List UInt8) : (byteInts b).length = b.length := by simp [byteInts]
theorem paint3 {σ : St} {d : St → Option PV} {x : Trip} (g : Good x) {a0 a1 a2 : UInt64} (h : d σ = some (.tuple [.float a0, .float a1, .float a2])) (A0 : Pt 256 a0 (pt (hp x) x.2.1 x.2.2 0)) (A1 : Pt 256 a1 (pt (hp x) x.2.1 x.2.2 32)) (A2 : Pt 256 a2 (pt (hp x) x.2.1 x.2.2 64)) :
    dComp d (bName 0) (dEmit (dCall spRound (dCons (dBin .Mult (dConst (.int 256)) (dVar 0)) (dNil)))) 1 [] σ = some (.list (byteInts (oc x))) := by
  rw [oc_ints g]
  exact ev_compT (xs := [.float a0, .float a1, .float a2]) (zs := (ox x).map .int) h rfl rfl (turns3 rfl (ev_emit (ev_call (ev_cons (ev_bin rfl rfl A0.1) rfl) A0.2)) rfl (ev_emit (ev_call (ev_cons (ev_bin rfl rfl A1.1) rfl) A1.2)) rfl (ev_emit (ev_call (ev_cons (ev_bin rfl rfl A2.1) rfl) A2.2))) (show 3 ≤ 16777216 by decide)
theorem painted_sp {L : List Trip} (hL : ∀ x ∈ L, Good x) (hl : L.length ≤ 100) : L1.f_law_painted_sp [.list (L.map tr)] = some (.tuple [.list (byteInts (E1 L)), .list (byteInts (E1 L))]) := by
  refine r_fn rfl ?_
  show Ret _ (L1.f_law_painted_d [.fz (.list (L.map tr)), .un, .un, .un, .un, .un, .un, .un])
  unfold L1.f_law_painted_d
  refine r_new ?_
  dsimp only [List.set]
  refine r_new ?_
  dsimp only [List.set]
  refine r_for (v := .list (L.map tr)) (xs := L.map tr) rfl rfl
    (fun rest σ => ∃ A B, L = A ++ B ∧ rest = B.map tr ∧ ∃ s3 s4 s5 s6 s7, σ = [.fz (.list (L.map tr)), .ol (byteInts (E1 A)), .ol (byteInts (E1 A)), s3, s4, s5, s6, s7])
    ⟨[], L, rfl, rfl, .un, .un, .un, .un, .un, rfl⟩ ?_ ?_
  · rintro y rest σ ⟨A, B, hAB, hB, s3, s4, s5, s6, s7, rfl⟩
    cases B with
    | nil => cases hB
    | cons x B =>
      injection hB with hy hrest
      subst hy
      have g := hL x (by rw [hAB]; exact List.mem_append_right _ List.mem_cons_self)
      have F := g.cf
      obtain ⟨a0, a1, a2, ha, A0, A1, A2⟩ := F.bh
      obtain ⟨e0, e1, e2, he, E0, E1', E2⟩ := F.bl
      have hA : A.length ≤ 100 := by rw [hAB, List.length_append] at hl; exact Nat.le_trans (Nat.le_add_right _ _) hl
      have hsz : (byteInts (E1 A)).length + (byteInts (oc x)).length ≤ 16777216 := by
        rw [byteInts_len', byteInts_len', E1_len, oc_len]
        exact Nat.le_trans (Nat.add_le_add_right (Nat.mul_le_mul_right 3 hA) 3) (by decide)
      have e : byteInts (E1 A) ++ byteInts (oc x) = byteInts (E1 (A ++ [x])) := by rw [E1_app, E1_one, byteInts_app]
      refine ⟨_, _, rfl, ?_, A ++ [x], B, by rw [hAB, List.append_assoc]; rfl, hrest, .fz (.int x.1), .fz (.int x.2.1), .fz (.int x.2.2), .fz (nm1v x), .fz (nm2v x), rfl⟩
      dsimp only [setAll, List.set]
      refine st_asgT (ev_call rfl (names_sp g)) rfl ?_
      dsimp only [setAll, List.set]
      refine st_ext (xs := byteInts (E1 A)) rfl (paint3 g (ev_call (ev_cons (ev_item rfl rfl rfl) (ev_cons (ev_item rfl rfl rfl) (ev_cons (ev_item rfl rfl rfl) rfl))) ha) A0 A1 A2) hsz ?_
      dsimp only [List.set]
      refine st_ext (xs := byteInts (E1 A)) rfl (paint3 g (ev_call (ev_cons (ev_item rfl rfl rfl) (ev_cons (ev_item rfl rfl rfl) (ev_cons (ev_item rfl rfl rfl) rfl))) he) E0 E1' E2) hsz ?_
      rw [e]; rfl
  · rintro σ' ⟨A, B, hAB, hB, s3, s4, s5, s6, s7, rfl⟩
    have : B = [] := List.map_eq_nil_iff.mp hB.symm
    subst this
    rw [List.append_nil] at hAB
    subst hAB
    exact r_ret (ev_seq (ev_cons rfl (ev_cons rfl rfl)) (show 2 ≤ 16777216 by decide))
end Mine

end
section
open PySem PySem.W PySem.Calls PyProof.Rows
set_option linter.unusedVariables false
set_option maxRecDepth 100000
namespace Mine

noncomputable def negT (x : Trip) : Trip := (-x.1, x.2)
noncomputable def absT (x : Trip) : Trip := (if x.1 < 0 then -x.1 else x.1, x.2)
noncomputable def flipL (n : Nat) (L : List Trip) : List Trip := (L.take n).reverse.map negT ++ L.drop n
theorem negT_neg (x : Trip) : negT (negT x) = x := by unfold negT; rw [Int.neg_neg]
theorem absT_neg (x : Trip) : absT (negT x) = absT x := by
  unfold absT negT
  congr 1
  show (if -x.1 < 0 then - -x.1 else -x.1) = _
  by_cases h : x.1 < 0
  · rw [if_pos h, if_neg (by omega)]
  · rw [if_neg h]; split <;> omega
theorem absT_pos {x : Trip} (h : 0 < x.1) : absT x = x := by unfold absT; rw [if_neg (by omega)]
theorem flip_app {n : Nat} {A B : List Trip} (h : A.length = n) : flipL n (A ++ B) = A.reverse.map negT ++ B := by
  unfold flipL; rw [List.take_left' h, List.drop_left' h]
theorem flip_len (n : Nat) (L : List Trip) : (flipL n L).length = L.length := by
  unfold flipL
  rw [List.length_append, List.length_map, List.length_reverse, ← List.length_append, List.take_append_drop]
theorem map_abs_neg (L : List Trip) : (L.map negT).map absT = L.map absT := by
  rw [List.map_map]; exact List.map_congr_left fun x _ => absT_neg x
theorem map_neg_neg (L : List Trip) : (L.map negT).map negT = L := by
  rw [List.map_map, List.map_congr_left (g := id) (l := L) (f := negT ∘ negT) fun x _ => negT_neg x, List.map_id]
theorem flip_perm (n : Nat) (L : List Trip) : ((flipL n L).map absT).Perm (L.map absT) := by
  unfold flipL
  rw [List.map_append, map_abs_neg]
  conv => rhs; rw [← List.take_append_drop n L, List.map_append]
  exact List.Perm.append_right _ ((List.reverse_perm _).map _)
theorem flip_flip {n : Nat} {L : List Trip} (h : n ≤ L.length) : flipL n (flipL n L) = L := by
  have hl : (L.take n).length = n := by rw [List.length_take]; exact Nat.min_eq_left h
  conv => lhs; arg 2; unfold flipL
  rw [flip_app (by rw [List.length_map, List.length_reverse, hl]), ← List.map_reverse, List.reverse_reverse, map_neg_neg, List.take_append_drop]
noncomputable def run (cs : List Nat) (L : List Trip) : List Trip := cs.foldl (fun L c => flipL c L) L
theorem run_app (a b : List Nat) (L : List Trip) : run (a ++ b) L = run b (run a L) := by unfold run; rw [List.foldl_append]
theorem run_len : ∀ (cs : List Nat) (L : List Trip), (run cs L).length = L.length
  | [], _ => rfl
  | c :: cs, L => by
    show (run cs (flipL c L)).length = _
    rw [run_len cs, flip_len]
theorem run_perm : ∀ (cs : List Nat) (L : List Trip), ((run cs L).map absT).Perm (L.map absT)
  | [], _ => List.Perm.refl _
  | c :: cs, L => (run_perm cs (flipL c L)).trans (flip_perm c L)
theorem run_back : ∀ (cs : List Nat) (L : List Trip), (∀ c ∈ cs, c ≤ L.length) → run cs.reverse (run cs L) = L
  | [], _, _ => rfl
  | c :: cs, L, h => by
    rw [List.reverse_cons, run_app]
    show run [c] (run cs.reverse (run cs (flipL c L))) = L
    rw [run_back cs (flipL c L) fun d hd => by rw [flip_len]; exact h d (List.mem_cons_of_mem _ hd)]
    exact flip_flip (h c List.mem_cons_self)

theorem hp_neg (x : Trip) : hp (negT x) = (64 - hp x) % 96 := by
  show (-x.1 + 32) % 96 = (64 - (x.1 + 32) % 96) % 96
  omega
theorem ox_neg (x : Trip) : ox (negT x) = (ox x).reverse := by
  unfold ox
  rw [hp_neg]
  show [pt ((64 - hp x) % 96) x.2.1 x.2.2 0, pt ((64 - hp x) % 96) x.2.1 x.2.2 32, pt ((64 - hp x) % 96) x.2.1 x.2.2 64] = _
  rw [pt_mir, pt_mir, pt_mir]; rfl
theorem oc_neg (x : Trip) : oc (negT x) = (oc x).reverse := by unfold oc; rw [ox_neg, List.map_reverse]
theorem E1_rev (L : List Trip) : (E1 L).reverse = E1 (L.reverse.map negT) := by
  unfold E1
  rw [flat_rev, List.flatMap_map]
  congr 1
  funext x
  exact (oc_neg x).symm
theorem good_neg {x : Trip} (g : Good x) : Good (negT x) := by
  obtain ⟨a, b, z, r1, r2, r3, r4⟩ := g
  exact ⟨by show -47 ≤ -x.1; omega, by show -x.1 ≤ 47; omega, by show -x.1 ≠ 0; omega, r1, r2, r3, r4⟩
theorem good_abs {x : Trip} (g : Good x) : Good (absT x) ∧ 0 < (absT x).1 := by
  by_cases h : x.1 < 0
  · have e : absT x = negT x := by unfold absT negT; rw [if_pos h]
    rw [e]; exact ⟨good_neg g, by show 0 < -x.1; omega⟩
  · have h0 : 0 < x.1 := by have := g.z; omega
    rw [absT_pos h0]; exact ⟨g, h0⟩
theorem good_flip {n : Nat} {L : List Trip} (h : ∀ x ∈ L, Good x) : ∀ x ∈ flipL n L, Good x := by
  intro x hx
  rcases List.mem_append.mp hx with hx | hx
  · obtain ⟨y, hy, rfl⟩ := List.mem_map.mp hx
    exact good_neg (h y (List.mem_of_mem_take (List.mem_reverse.mp hy)))
  · exact h x (List.mem_of_mem_drop hx)
theorem good_run : ∀ (cs : List Nat) {L : List Trip}, (∀ x ∈ L, Good x) → ∀ x ∈ run cs L, Good x
  | [], _, h => h
  | c :: cs, L, h => good_run cs (L := flipL c L) (good_flip h)
theorem E1_take {L : List Trip} {n : Nat} (h : n ≤ L.length) : (E1 L).take (n * 3) = E1 (L.take n) ∧ (E1 L).drop (n * 3) = E1 (L.drop n) := by
  have hl : (E1 (L.take n)).length = n * 3 := by rw [E1_len, List.length_take, Nat.min_eq_left h]
  have e : E1 L = E1 (L.take n) ++ E1 (L.drop n) := by rw [← E1_app, List.take_append_drop]
  exact ⟨by rw [e, List.take_left' hl], by rw [e, List.drop_left' hl]⟩
theorem swap1 {b : List UInt8} {w : Nat} (h : b.length = w) (h0 : 0 < w) (h1 : w ≤ 1000000) : f_byteswap_sp [.bytes b, .int (w : Int)] = some (.bytes b.reverse) := by
  have := swap_sp (cs := [b]) (w := w) h0 (fun c hc => by rw [List.mem_singleton.mp hc, h]) (by rw [List.length_singleton, Nat.one_mul]; exact h1) h1
  simp only [List.flatten_cons, List.flatten_nil, List.append_nil, List.map_cons, List.map_nil] at this
  exact this
theorem sliceToB {b : List UInt8} {c : Nat} (hl : b.length ≤ 16777216) : pvSlice (.bytes b) none (some (c : Int)) none = some (.bytes (b.take c)) := by
  unfold pvSlice
  rw [← pick_to b c]
  exact if_pos ⟨rfl, hl⟩
theorem sliceFromB {b : List UInt8} {c : Nat} (hl : b.length ≤ 16777216) : pvSlice (.bytes b) (some (c : Int)) none none = some (.bytes (b.drop c)) := by
  unfold pvSlice
  rw [← pick_from b c]
  exact if_pos ⟨rfl, hl⟩
theorem sliceToL {b : List PV} {c : Nat} (hl : b.length ≤ 16777216) : pvSlice (.list b) none (some (c : Int)) none = some (.list (b.take c)) := by
  unfold pvSlice
  rw [← pick_to b c]
  exact if_pos ⟨by decide, hl⟩
theorem sliceFromL {b : List PV} {c : Nat} (hl : b.length ≤ 16777216) : pvSlice (.list b) (some (c : Int)) none none = some (.list (b.drop c)) := by
  unfold pvSlice
  rw [← pick_from b c]
  exact if_pos ⟨by decide, hl⟩
theorem sliceRevL {b : List PV} (hl : b.length ≤ 16777216) : pvSlice (.list b) none none (some (-1)) = some (.list b.reverse) := by
  unfold pvSlice
  rw [← pick_rev b]
  exact if_pos ⟨by decide, hl⟩
theorem addB {a b : List UInt8} (h : a.length + b.length ≤ 16777216) : pvBin .Add (.bytes a) (.bytes b) = some (.bytes (a ++ b)) := if_pos h
theorem addL {a b : List PV} (h : a.length + b.length ≤ 16777216) : pvBin .Add (.list a) (.list b) = some (.list (a ++ b)) := if_pos h
theorem small3 {n m : Nat} (h0 : 1 ≤ n) (h : n ≤ m) (hm : m ≤ 100) : 0 < n * 3 ∧ n * 3 ≤ 1000000 ∧ m * 3 ≤ 16777216 ∧ n * 3 + (m * 3 - n * 3) ≤ 16777216 ∧ m ≤ 16777216 ∧ n + (m - n) ≤ 16777216 := by omega
/-- the octets turned -/
theorem flip_ev {σ : St} {i n : Nat} {L : List Trip} (h1 : dVar i σ = some (.bytes (E1 L))) (h2 : dVar 12 σ = some (.int (n : Int))) (h0 : 1 ≤ n) (h : n ≤ L.length) (hl : L.length ≤ 100) :
    dBin .Add (dCall f_byteswap_sp (dCons (dSlice (dVar i) (oNone) (oSome (dBin .Mult (dConst (.int 3)) (dVar 12))) (oNone)) (dCons (dBin .Mult (dConst (.int 3)) (dVar 12)) (dNil)))) (dSlice (dVar i) (oSome (dBin .Mult (dConst (.int 3)) (dVar 12))) (oNone) (oNone)) σ = some (.bytes (E1 (flipL n L))) := by
  have s := small3 h0 h hl
  have hb := E1_len L
  have e3 : dBin .Mult (dConst (.int 3)) (dVar 12) σ = some (.int ((n * 3 : Nat) : Int)) := ev_bin rfl h2 (by rw [mulI (.inl (by decide)), (three n).1])
  have hlt : ((E1 L).take (n * 3)).length = n * 3 := by rw [List.length_take, hb]; exact Nat.min_eq_left (Nat.mul_le_mul_right 3 h)
  refine ev_bin (ev_call (ev_cons (ev_slice (r := none) h1 rfl (ev_osome e3) rfl (sliceToB (by rw [hb]; exact s.2.2.1))) (ev_cons e3 rfl)) (swap1 hlt s.1 s.2.1)) (ev_slice (r := none) h1 (ev_osome e3) rfl rfl (sliceFromB (by rw [hb]; exact s.2.2.1))) ?_
  rw [addB (by rw [List.length_reverse, hlt, List.length_drop, hb]; exact s.2.2.2.1), (E1_take h).1, (E1_take h).2, E1_rev]
  unfold flipL
  rw [E1_app]
theorem turns_tr {d : St → Option PV} {σf : St} {h : Trip → PV} : ∀ {L : List Trip}, (∀ x ∈ L, d (setAll σf [0, 1, 2] [.int x.1, .int x.2.1, .int x.2.2]) = some (h x)) → dTurns (bTuple [0, 1, 2]) (dEmit d) σf (L.map tr) = some (L.map h)
  | [], _ => rfl
  | x :: L, hh => by
    have e : dEmit d (setAll σf [0, 1, 2] [.int x.1, .int x.2.1, .int x.2.2]) = some [h x] := ev_emit (hh x List.mem_cons_self)
    show (dEmit d (setAll σf [0, 1, 2] [.int x.1, .int x.2.1, .int x.2.2])).bind _ = _
    rw [e]
    show (dTurns (bTuple [0, 1, 2]) (dEmit d) σf (L.map tr)).bind _ = _
    rw [turns_tr fun b hb => hh b (List.mem_cons_of_mem _ hb)]; rfl
/-- the row turned -/
theorem now_ev {σ : St} {n : Nat} {L : List Trip} (h1 : dVar 4 σ = some (.list (L.map tr))) (h2 : dVar 12 σ = some (.int (n : Int))) (h0 : 1 ≤ n) (h : n ≤ L.length) (hl : L.length ≤ 100) :
    dBin .Add (dComp (dSlice (dSlice (dVar 4) (oNone) (oSome (dVar 12)) (oNone)) (oNone) (oNone) (oSome (dNeg (dConst (.int 1))))) (bTuple [0, 1, 2]) (dEmit (dSeq .tuple (dCons (dNeg (dVar 0)) (dCons (dVar 1) (dCons (dVar 2) (dNil)))))) 3 []) (dSlice (dVar 4) (oSome (dVar 12)) (oNone) (oNone)) σ = some (.list ((flipL n L).map tr)) := by
  have s := small3 h0 h hl
  have ht : (L.map tr).take n = (L.take n).map tr := List.map_take.symm
  have hd : (L.map tr).drop n = (L.drop n).map tr := List.map_drop.symm
  have htl : (L.take n).length = n := by rw [List.length_take]; exact Nat.min_eq_left h
  refine ev_bin (ev_compT (v := .list ((L.take n).reverse.map tr)) (zs := (L.take n).reverse.map fun x => tr (negT x)) (ev_slice (ev_slice (r := none) h1 rfl (ev_osome h2) rfl (sliceToL (by rw [List.length_map]; exact Nat.le_trans hl (by decide)))) rfl rfl (ev_osome rfl) ?_) rfl rfl (turns_tr fun x hx => rfl) ?_) (ev_slice (r := none) h1 (ev_osome h2) rfl rfl (sliceFromL (by rw [List.length_map]; exact Nat.le_trans hl (by decide)))) ?_
  · rw [ht, List.map_reverse]
    exact sliceRevL (by rw [List.length_map, htl]; exact Nat.le_trans (Nat.le_trans h hl) (by decide))
  · rw [List.length_map, List.length_reverse, htl]; exact Nat.le_trans (Nat.le_trans h hl) (by decide)
  · rw [addL (by rw [List.length_map, List.length_reverse, htl, List.length_drop, List.length_map]; exact s.2.2.2.2.2), hd]
    unfold flipL
    rw [List.map_append, List.map_map]; rfl
end Mine

end
section
open PySem PySem.W PySem.Calls PyProof.Rows
set_option linter.unusedVariables false
set_option maxRecDepth 100000
namespace Mine

/-- which turns bring the farthest to its place -/
noncomputable def cnts (k p : Nat) (f : Int) : List Nat := if p + 1 < k ∨ f < 0 then (if 0 < p then [p + 1] else []) ++ ((if 0 < (if 0 < p then -f else f) then [1] else []) ++ [k]) else []
theorem mem_ite {P : Prop} [Decidable P] {a c : Nat} (h : c ∈ (if P then [a] else [])) : c = a := by
  by_cases q : P
  · rw [if_pos q] at h; exact List.mem_singleton.mp h
  · rw [if_neg q] at h; cases h
theorem cnts_bd {k p : Nat} {f : Int} (hp : p < k) : ∀ c ∈ cnts k p f, 1 ≤ c ∧ c ≤ k := by
  intro c hc
  unfold cnts at hc
  by_cases q : p + 1 < k ∨ f < 0
  · rw [if_pos q] at hc
    rcases List.mem_append.mp hc with h | h
    · rw [mem_ite h]; omega
    · rcases List.mem_append.mp h with h | h
      · rw [mem_ite h]; omega
      · rw [List.mem_singleton.mp h]; omega
  · rw [if_neg q] at hc; cases hc
theorem absT_nonpos {y : Trip} (h : y.1 < 0) : negT y = absT y := by unfold absT negT; rw [if_pos h]
/-- head and last turn -/
theorem last_turn {y : Trip} {M T : List Trip} {k : Nat} (hk : M.length + 1 = k) (hz : y.1 ≠ 0) : run ((if 0 < y.1 then [1] else []) ++ [k]) (y :: M ++ T) = M.reverse.map negT ++ (absT y :: T) := by
  have fin : ∀ z : Trip, z.1 < 0 → flipL k (z :: M ++ T) = M.reverse.map negT ++ (absT z :: T) := fun z hz => by
    rw [flip_app (by rw [List.length_cons]; exact hk), List.reverse_cons, List.map_append, List.append_assoc, List.map_cons, List.map_nil, absT_nonpos hz]; rfl
  by_cases h : 0 < y.1
  · rw [if_pos h]
    show flipL k (flipL 1 (y :: M ++ T)) = _
    have e : flipL 1 (y :: M ++ T) = negT y :: M ++ T := flip_app (A := [y]) (B := M ++ T) rfl
    rw [e, fin (negT y) (by show -y.1 < 0; omega), absT_neg]
  · rw [if_neg h]
    show flipL k (y :: M ++ T) = _
    exact fin y (by omega)
theorem turn_pure {A B T : List Trip} {x : Trip} {k p : Nat} (hA : A.length = p) (hk : p + 1 + B.length = k) (hz : x.1 ≠ 0) : ∃ Q, run (cnts k p x.1) (A ++ (x :: B) ++ T) = Q ++ (absT x :: T) ∧ Q.length + 1 = k := by
  unfold cnts
  by_cases c : p + 1 < k ∨ x.1 < 0
  · rw [if_pos c]
    by_cases h : 0 < p
    · rw [if_pos h, if_pos h, run_app]
      have e : run [p + 1] (A ++ (x :: B) ++ T) = negT x :: (A.reverse.map negT ++ B) ++ T := by
        show flipL (p + 1) (A ++ (x :: B) ++ T) = _
        rw [show A ++ (x :: B) ++ T = (A ++ [x]) ++ (B ++ T) by simp, flip_app (by rw [List.length_append, hA]; rfl)]
        simp
      have hl : (A.reverse.map negT ++ B).length + 1 = k := by rw [List.length_append, List.length_map, List.length_reverse, hA]; omega
      rw [e, show -x.1 = (negT x).1 from rfl, last_turn hl (by show -x.1 ≠ 0; omega), absT_neg]
      exact ⟨_, rfl, by rw [List.length_map, List.length_reverse]; exact hl⟩
    · rw [if_neg h, if_neg h, List.nil_append]
      have : A = [] := List.eq_nil_of_length_eq_zero (by omega)
      subst this
      have hl : B.length + 1 = k := by simp at hA; omega
      rw [List.nil_append, last_turn hl hz]
      exact ⟨_, rfl, by rw [List.length_map, List.length_reverse]; exact hl⟩
  · rw [if_neg c]
    have hB : B = [] := List.eq_nil_of_length_eq_zero (by omega)
    subst hB
    have hx : 0 < x.1 := by omega
    refine ⟨A, ?_, by rw [hA]; exact hk⟩
    show A ++ [x] ++ T = _
    rw [absT_pos hx, List.append_assoc]; rfl

noncomputable def sz (x : Trip) : Int := (absT x).1
/-- what holds between the rounds: the first k are still out of order -/
structure Inv (R : List Trip) (k : Nat) (L : List Trip) : Prop where
  g : ∀ x ∈ L, Good x
  pm : (L.map absT).Perm (R.map absT)
  kl : k ≤ L.length
  pos : ∀ x ∈ L.drop k, 0 < x.1
  asc : (L.drop k).Pairwise fun a b => a.1 < b.1
  low : ∀ a ∈ L.take k, ∀ b ∈ L.drop k, sz a < b.1
theorem sz_abs {x y : Trip} (h : absT x = absT y) : sz x = sz y := congrArg (·.1) h
theorem inv_step {R A B T : List Trip} {x : Trip} {k p : Nat} (I : Inv R k (A ++ (x :: B) ++ T)) (hA : A.length = p) (hk : p + 1 + B.length = k) (hmax : ∀ c ∈ A ++ B, sz c < sz x) :
    Inv R (k - 1) (run (cnts k p x.1) (A ++ (x :: B) ++ T)) := by
  have hPl : (A ++ x :: B).length = k := by rw [List.length_append, List.length_cons, hA]; omega
  have hdr : (A ++ (x :: B) ++ T).drop k = T := List.drop_left' hPl
  have htk : (A ++ (x :: B) ++ T).take k = A ++ (x :: B) := List.take_left' hPl
  have gx := I.g x (by simp)
  obtain ⟨Q, e, hQ⟩ := turn_pure (T := T) hA hk gx.z
  have gp := good_run (cnts k p x.1) I.g
  have pm := run_perm (cnts k p x.1) (A ++ (x :: B) ++ T)
  rw [e] at gp pm ⊢
  have hQl : Q.length = k - 1 := by omega
  have hd' : (Q ++ absT x :: T).drop (k - 1) = absT x :: T := List.drop_left' hQl
  have ht' : (Q ++ absT x :: T).take (k - 1) = Q := List.take_left' hQl
  have pos := I.pos
  have asc := I.asc
  have low := I.low
  rw [hdr] at pos asc low
  rw [htk] at low
  have ax : absT (absT x) = absT x := absT_pos (good_abs gx).2
  have pq : (Q.map absT).Perm ((A ++ B).map absT) := by
    have p1 : (Q.map absT ++ ([absT x] ++ T.map absT)).Perm ((A ++ B).map absT ++ ([absT x] ++ T.map absT)) := by
      refine List.Perm.trans (List.Perm.of_eq (by simp [ax])) (pm.trans ?_)
      rw [List.map_append, List.map_append, List.map_append, List.append_assoc, List.append_assoc]
      refine List.Perm.append_left _ ?_
      rw [List.map_cons, List.cons_append, ← List.append_assoc]
      exact List.perm_middle.symm.trans (List.Perm.of_eq (by simp))
    exact (List.perm_append_right_iff _).mp p1
  have qlow : ∀ a ∈ Q, ∃ c ∈ A ++ B, sz a = sz c := fun a ha => by
    obtain ⟨c, hc, h⟩ := List.mem_map.mp (pq.subset (List.mem_map_of_mem (f := absT) ha))
    exact ⟨c, hc, (sz_abs h).symm⟩
  refine ⟨gp, pm.trans I.pm, by rw [List.length_append, hQl]; exact Nat.le_add_right _ _, ?_, ?_, ?_⟩
  · rw [hd']
    intro y hy
    rcases List.mem_cons.mp hy with rfl | hy
    · exact (good_abs gx).2
    · exact pos y hy
  · rw [hd']
    exact List.pairwise_cons.mpr ⟨fun b hb => low x (by simp) b hb, asc⟩
  · rw [hd', ht']
    intro a ha b hb
    obtain ⟨c, hc, h⟩ := qlow a ha
    rw [h]
    rcases List.mem_cons.mp hb with rfl | hb
    · exact hmax c hc
    · exact low c (by rcases List.mem_append.mp hc with h | h <;> simp [h]) b hb

theorem maxInts_ok : ∀ (l : List Int) (a : Int), a ≤ l.foldl max a ∧ (∀ i ∈ l, i ≤ l.foldl max a) ∧ (l.foldl max a = a ∨ l.foldl max a ∈ l)
  | [], a => ⟨Int.le_refl _, (fun _ h => nomatch h), .inl rfl⟩
  | b :: l, a => by
    obtain ⟨h1, h2, h3⟩ := maxInts_ok l (max a b)
    show a ≤ l.foldl max (max a b) ∧ (∀ i ∈ b :: l, i ≤ l.foldl max (max a b)) ∧ (l.foldl max (max a b) = a ∨ l.foldl max (max a b) ∈ b :: l)
    refine ⟨Int.le_trans (Int.le_max_left a b) h1, fun i hi => ?_, ?_⟩
    · rcases List.mem_cons.mp hi with rfl | hi
      · exact Int.le_trans (Int.le_max_right a i) h1
      · exact h2 i hi
    · rcases h3 with h3 | h3
      · rw [h3]
        rcases Int.le_total a b with h | h
        · right; rw [Int.max_eq_right h]; exact List.mem_cons_self
        · left; exact Int.max_eq_left h
      · exact .inr (List.mem_cons_of_mem _ h3)
theorem maxInts_some {l : List Int} (h : l ≠ []) : ∃ m, maxInts l = some m ∧ m ∈ l ∧ ∀ i ∈ l, i ≤ m := by
  cases l with
  | nil => exact absurd rfl h
  | cons a l =>
    obtain ⟨h1, h2, h3⟩ := maxInts_ok l a
    refine ⟨_, rfl, ?_, fun i hi => ?_⟩
    · rcases h3 with h | h
      · rw [h]; exact List.mem_cons_self
      · exact List.mem_cons_of_mem _ h
    · rcases List.mem_cons.mp hi with rfl | hi
      · exact h1
      · exact h2 i hi
/-- the farthest of the first k, and the lists round it -/
theorem split_max {R L : List Trip} {k : Nat} (I : Inv R k L) (hk : 1 ≤ k) (hn : (R.map sz).Nodup) : ∃ m, maxInts ((L.take k).map sz) = some m ∧ m ∈ (L.take k).map sz ∧
    ∃ A x B T, L = A ++ (x :: B) ++ T ∧ A.length = ((L.take k).map sz).idxOf m ∧ A.length + 1 + B.length = k ∧ (∀ c ∈ A ++ B, sz c < sz x) := by
  have hkl : (L.take k).length = k := by rw [List.length_take]; exact Nat.min_eq_left I.kl
  obtain ⟨m, h1, h2, h3⟩ := maxInts_some (l := (L.take k).map sz) (by
    intro h
    have := congrArg List.length h
    rw [List.length_map, hkl] at this
    simp at this; omega)
  refine ⟨m, h1, h2, ?_⟩
  have hp := List.idxOf_lt_length_iff.mpr h2
  have hx := List.getElem_idxOf hp
  generalize ((L.take k).map sz).idxOf m = p at *
  rw [List.length_map, hkl] at hp
  have hp2 : p < (L.take k).length := by rw [hkl]; exact hp
  have hs : (L.take k).take p ++ ((L.take k)[p] :: (L.take k).drop (p + 1)) = L.take k := by
    conv => rhs; rw [← List.take_append_drop p (L.take k), List.drop_eq_getElem_cons hp2]
  have hxm : sz (L.take k)[p] = m := by rw [List.getElem_map] at hx; exact hx
  have nd : ((L.take k).map sz).Nodup := by
    have e : L.map sz = (L.map absT).map (·.1) := by rw [List.map_map]; rfl
    have e2 : R.map sz = (R.map absT).map (·.1) := by rw [List.map_map]; rfl
    have n1 : (L.map sz).Nodup := by
      rw [e]; rw [e2] at hn
      exact ((I.pm.map (·.1)).nodup_iff).mpr hn
    rw [← List.take_append_drop k L, List.map_append] at n1
    exact (List.nodup_append.mp n1).1
  refine ⟨(L.take k).take p, (L.take k)[p], (L.take k).drop (p + 1), L.drop k, by rw [hs, List.take_append_drop], by rw [List.length_take, hkl]; exact Nat.min_eq_left (Nat.le_of_lt hp), by rw [List.length_take, List.length_drop, hkl, Nat.min_eq_left (Nat.le_of_lt hp)]; omega, ?_⟩
  rw [← hs, List.map_append, List.map_cons] at nd
  have nd := List.nodup_append.mp nd
  intro c hc
  have hle : sz c ≤ m := h3 _ (List.mem_map_of_mem (by
    rw [← hs]
    rcases List.mem_append.mp hc with h | h
    · exact List.mem_append_left _ h
    · exact List.mem_append_right _ (List.mem_cons_of_mem _ h)))
  have hne : sz c ≠ m := by
    rw [← hxm]
    rcases List.mem_append.mp hc with h | h
    · exact nd.2.2 (sz c) (List.mem_map_of_mem h) _ List.mem_cons_self
    · intro q
      have := (List.nodup_cons.mp nd.2.1).1
      exact this (q ▸ List.mem_map_of_mem h)
  rw [hxm]; omega
end Mine

end
section
open PySem PySem.W PySem.Calls PyProof.Rows
set_option linter.unusedVariables false
set_option maxRecDepth 100000
namespace Mine

/-- goes on, and then this holds -/
noncomputable def Nx (Q : St → Prop) (o : Option (St × Out)) : Prop := ∃ s, o = some (s, .next) ∧ Q s
section
variable {Q : St → Prop} {σ σ' : St} {d : St → Option PV} {k a b : St → Option (St × Out)} {v : PV} {i : Nat} {t : St → Option Bool}
theorem nx {X X' : Option (St × Out)} (e : X = X') (h : Nx Q X') : Nx Q X := e ▸ h
theorem n_end (h : Q σ) : Nx Q (dEnd σ) := ⟨σ, rfl, h⟩
theorem n_for {fz : List Nat} {bd : PV → St → Option St} {db : St → Option (St × Out)} {xs : List PV} (h : d (frAll fz σ) = some v) (hi : pvIter v = some xs) (P : List PV → St → Prop)
    (h0 : P xs (frAll fz σ)) (hs : ∀ x rest σ, P (x :: rest) σ → ∃ σ1, bd x σ = some σ1 ∧ Nx (P rest) (db σ1)) (hk : ∀ σ', P [] σ' → Nx Q (k σ')) : Nx Q (dThen (dFor fz d bd db) k σ) := by
  obtain ⟨σ', h1, h2⟩ := forRun_rel P (fun x rest σ p => let ⟨σ1, e, σ2, f, q⟩ := hs x rest σ p; ⟨σ1, σ2, e, f, q⟩) xs _ h0
  exact nx (frame_of h hi h1 rfl) (hk σ' h2)
theorem r_forN {w : PV} {fz : List Nat} {bd : PV → St → Option St} {db : St → Option (St × Out)} {xs : List PV} (h : d (frAll fz σ) = some v) (hi : pvIter v = some xs) (P : List PV → St → Prop)
    (h0 : P xs (frAll fz σ)) (hs : ∀ x rest σ, P (x :: rest) σ → ∃ σ1, bd x σ = some σ1 ∧ Nx (P rest) (db σ1)) (hk : ∀ σ', P [] σ' → Ret w (k σ')) : Ret w (dThen (dFor fz d bd db) k σ) :=
  r_for h hi P h0 (fun x rest σ p => let ⟨σ1, e, σ2, f, q⟩ := hs x rest σ p; ⟨σ1, σ2, e, f, q⟩) hk
theorem st_index {xs : List PV} {ns : List Int} {j : Nat} {m : Int} {R : Option (St × Out)} (hs : σ[j]? = some (.ol xs)) (hn : pvInts xs = some ns) (h : d (viewB σ) = some (.int m)) (hm : m ∈ ns) (hl : ns.length ≤ 16777216) (hk : k (σ.set i (.fz (.int (ns.idxOf m : Nat)))) = R) : dThen (dIndex d i j) k σ = R := by
  have e : dIndex d i j σ = some (σ.set i (.fz (.int (ns.idxOf m : Nat))), .next) := by
    unfold dIndex; rw [hs]; show (pvInts xs).bind _ = _
    rw [hn]; show (d (viewB σ)).bind _ = _
    rw [h]; exact if_pos ⟨hm, hl⟩
  unfold dThen; rw [e]; exact hk
end
theorem pvInts_map : ∀ l : List Int, pvInts (l.map .int) = some l
  | [] => rfl
  | a :: l => by
    show (pvInts (l.map .int)).map _ = _
    rw [pvInts_map l]; rfl
noncomputable def nats (cs : List Nat) : List PV := cs.map fun (c : Nat) => .int (c : Int)
theorem nats_app (a b : List Nat) : nats a ++ nats b = nats (a ++ b) := by unfold nats; rw [List.map_append]
theorem nats_len (a : List Nat) : (nats a).length = a.length := by unfold nats; rw [List.length_map]

/-- the turns of one round -/
theorem tail_ev {s0 s1 s3 s6 s7 s8 s9 s10 s12 s13 s14 : Slot} {M : List Trip} {ts cs : List Nat} (hM : ∀ x ∈ M, Good x) (hl : M.length ≤ 100) (hc : ∀ c ∈ cs, 1 ≤ c ∧ c ≤ M.length) (hsz : ts.length + cs.length ≤ 1000) :
    Nx (fun σ => ∃ t12, σ = [s0, s1, .fz (.bytes (E1 (run cs M))), s3, .fz (.list ((run cs M).map tr)), .ol (nats (ts ++ cs)), s6, s7, s8, s9, s10, .fz (.list (nats cs)), t12, s13, s14])
      ((dThen (dFor [11] (dVar 11) (bName 12) (dThen (dAsg (dBin .Add (dCall f_byteswap_sp (dCons (dSlice (dVar 2) (oNone) (oSome (dBin .Mult (dConst (.int 3)) (dVar 12))) (oNone)) (dCons (dBin .Mult (dConst (.int 3)) (dVar 12)) (dNil)))) (dSlice (dVar 2) (oSome (dBin .Mult (dConst (.int 3)) (dVar 12))) (oNone) (oNone))) 2) (dThen (dAsg (dBin .Add (dComp (dSlice (dSlice (dVar 4) (oNone) (oSome (dVar 12)) (oNone)) (oNone) (oNone) (oSome (dNeg (dConst (.int 1))))) (bTuple [0, 1, 2]) (dEmit (dSeq .tuple (dCons (dNeg (dVar 0)) (dCons (dVar 1) (dCons (dVar 2) (dNil)))))) 3 []) (dSlice (dVar 4) (oSome (dVar 12)) (oNone) (oNone))) 4) (dThen (dTest (dNot (dVal (dCall L1.f_law_told_sp (dCons (dVar 2) (dCons (dVar 4) (dNil)))))) (dThen (dRet (dConst (.bool false))) (dEnd)) (dEnd)) (dEnd))))) (dThen (dExtend (dVar 11) 5) (dEnd))) [s0, s1, .fz (.bytes (E1 M)), s3, .fz (.list (M.map tr)), .ol (nats ts), s6, s7, s8, s9, s10, .ol (nats cs), s12, s13, s14]) := by
  refine n_for (v := .list (nats cs)) (xs := nats cs) rfl rfl
    (fun rest σ => ∃ a b t12, cs = a ++ b ∧ rest = nats b ∧ σ = [s0, s1, .fz (.bytes (E1 (run a M))), s3, .fz (.list ((run a M).map tr)), .ol (nats ts), s6, s7, s8, s9, s10, .fz (.list (nats cs)), t12, s13, s14])
    ⟨[], cs, s12, rfl, rfl, rfl⟩ ?_ ?_
  · rintro y rest σ ⟨a, b, t12, hab, hb, rfl⟩
    cases b with
    | nil => cases hb
    | cons c b =>
      injection hb with hy hrest
      subst hy
      have hcc := hc c (by rw [hab]; exact List.mem_append_right _ List.mem_cons_self)
      have hlr : (run a M).length = M.length := run_len a M
      have hle : c ≤ (run a M).length := by rw [hlr]; exact hcc.2
      have h100 : (run a M).length ≤ 100 := by rw [hlr]; exact hl
      have e : flipL c (run a M) = run (a ++ [c]) M := by rw [run_app]; rfl
      have tg := told_sp (L := run (a ++ [c]) M) (good_run _ hM) (by rw [run_len]; exact hl)
      refine ⟨_, rfl, ?_⟩
      refine nx (st_asg (flip_ev (n := c) rfl rfl hcc.1 hle h100) rfl) ?_
      refine nx (st_asg (now_ev (n := c) rfl rfl hcc.1 hle h100) rfl) ?_
      rw [e]
      refine nx (st_ifF (ev_not (c := true) (ev_val (ev_call rfl tg))) (st_end rfl)) ?_
      exact n_end ⟨a ++ [c], b, .fz (.int (c : Int)), by rw [hab, List.append_assoc]; rfl, hrest, rfl⟩
  · rintro σ' ⟨a, b, t12, hab, hb, rfl⟩
    have : b = [] := List.map_eq_nil_iff.mp hb.symm
    subst this
    rw [List.append_nil] at hab
    subst hab
    refine nx (st_ext (xs := nats ts) (ys := nats cs) rfl rfl (by rw [nats_len, nats_len]; exact Nat.le_trans hsz (by decide)) rfl) ?_
    rw [nats_app]
    exact n_end ⟨t12, rfl⟩
theorem lt_dec {a b : Int} {c : Bool} (h : decide (a < b) = c) : pvCmp .Lt (.int a) (.int b) = some c := by rw [← h]; rfl
theorem gt_dec {a b : Int} {c : Bool} (h : decide (a > b) = c) : pvCmp .Gt (.int a) (.int b) = some c := by rw [← h]; rfl
/-- the counts of one round, and its turns -/
theorem test_ev {s0 s1 s3 s7 s8 s12 s13 s14 : Slot} {M : List Trip} {ts : List Nat} {k p : Nat} {f : Int} (hM : ∀ x ∈ M, Good x) (hl : M.length ≤ 100) (hp : p < k) (hk : k ≤ M.length) (hsz : ts.length + (cnts k p f).length ≤ 1000) :
    Nx (fun σ => ∃ t10 t11 t12, σ = [s0, s1, .fz (.bytes (E1 (run (cnts k p f) M))), s3, .fz (.list ((run (cnts k p f) M).map tr)), .ol (nats (ts ++ cnts k p f)), .fz (.int (k : Int)), s7, s8, .fz (.int (p : Int)), t10, t11, t12, s13, s14])
      ((dThen (dTest (dOr [dCmp .Lt (dVar 9) (dBin .Sub (dVar 6) (dConst (.int 1))), dCmp .Lt (dVar 10) (dConst (.int 0))]) (dThen (dTest (dCmp .Gt (dVar 9) (dConst (.int 0))) (dThen (dAppend (dBin .Add (dVar 9) (dConst (.int 1))) 11) (dThen (dAsg (dNeg (dVar 10)) 10) (dEnd))) (dEnd)) (dThen (dTest (dCmp .Gt (dVar 10) (dConst (.int 0))) (dThen (dAppend (dConst (.int 1)) 11) (dEnd)) (dEnd)) (dThen (dAppend (dVar 6) 11) (dEnd)))) (dEnd)) (dThen (dFor [11] (dVar 11) (bName 12) (dThen (dAsg (dBin .Add (dCall f_byteswap_sp (dCons (dSlice (dVar 2) (oNone) (oSome (dBin .Mult (dConst (.int 3)) (dVar 12))) (oNone)) (dCons (dBin .Mult (dConst (.int 3)) (dVar 12)) (dNil)))) (dSlice (dVar 2) (oSome (dBin .Mult (dConst (.int 3)) (dVar 12))) (oNone) (oNone))) 2) (dThen (dAsg (dBin .Add (dComp (dSlice (dSlice (dVar 4) (oNone) (oSome (dVar 12)) (oNone)) (oNone) (oNone) (oSome (dNeg (dConst (.int 1))))) (bTuple [0, 1, 2]) (dEmit (dSeq .tuple (dCons (dNeg (dVar 0)) (dCons (dVar 1) (dCons (dVar 2) (dNil)))))) 3 []) (dSlice (dVar 4) (oSome (dVar 12)) (oNone) (oNone))) 4) (dThen (dTest (dNot (dVal (dCall L1.f_law_told_sp (dCons (dVar 2) (dCons (dVar 4) (dNil)))))) (dThen (dRet (dConst (.bool false))) (dEnd)) (dEnd)) (dEnd))))) (dThen (dExtend (dVar 11) 5) (dEnd)))) [s0, s1, .fz (.bytes (E1 M)), s3, .fz (.list (M.map tr)), .ol (nats ts), .fz (.int (k : Int)), s7, s8, .fz (.int (p : Int)), .fz (.int f), .ol [], s12, s13, s14]) := by
  have hb : ∀ c ∈ cnts k p f, 1 ≤ c ∧ c ≤ M.length := fun c hc => ⟨(cnts_bd hp c hc).1, Nat.le_trans (cnts_bd hp c hc).2 hk⟩
  have fin : ∀ (f' : Int) (σ : St), σ = [s0, s1, .fz (.bytes (E1 M)), s3, .fz (.list (M.map tr)), .ol (nats ts), .fz (.int (k : Int)), s7, s8, .fz (.int (p : Int)), .fz (.int f'), .ol (nats (cnts k p f)), s12, s13, s14] → Nx (fun σ => ∃ t10 t11 t12, σ = [s0, s1, .fz (.bytes (E1 (run (cnts k p f) M))), s3, .fz (.list ((run (cnts k p f) M).map tr)), .ol (nats (ts ++ cnts k p f)), .fz (.int (k : Int)), s7, s8, .fz (.int (p : Int)), t10, t11, t12, s13, s14]) ((dThen (dFor [11] (dVar 11) (bName 12) (dThen (dAsg (dBin .Add (dCall f_byteswap_sp (dCons (dSlice (dVar 2) (oNone) (oSome (dBin .Mult (dConst (.int 3)) (dVar 12))) (oNone)) (dCons (dBin .Mult (dConst (.int 3)) (dVar 12)) (dNil)))) (dSlice (dVar 2) (oSome (dBin .Mult (dConst (.int 3)) (dVar 12))) (oNone) (oNone))) 2) (dThen (dAsg (dBin .Add (dComp (dSlice (dSlice (dVar 4) (oNone) (oSome (dVar 12)) (oNone)) (oNone) (oNone) (oSome (dNeg (dConst (.int 1))))) (bTuple [0, 1, 2]) (dEmit (dSeq .tuple (dCons (dNeg (dVar 0)) (dCons (dVar 1) (dCons (dVar 2) (dNil)))))) 3 []) (dSlice (dVar 4) (oSome (dVar 12)) (oNone) (oNone))) 4) (dThen (dTest (dNot (dVal (dCall L1.f_law_told_sp (dCons (dVar 2) (dCons (dVar 4) (dNil)))))) (dThen (dRet (dConst (.bool false))) (dEnd)) (dEnd)) (dEnd))))) (dThen (dExtend (dVar 11) 5) (dEnd))) σ) := by
    intro f' σ e
    subst e
    obtain ⟨σ2, h1, t12, h2⟩ := tail_ev (s0 := s0) (s1 := s1) (s3 := s3) (s6 := .fz (.int (k : Int))) (s7 := s7) (s8 := s8) (s9 := .fz (.int (p : Int))) (s10 := .fz (.int f')) (s12 := s12) (s13 := s13) (s14 := s14) (ts := ts) hM hl hb hsz
    exact ⟨σ2, h1, _, _, _, h2⟩
  have c1 : decide ((p : Int) < (k : Int) - 1) = decide (p + 1 < k) := decide_eq_decide.mpr (by omega)
  have c2 : decide ((p : Int) > 0) = decide (0 < p) := decide_eq_decide.mpr (by omega)
  by_cases q : p + 1 < k ∨ f < 0
  · have ht : dOr [dCmp .Lt (dVar 9) (dBin .Sub (dVar 6) (dConst (.int 1))), dCmp .Lt (dVar 10) (dConst (.int 0))] (viewB [s0, s1, .fz (.bytes (E1 M)), s3, .fz (.list (M.map tr)), .ol (nats ts), .fz (.int (k : Int)), s7, s8, .fz (.int (p : Int)), .fz (.int f), .ol [], s12, s13, s14]) = some true := by
      by_cases q1 : p + 1 < k
      · exact ev_or1 (ev_cmp rfl rfl (lt_dec (c1.trans (decide_eq_true q1))))
      · exact ev_or0 (ev_cmp rfl rfl (lt_dec (c1.trans (decide_eq_false q1)))) (ev_or1 (ev_cmp rfl rfl (lt_dec (decide_eq_true (q.resolve_left q1)))))
    refine nx (st_ifT ht rfl) ?_
    have sec : ∀ (f' : Int) (cs : List Nat), nats (cnts k p f) = nats cs ++ (nats ((if 0 < f' then [1] else []) ++ [k])) → cs.length ≤ 1 →
        Nx (fun σ => ∃ t10 t11 t12, σ = [s0, s1, .fz (.bytes (E1 (run (cnts k p f) M))), s3, .fz (.list ((run (cnts k p f) M).map tr)), .ol (nats (ts ++ cnts k p f)), .fz (.int (k : Int)), s7, s8, .fz (.int (p : Int)), t10, t11, t12, s13, s14])
          (dThen (dThen (dTest (dCmp .Gt (dVar 10) (dConst (.int 0))) (dThen (dAppend (dConst (.int 1)) 11) (dEnd)) (dEnd)) (dThen (dAppend (dVar 6) 11) (dEnd))) (dThen (dFor [11] (dVar 11) (bName 12) (dThen (dAsg (dBin .Add (dCall f_byteswap_sp (dCons (dSlice (dVar 2) (oNone) (oSome (dBin .Mult (dConst (.int 3)) (dVar 12))) (oNone)) (dCons (dBin .Mult (dConst (.int 3)) (dVar 12)) (dNil)))) (dSlice (dVar 2) (oSome (dBin .Mult (dConst (.int 3)) (dVar 12))) (oNone) (oNone))) 2) (dThen (dAsg (dBin .Add (dComp (dSlice (dSlice (dVar 4) (oNone) (oSome (dVar 12)) (oNone)) (oNone) (oNone) (oSome (dNeg (dConst (.int 1))))) (bTuple [0, 1, 2]) (dEmit (dSeq .tuple (dCons (dNeg (dVar 0)) (dCons (dVar 1) (dCons (dVar 2) (dNil)))))) 3 []) (dSlice (dVar 4) (oSome (dVar 12)) (oNone) (oNone))) 4) (dThen (dTest (dNot (dVal (dCall L1.f_law_told_sp (dCons (dVar 2) (dCons (dVar 4) (dNil)))))) (dThen (dRet (dConst (.bool false))) (dEnd)) (dEnd)) (dEnd))))) (dThen (dExtend (dVar 11) 5) (dEnd))) [s0, s1, .fz (.bytes (E1 M)), s3, .fz (.list (M.map tr)), .ol (nats ts), .fz (.int (k : Int)), s7, s8, .fz (.int (p : Int)), .fz (.int f'), .ol (nats cs), s12, s13, s14]) := by
      intro f' cs he hcs
      refine nx dThen_assoc ?_
      by_cases q3 : 0 < f'
      · rw [if_pos q3] at he
        refine nx (st_ifT (ev_cmp rfl rfl (gt_dec (decide_eq_true q3))) rfl) (nx dThen_assoc ?_)
        refine nx (st_app (xs := nats cs) rfl rfl (by rw [nats_len]; exact Nat.lt_of_le_of_lt hcs (by decide)) rfl) ?_
        refine nx (st_end rfl) (nx dThen_assoc ?_)
        refine nx (st_app (xs := nats cs ++ [.int 1]) rfl rfl (by rw [List.length_append, nats_len]; exact Nat.lt_of_le_of_lt (Nat.add_le_add_right hcs 1) (by decide)) rfl) (nx (st_end rfl) ?_)
        exact fin f' _ (by rw [he, List.append_assoc]; rfl)
      · rw [if_neg q3] at he
        refine nx (st_ifF (ev_cmp rfl rfl (gt_dec (decide_eq_false q3))) rfl) (nx (st_end rfl) (nx dThen_assoc ?_))
        refine nx (st_app (xs := nats cs) rfl rfl (by rw [nats_len]; exact Nat.lt_of_le_of_lt hcs (by decide)) rfl) (nx (st_end rfl) ?_)
        exact fin f' _ (by rw [he]; rfl)
    refine nx dThen_assoc ?_
    by_cases q2 : 0 < p
    · refine nx (st_ifT (ev_cmp rfl rfl (gt_dec (c2.trans (decide_eq_true q2)))) rfl) (nx dThen_assoc ?_)
      refine nx (st_app (xs := []) (v := .int ((p + 1 : Nat) : Int)) rfl rfl (by decide) rfl) (nx dThen_assoc ?_)
      refine nx (st_asg (v := .int (-f)) rfl rfl) (nx (st_end rfl) ?_)
      exact sec (-f) [p + 1] (by rw [nats_app]; unfold cnts; rw [if_pos q, if_pos q2, if_pos q2]) (Nat.le_refl _)
    · refine nx (st_ifF (ev_cmp rfl rfl (gt_dec (c2.trans (decide_eq_false q2)))) rfl) (nx (st_end rfl) ?_)
      exact sec f [] (by rw [nats_app]; unfold cnts; rw [if_pos q, if_neg q2, if_neg q2]) (Nat.zero_le _)
  · have ht : dOr [dCmp .Lt (dVar 9) (dBin .Sub (dVar 6) (dConst (.int 1))), dCmp .Lt (dVar 10) (dConst (.int 0))] (viewB [s0, s1, .fz (.bytes (E1 M)), s3, .fz (.list (M.map tr)), .ol (nats ts), .fz (.int (k : Int)), s7, s8, .fz (.int (p : Int)), .fz (.int f), .ol [], s12, s13, s14]) = some false :=
      ev_or0 (ev_cmp rfl rfl (lt_dec (c1.trans (decide_eq_false fun h => q (.inl h))))) (ev_or0 (ev_cmp rfl rfl (lt_dec (decide_eq_false fun h => q (.inr h)))) rfl)
    refine nx (st_ifF ht rfl) (nx (st_end rfl) ?_)
    exact fin f _ (by unfold cnts; rw [if_neg q]; rfl)
end Mine

end
section
open PySem PySem.W PySem.Calls PyProof.Rows
set_option linter.unusedVariables false
set_option maxRecDepth 100000
namespace Mine

theorem turns_map {α : Type} {d : St → Option PV} {σf : St} {q h : α → PV} : ∀ {l : List α}, (∀ a ∈ l, d (σf.set 0 (.fz (q a))) = some (h a)) → dTurns (bName 0) (dEmit d) σf (l.map q) = some (l.map h)
  | [], _ => rfl
  | a :: l, hh => by
    have e : dEmit d (σf.set 0 (.fz (q a))) = some [h a] := ev_emit (hh a List.mem_cons_self)
    show (dEmit d (σf.set 0 (.fz (q a)))).bind _ = _
    rw [e]
    show (dTurns (bName 0) (dEmit d) σf (l.map q)).bind _ = _
    rw [turns_map fun b hb => hh b (List.mem_cons_of_mem _ hb)]; rfl
theorem pvInts_bytes : ∀ b : List UInt8, pvInts (byteInts b) = some (b.map fun c => (c.toNat : Int))
  | [] => rfl
  | c :: b => by
    show (pvInts (byteInts b)).map _ = _
    rw [pvInts_bytes b]; rfl
theorem spBytes_ints (b : List UInt8) (h : b.length ≤ 16777216) : spBytes2 [.list (byteInts b)] = some (.bytes b) := by
  show (pvInts (byteInts b)).bind _ = _
  rw [pvInts_bytes]
  have hall : (b.map fun c => (c.toNat : Int)).all byteOk = true := by
    refine List.all_eq_true.mpr fun i hi => ?_
    obtain ⟨c, _, rfl⟩ := List.mem_map.mp hi
    have := c.toNat_lt
    unfold byteOk
    exact decide_eq_true (by omega)
  refine Eq.trans (if_pos ⟨hall, by rw [List.length_map]; exact h⟩) ?_
  · congr 2
    rw [List.map_map]
    have : ∀ c ∈ b, ((fun (i : Int) => i.toNat.toUInt8) ∘ fun (c : UInt8) => (c.toNat : Int)) c = id c := by
      intro c _
      simp only [Function.comp, id]
      rw [show (c.toNat : Int).toNat = c.toNat by omega]
      exact UInt8.ofNat_toNat
    rw [List.map_congr_left this, List.map_id]


theorem turns_trF {f : St → Option (List PV)} {σf : St} {h : Trip → List PV} : ∀ {L : List Trip}, (∀ x ∈ L, f (setAll σf [0, 1, 2] [.int x.1, .int x.2.1, .int x.2.2]) = some (h x)) → dTurns (bTuple [0, 1, 2]) f σf (L.map tr) = some (L.flatMap h)
  | [], _ => rfl
  | x :: L, hh => by
    show (f (setAll σf [0, 1, 2] [.int x.1, .int x.2.1, .int x.2.2])).bind _ = _
    rw [hh x List.mem_cons_self]
    show (dTurns (bTuple [0, 1, 2]) f σf (L.map tr)).bind _ = _
    rw [turns_trF fun b hb => hh b (List.mem_cons_of_mem _ hb)]; rfl
theorem flat_bytes : ∀ L : List Trip, (L.flatMap fun x => byteInts (oc x)) = byteInts (E1 L)
  | [] => rfl
  | x :: L => by
    rw [List.flatMap_cons, flat_bytes L, ← byteInts_app]
    unfold E1; rw [List.flatMap_cons]
theorem pvEq_bi (n : Nat) (b : List UInt8) : pvEq (n + 1) (.list (byteInts b)) (.list (byteInts b)) = some true :=
  pvEq_list n fun x hx => by obtain ⟨c, _, rfl⟩ := List.mem_map.mp hx; exact pvEq_int n _
theorem pvEq_bib (b : List UInt8) : pvEq 6 (.tuple [.list (byteInts b), .list (byteInts b)]) (.tuple [.list (byteInts b), .list (byteInts b)]) = some true :=
  pvEq_tuple 5 (mem2 (pvEq_bi 4 b) (pvEq_bi 4 b))
noncomputable def down : Nat → List PV
  | 0 => []
  | k + 1 => .int ((k + 1 : Nat) : Int) :: down k
theorem down_it {n : Nat} (h : n = 3 ∨ n = 4 ∨ n = 5 ∨ n = 6) : pvIter (.range (n : Int) 0 (-1)) = some (down n) := by
  rcases h with rfl | rfl | rfl | rfl <;> rfl
theorem sorted_row {R L : List Trip} (I : Inv R 0 L) : (R.map absT).mergeSort leTrip = L := by
  have pos : ∀ x ∈ L, 0 < x.1 := I.pos
  have asc : L.Pairwise fun a b => a.1 < b.1 := I.asc
  have e : L.map absT = L := by
    rw [List.map_congr_left (g := id) (f := absT) (l := L) fun x hx => absT_pos (pos x hx), List.map_id]
  have pm := I.pm
  rw [e] at pm
  refine List.Perm.eq_of_pairwise (le := fun a b => leTrip a b = true) (fun a b _ _ => leT_asym a b) (List.pairwise_mergeSort leT_trans leT_tot _) (asc.imp fun {a b} h => ?_) ((List.mergeSort_perm _ _).trans pm.symm)
  unfold leTrip
  rw [decide_eq_true h, Bool.true_or]
theorem mapM_tr : ∀ L : List Trip, (L.map tr).mapM pvTrip = some L
  | [] => rfl
  | x :: L => by
    rw [List.map_cons, List.mapM_cons, mapM_tr L]; rfl
theorem sorted_ev {R L : List Trip} (I : Inv R 0 L) (hnd : (R.map sz).Nodup) (h : 3 ≤ R.length ∧ R.length ≤ 6) : spSorted [.list (R.map fun x => tr (absT x))] = some (.list (L.map tr)) := by
  have e : (R.map fun x => tr (absT x)) = (R.map absT).map tr := by rw [List.map_map]; rfl
  rw [e]
  show (((R.map absT).map tr).mapM pvTrip).bind _ = _
  rw [mapM_tr]
  refine Eq.trans (if_pos ⟨by rw [List.length_map]; exact h, by rw [List.map_map]; exact hnd⟩) ?_
  rw [sorted_row I]; rfl
theorem abs_ev {i : Int} : spAbs [.int i] = some (.int (if i < 0 then -i else i)) := rfl
theorem ite_len {P : Prop} [Decidable P] {a : Nat} : (if P then [a] else []).length ≤ 1 := by
  by_cases q : P
  · rw [if_pos q]; exact Nat.le_refl 1
  · rw [if_neg q]; exact Nat.zero_le 1
theorem cnts_len (k p : Nat) (f : Int) : (cnts k p f).length ≤ 3 := by
  unfold cnts
  by_cases q : p + 1 < k ∨ f < 0
  · rw [if_pos q, List.length_append, List.length_append]
    exact Nat.add_le_add (b := 1) (d := 2) ite_len (Nat.add_le_add (b := 1) (d := 1) ite_len (Nat.le_refl 1))
  · rw [if_neg q]; exact Nat.zero_le 3
theorem inv0 {R : List Trip} (h : ∀ x ∈ R, Good x) : Inv R R.length R :=
  have e : R.drop R.length = [] := List.drop_length
  ⟨h, List.Perm.refl _, Nat.le_refl _, by rw [e]; exact (fun _ h => nomatch h), by rw [e]; exact List.Pairwise.nil, by rw [e]; exact (fun _ _ _ h => nomatch h)⟩
theorem law_row {xs : List PV} {R : List Trip} (hrow : L1.f_law_row_sp [.list xs] = some (.list (R.map tr))) (hR : ∀ x ∈ R, Good x) (hn : R.length = 3 ∨ R.length = 4 ∨ R.length = 5 ∨ R.length = 6) (hnd : (R.map sz).Nodup) : L1.law_sp [.list xs] = some (.bool true) := by
  have l6 : R.length ≤ 6 := by rcases hn with h | h | h | h <;> rw [h] <;> decide
  have l3 : 3 ≤ R.length := by rcases hn with h | h | h | h <;> rw [h] <;> decide
  have l100 : R.length ≤ 100 := Nat.le_trans l6 (by decide)
  have lb : ∀ L : List Trip, L.length = R.length → (E1 L).length ≤ 16777216 := fun L h => by
    rw [E1_len, h]; exact Nat.le_trans (Nat.mul_le_mul_right 3 l6) (by decide)
  refine r_fn rfl ?_
  show Ret _ (L1.law_d [.fz (.list xs), .un, .un, .un, .un, .un, .un, .un, .un, .un, .un, .un, .un, .un, .un])
  unfold L1.law_d
  refine r_asg (ev_call rfl hrow) ?_; dsimp only [List.set]
  refine r_asg (v := .bytes (E1 R)) (ev_call (ev_cons (ev_compT (xs := R.map tr) (zs := byteInts (E1 R)) rfl rfl rfl (by
    rw [← flat_bytes]
    refine turns_trF fun x hx => ?_
    have e : dCall L1.f_law_octets_sp (dCons (dVar 0) (dCons (dVar 1) (dCons (dVar 2) dNil))) (setAll (inner 3 [] [.fz (.list xs), .fz (.list (R.map tr)), .un, .un, .un, .un, .un, .un, .un, .un, .un, .un, .un, .un, .un]) [0, 1, 2] [.int x.1, .int x.2.1, .int x.2.2]) = some (.list ((ox x).map .int)) := ev_call rfl (octets_sp x)
    show (dCall L1.f_law_octets_sp _ _).bind _ = _
    rw [e, oc_ints (hR x hx)]; rfl) (by rw [byteInts_len']; exact lb R rfl)) rfl) (spBytes_ints _ (lb R rfl))) ?_
  dsimp only [List.set]
  refine r_asg rfl ?_; dsimp only [List.set]
  refine r_ifF (ev_or0 (ev_not (c := true) (ev_val (ev_call rfl (told_sp hR l100)))) (ev_or0 (ev_cmp (ev_call rfl (painted_sp hR l100)) (ev_seq (ev_cons (ev_call rfl (spList_of (lb R rfl))) (ev_cons (ev_call rfl (spList_of (lb R rfl))) rfl)) (show 2 ≤ 16777216 by decide)) (neq_of (c := true) (pvEq_bib _) fun _ _ h _ => by cases h)) rfl)) (r_end ?_)
  refine r_asg rfl ?_; dsimp only [List.set]
  refine r_new ?_; dsimp only [List.set]
  have e1 : spLen [.list (R.map tr)] = some (.int (R.length : Int)) := len_of (List.length_map ..) (Nat.le_trans l6 (by decide))
  refine r_forN (v := .range (R.length : Int) 0 (-1)) (xs := down R.length) (ev_call (ev_cons (ev_call rfl e1) (ev_cons rfl (ev_cons rfl rfl))) rfl) (down_it hn)
    (fun rest σ => ∃ (k : Nat) (ts : List Nat) (s6 s7 s8 s9 s10 s11 s12 : Slot), rest = down k ∧ Inv R k (run ts R) ∧ (∀ c ∈ ts, 1 ≤ c ∧ c ≤ R.length) ∧ ts.length + 3 * k ≤ 18 ∧
      σ = [.fz (.list xs), .fz (.list (R.map tr)), .fz (.bytes (E1 (run ts R))), .fz (.bytes (E1 R)), .fz (.list ((run ts R).map tr)), .ol (nats ts), s6, s7, s8, s9, s10, s11, s12, .un, .un])
    ⟨R.length, [], .un, .un, .un, .un, .un, .un, .un, rfl, inv0 hR, (fun _ h => nomatch h), by show 0 + 3 * R.length ≤ 18; omega, rfl⟩ ?_ ?_
  · rintro y rest σ ⟨k', ts, s6, s7, s8, s9, s10, s11, s12, hrest, I, hts, hlen, rfl⟩
    cases k' with
    | zero => cases hrest
    | succ k' =>
      injection hrest with hy hrest
      subst hy
      have hrl := run_len ts R
      have hM : ∀ x ∈ run ts R, Good x := I.g
      have h100 : (run ts R).length ≤ 100 := by rw [hrl]; exact l100
      obtain ⟨m, hm1, hm2, A, x, B, T, eL, hA, hB, hmax⟩ := split_max I (Nat.le_add_left 1 k') hnd
      have hkl : (run ts R).length = R.length := hrl
      have hts' : (run ts R).take (k' + 1) = A ++ x :: B := by rw [eL]; exact List.take_left' (by rw [List.length_append, List.length_cons]; omega)
      have hz8 : pvInts (((run ts R).take (k' + 1)).map fun x => .int (sz x)) = some (((run ts R).take (k' + 1)).map sz) := by
        have := pvInts_map (((run ts R).take (k' + 1)).map sz)
        rw [List.map_map] at this; exact this
      have hl6 : ((run ts R).take (k' + 1)).length ≤ 6 := by rw [List.length_take]; exact Nat.le_trans (Nat.min_le_right _ _) (by rw [hrl]; exact l6)
      have hmx : spMax [.list (((run ts R).take (k' + 1)).map fun x => .int (sz x))] = some (.int m) := by
        show (pvInts _).bind _ = _
        rw [hz8]; show (maxInts _).map _ = _
        rw [hm1]; rfl
      have seen := seen_sp hM h100
      have hx10 : (((run ts R).take (k' + 1)).map fun x => PV.int x.1)[A.length]? = some (.int x.1) := by
        rw [hts', List.map_append, List.getElem?_append_right (by rw [List.length_map]; exact Nat.le_refl _), List.length_map, Nat.sub_self]; rfl
      have tk : ((run ts R).map fun x => PV.int x.1).take (k' + 1) = ((run ts R).take (k' + 1)).map fun x => .int x.1 := List.map_take.symm
      generalize hp : (((run ts R).take (k' + 1)).map sz).idxOf m = p at *
      refine ⟨_, rfl, ?_⟩
      refine nx (st_asg (v := .list (((run ts R).take (k' + 1)).map fun x => .int x.1)) (ev_slice (q := some ((k' + 1 : Nat) : Int)) (ev_call rfl seen) rfl rfl rfl (by rw [← tk]; exact sliceToL (by rw [List.length_map, hrl]; exact Nat.le_trans l6 (by decide)))) rfl) ?_
      dsimp only [List.set]
      refine nx (st_asgC (zs := ((run ts R).take (k' + 1)).map fun x => .int (sz x)) (ev_compT (xs := ((run ts R).take (k' + 1)).map fun x => .int x.1) rfl rfl rfl (turns_map fun a ha => ev_call rfl abs_ev) (by rw [List.length_map]; exact Nat.le_trans hl6 (by decide))) rfl) ?_
      rw [if_pos rfl]
      dsimp only [List.set]
      refine nx (st_index rfl hz8 (ev_call rfl hmx) hm2 (by rw [List.length_map]; exact Nat.le_trans hl6 (by decide)) rfl) ?_
      rw [hp]
      dsimp only [List.set]
      refine nx (st_asg (v := .int x.1) (ev_item rfl rfl (itemL' (i := p) (by rw [← hA]; exact hx10) (by rw [← hA]; omega))) rfl) ?_
      dsimp only [List.set]
      refine nx (st_new rfl) ?_
      dsimp only [List.set]
      have I' := inv_step (x := x) (A := A) (B := B) (T := T) (k := k' + 1) (p := p) (by rw [← eL]; exact I) hA (by rw [← hA]; exact hB) hmax
      rw [← eL, ← run_app] at I'
      have hbd := cnts_bd (k := k' + 1) (p := p) (f := x.1) (by omega)
      have hc3 := cnts_len (k' + 1) p x.1
      have hk2 : k' + 1 ≤ (run ts R).length := I.kl
      obtain ⟨σ2, h1, t10, t11, t12, h2⟩ := test_ev (s0 := .fz (.list xs)) (s1 := .fz (.list (R.map tr))) (s3 := .fz (.bytes (E1 R))) (s7 := .fz (.list (((run ts R).take (k' + 1)).map fun x => .int x.1))) (s8 := .ol (((run ts R).take (k' + 1)).map fun x => .int (sz x))) (s12 := s12) (s13 := .un) (s14 := .un) (ts := ts) (k := k' + 1) (p := p) (f := x.1) hM h100 (by omega) hk2 (by omega)
      rw [← run_app] at h2
      refine ⟨σ2, h1, k', ts ++ cnts (k' + 1) p x.1, _, _, _, _, _, _, _, hrest, I', fun c hc => ?_, by rw [List.length_append]; omega, h2⟩
      rcases List.mem_append.mp hc with h | h
      · exact hts c h
      · exact ⟨(hbd c h).1, Nat.le_trans (hbd c h).2 (by rw [← hrl]; exact hk2)⟩
  · rintro σ' ⟨k', ts, s6, s7, s8, s9, s10, s11, s12, hrest, I, hts, hlen, rfl⟩
    have : k' = 0 := by cases k' with | zero => rfl | succ k' => cases hrest
    subst this
    have hrl := run_len ts R
    have hM : ∀ x ∈ run ts R, Good x := I.g
    have h100 : (run ts R).length ≤ 100 := by rw [hrl]; exact l100
    have hback := run_back ts R fun c hc => (hts c hc).2
    have hsrt := sorted_ev I hnd ⟨l3, l6⟩
    have hpaint := painted_sp hM h100
    have hlb := lb (run ts R) hrl
    refine r_asg (v := .tuple [.list (byteInts (E1 (run ts R))), .list (byteInts (E1 (run ts R)))]) (ev_call (ev_cons (ev_call (ev_cons (ev_compT (xs := R.map tr) (zs := R.map fun x => tr (absT x)) rfl rfl rfl (turns_tr fun x hx => ev_seq (ev_cons (ev_call rfl abs_ev) rfl) (show 3 ≤ 16777216 by decide)) (by rw [List.length_map]; exact Nat.le_trans l6 (by decide))) rfl) hsrt) rfl) hpaint) ?_
    dsimp only [List.set]
    refine r_ifF (ev_cmp rfl (ev_seq (ev_cons (ev_call rfl (spList_of hlb)) (ev_cons (ev_call rfl (spList_of hlb)) rfl)) (show 2 ≤ 16777216 by decide)) (neq_of (c := true) (pvEq_bib _) fun _ _ h _ => by cases h)) (r_end ?_)
    refine r_asg (ev_call (ev_cons (ev_item rfl rfl rfl) rfl) (spBytes_ints _ hlb)) ?_
    dsimp only [List.set]
    refine r_forN (v := .list (nats ts.reverse)) (xs := nats ts.reverse) (ev_slice (x := .list (nats ts)) (r := some (-1)) rfl rfl rfl rfl ?_) rfl
      (fun rest σ => ∃ a b t12, ts.reverse = a ++ b ∧ rest = nats b ∧ σ = [.fz (.list xs), .fz (.list (R.map tr)), .fz (.bytes (E1 (run ts R))), .fz (.bytes (E1 R)), .fz (.list ((run ts R).map tr)), .fz (.list (nats ts)), s6, s7, s8, s9, s10, s11, t12, .fz (.tuple [.list (byteInts (E1 (run ts R))), .list (byteInts (E1 (run ts R)))]), .fz (.bytes (E1 (run a (run ts R))))])
      ⟨[], ts.reverse, s12, rfl, rfl, rfl⟩ ?_ ?_
    · have : nats ts.reverse = (nats ts).reverse := by unfold nats; rw [List.map_reverse]
      rw [this]
      exact sliceRevL (by rw [nats_len]; omega)
    · rintro y rest σ ⟨a, b, t12, hab, hb, rfl⟩
      cases b with
      | nil => cases hb
      | cons c b =>
        injection hb with hy hrest
        subst hy
        have hcc := hts c (by rw [← List.mem_reverse, hab]; exact List.mem_append_right _ List.mem_cons_self)
        have hlr : (run a (run ts R)).length = R.length := by rw [run_len, hrl]
        have e : flipL c (run a (run ts R)) = run (a ++ [c]) (run ts R) := by rw [run_app]; rfl
        refine ⟨_, rfl, ?_⟩
        refine nx (st_asg (flip_ev (i := 14) (n := c) rfl rfl hcc.1 (by rw [hlr]; exact hcc.2) (by rw [hlr]; exact l100)) rfl) ?_
        rw [e]
        exact n_end ⟨a ++ [c], b, .fz (.int (c : Int)), by rw [hab, List.append_assoc]; rfl, hrest, rfl⟩
    · rintro σ' ⟨a, b, t12, hab, hb, rfl⟩
      have : b = [] := List.map_eq_nil_iff.mp hb.symm
      subst this
      rw [List.append_nil] at hab
      subst hab
      rw [hback]
      exact r_ret (ev_cmpV rfl rfl (eq_of (pvEq_bytes 6 _) fun _ _ h _ => by cases h))
end Mine

end
section
open PySem PySem.W PySem.Calls PyProof.Rows
set_option linter.unusedVariables false
set_option maxRecDepth 100000
namespace Mine

noncomputable def nxt (s : Int) : Int := 1 + s % 47
noncomputable def itn : Nat → Int → Int
  | 0, s => s
  | j + 1, s => itn j (nxt s)
theorem nxt_bd (s : Int) : 1 ≤ nxt s ∧ nxt s ≤ 47 := by unfold nxt; omega
theorem it_tbl : ∀ t : Fin 48, 1 ≤ t.val → [itn 0 (t.val : Int), itn 1 (t.val : Int), itn 2 (t.val : Int), itn 3 (t.val : Int), itn 4 (t.val : Int), itn 5 (t.val : Int)].Nodup := by decide +kernel
theorem it_nd {s : Int} (h0 : 1 ≤ s) (h1 : s ≤ 47) : [itn 0 s, itn 1 s, itn 2 s, itn 3 s, itn 4 s, itn 5 s].Nodup := by
  have e : ((s.toNat : Nat) : Int) = s := Int.toNat_of_nonneg (Int.le_trans (by decide) h0)
  have := it_tbl ⟨s.toNat, by omega⟩ (by show 1 ≤ s.toNat; omega)
  simp only [e] at this
  exact this
theorem free_one {S : List Int} {s : Int} (hS : S.length ≤ 5) (h0 : 1 ≤ s) (h1 : s ≤ 47) : ∃ j, j ≤ 5 ∧ itn j s ∉ S := by
  by_cases h : itn 0 s ∈ S ∧ itn 1 s ∈ S ∧ itn 2 s ∈ S ∧ itn 3 s ∈ S ∧ itn 4 s ∈ S ∧ itn 5 s ∈ S
  · exfalso
    have sub : [itn 0 s, itn 1 s, itn 2 s, itn 3 s, itn 4 s, itn 5 s] ⊆ S := by
      intro x hx
      simp only [List.mem_cons, List.not_mem_nil, or_false] at hx
      rcases hx with rfl | rfl | rfl | rfl | rfl | rfl
      · exact h.1
      · exact h.2.1
      · exact h.2.2.1
      · exact h.2.2.2.1
      · exact h.2.2.2.2.1
      · exact h.2.2.2.2.2
    have : 6 ≤ S.length := List.Nodup.length_le_of_subset (it_nd h0 h1) sub
    exact absurd (Nat.le_trans this hS) (by decide)
  · by_cases c0 : itn 0 s ∈ S
    · by_cases c1 : itn 1 s ∈ S
      · by_cases c2 : itn 2 s ∈ S
        · by_cases c3 : itn 3 s ∈ S
          · by_cases c4 : itn 4 s ∈ S
            · exact ⟨5, by decide, fun c5 => h ⟨c0, c1, c2, c3, c4, c5⟩⟩
            · exact ⟨4, by decide, c4⟩
          · exact ⟨3, by decide, c3⟩
        · exact ⟨2, by decide, c2⟩
      · exact ⟨1, by decide, c1⟩
    · exact ⟨0, by decide, c0⟩

theorem while_step {t : St → Option Bool} {db : St → Option (St × Out)} {k : Nat} {σ σ1 : St} (ht : t (viewB σ) = some true) (hb : db σ = some (σ1, .next)) : whileRun t db (k + 1) σ = whileRun t db k σ1 := by
  show (t (viewB σ)).bind _ = _
  rw [ht]
  show (if true = true then (match db σ with | some (σ1, .next) => whileRun t db k σ1 | some (σ1, .ret v) => some (σ1, .ret v) | none => none) else some (σ, .next)) = _
  rw [if_pos rfl, hb]
theorem while_stop {t : St → Option Bool} {db : St → Option (St × Out)} {k : Nat} {σ : St} (ht : t (viewB σ) = some false) : whileRun t db (k + 1) σ = some (σ, .next) := by
  show (t (viewB σ)).bind _ = _
  rw [ht]; rfl
theorem while_ok {s0 s2 s3 s5 : Slot} {R : List Trip} (hR : R.length ≤ 100) : ∀ (j fuel : Nat) (s : Int), itn j s ∉ R.map sz → j < fuel → 1 ≤ s → s ≤ 47 → ∃ s', s' ∉ R.map sz ∧ 1 ≤ s' ∧ s' ≤ 47 ∧
    whileRun (dCmp .In (dVar 4) (dComp (dVar 1) (bTuple [0, 1, 2]) (dEmit (dCall spAbs (dCons (dVar 0) (dNil)))) 3 [])) (dThen (dAsg (dBin .Add (dConst (.int 1)) (dBin .Mod (dVar 4) (dConst (.int 47)))) 4) (dEnd)) fuel
      [s0, .ol (R.map tr), s2, s3, .fz (.int s), s5] = some ([s0, .ol (R.map tr), s2, s3, .fz (.int s'), s5], .next)
  | j, 0, s, _, h, _, _ => absurd h (Nat.not_lt_zero _)
  | j, fuel + 1, s, hj, hf, h0, h1 => by
    have e : pvInts (R.map fun x => .int (sz x)) = some (R.map sz) := by
      have := pvInts_map (R.map sz)
      rw [List.map_map] at this; exact this
    have ht : dCmp .In (dVar 4) (dComp (dVar 1) (bTuple [0, 1, 2]) (dEmit (dCall spAbs (dCons (dVar 0) (dNil)))) 3 []) (viewB [s0, .ol (R.map tr), s2, s3, .fz (.int s), s5]) = some ((R.map sz).contains s) := by
      refine ev_cmp rfl (ev_compT (v := .list (R.map tr)) (xs := R.map tr) (zs := R.map fun x => .int (sz x)) rfl rfl rfl (turns_tr fun x hx => ev_call rfl abs_ev) (by rw [List.length_map]; exact Nat.le_trans hR (by decide))) ?_
      show (pvInts _).map _ = _
      rw [e]; rfl
    by_cases q : s ∈ R.map sz
    · cases j with
      | zero => exact absurd q hj
      | succ j =>
        obtain ⟨s', a, b, c, d⟩ := while_ok hR j fuel (nxt s) hj (Nat.lt_of_succ_lt_succ hf) (nxt_bd s).1 (nxt_bd s).2
        refine ⟨s', a, b, c, ?_⟩
        have st : (dThen (dAsg (dBin .Add (dConst (.int 1)) (dBin .Mod (dVar 4) (dConst (.int 47)))) 4) (dEnd)) [s0, .ol (R.map tr), s2, s3, .fz (.int s), s5] = some ([s0, .ol (R.map tr), s2, s3, .fz (.int (nxt s)), s5], .next) :=
          st_asg (v := .int (nxt s)) (ev_bin rfl (ev_bin rfl rfl (modI (by decide))) rfl) rfl
        rw [List.contains_iff_mem.mpr q] at ht
        rw [while_step ht st]
        exact d
    · refine ⟨s, q, h0, h1, ?_⟩
      rw [show (R.map sz).contains s = false from Bool.eq_false_iff.mpr fun h => q (List.contains_iff_mem.mp h)] at ht
      exact while_stop ht
theorem forRun_relN {bd : PV → St → Option St} {db : St → Option (St × Out)} (P : List PV → St → Prop) (hs : ∀ x rest σ, P (x :: rest) σ → ∃ σ1, bd x σ = some σ1 ∧ Nx (P rest) (db σ1)) (xs : List PV) (σ : St) (h : P xs σ) : ∃ σ', forRun bd db xs σ = some (σ', .next) ∧ P [] σ' :=
  forRun_rel P (fun x rest σ p => let ⟨σ1, e, σ2, f, q⟩ := hs x rest σ p; ⟨σ1, σ2, e, f, q⟩) xs σ h
theorem n_while {Q : St → Prop} {σ σ' : St} {t : St → Option Bool} {db k : St → Option (St × Out)} {fuel : Nat} (h : whileRun t db fuel σ = some (σ', .next)) (hk : Nx Q (k σ')) : Nx Q (dThen (whileRun t db fuel) k σ) := by
  unfold dThen; rw [h]; exact hk
theorem rest_bd {x : Int} (h : 0 ≤ x) : 0 ≤ x / 8 % 192 ∧ x / 8 % 192 ≤ 191 ∧ 1 ≤ 1 + x / 2 % 4 ∧ 1 + x / 2 % 4 ≤ 4 := by omega
theorem side_two (x : Int) : 1 - 2 * (x % 2) = 1 ∨ 1 - 2 * (x % 2) = -1 := by omega
theorem side_way {e s : Int} (h : e = 1 ∨ e = -1) (h0 : 1 ≤ s) (h1 : s ≤ 47) : -47 ≤ e * s ∧ e * s ≤ 47 ∧ e * s ≠ 0 ∧ (if e * s < 0 then -(e * s) else e * s) = s := by
  rcases h with rfl | rfl
  · rw [Int.one_mul, if_neg (show ¬ s < 0 by omega)]; exact ⟨by omega, h1, by omega, rfl⟩
  · rw [show (-1 : Int) * s = -s from by omega, if_pos (show -s < 0 by omega), Int.neg_neg]; exact ⟨by omega, by omega, by omega, rfl⟩
theorem mulE {e s : Int} (h : e = 1 ∨ e = -1) : pvBin .Mult (.int e) (.int s) = some (.int (e * s)) := mulI (.inl (by rcases h with rfl | rfl <;> decide))
theorem size_bd (x : Int) : 1 ≤ 1 + x % 47 ∧ 1 + x % 47 ≤ 47 := by omega
theorem row_sp (xs : List Int) (hxs : xs.length ≤ 63) : ∃ R : List Trip, L1.f_law_row_sp [.list (xs.map .int)] = some (.list (R.map tr)) ∧ (∀ x ∈ R, Good x) ∧ (R.length = 3 ∨ R.length = 4 ∨ R.length = 5 ∨ R.length = 6) ∧ (R.map sz).Nodup := by
  obtain ⟨N, hN⟩ : ∃ N : List Int, N = xs.take 3 ++ [289, 37686, 71981] := ⟨_, rfl⟩
  have hl : N.length = 3 ∨ N.length = 4 ∨ N.length = 5 ∨ N.length = 6 := by
    have : N.length = min 3 xs.length + 3 := by rw [hN, List.length_append, List.length_take]; rfl
    omega
  have hl6 : N.length ≤ 6 := by rcases hl with h | h | h | h <;> rw [h] <;> decide
  have key : ∃ R : List Trip, Ret (.list (R.map tr)) (L1.f_law_row_d [.fz (.list (xs.map .int)), .un, .un, .un, .un, .un]) ∧ (∀ x ∈ R, Good x) ∧ R.length = N.length ∧ (R.map sz).Nodup := by
    unfold L1.f_law_row_d
    have e3 : pvSlice (.list (xs.map .int)) none (some 3) none = some (.list ((xs.take 3).map .int)) := by
      have := sliceToL (b := xs.map PV.int) (c := 3) (by rw [List.length_map]; exact Nat.le_trans hxs (by decide))
      rw [List.map_take]; exact this
    have hv : dBin .Add (dSlice (dVar 0) (oNone) (oSome (dConst (.int 3))) (oNone)) (dSeq .list (dCons (dConst (.int 289)) (dCons (dConst (.int 37686)) (dCons (dConst (.int 71981)) (dNil))))) [.fz (.list (xs.map .int)), .ol [], .un, .un, .un, .un] = some (.list (N.map .int)) := by
      refine ev_bin (ev_slice rfl rfl rfl rfl e3) (ev_seq rfl (show 3 ≤ 16777216 by decide)) ?_
      rw [addL (by rw [List.length_map, List.length_take]; exact Nat.le_trans (Nat.add_le_add_right (Nat.min_le_left _ _) _) (show 3 + 3 ≤ 16777216 by decide)), hN, List.map_append]; rfl
    obtain ⟨σ', h1, A, B, R, s2, s3, s4, s5, q1, q2, q3, q4, q5, q6⟩ := forRun_relN
      (bd := bName 2) (db := (dThen (dAsg (dBin .Mod (dVar 2) (dConst (.int 1000000))) 3) (dThen (dAsg (dBin .Add (dConst (.int 1)) (dBin .Mod (dVar 3) (dConst (.int 47)))) 4) (dThen (dAsg (dBin .FloorDiv (dVar 3) (dConst (.int 47))) 3) (dThen (whileRun (dCmp .In (dVar 4) (dComp (dVar 1) (bTuple [0, 1, 2]) (dEmit (dCall spAbs (dCons (dVar 0) (dNil)))) 3 [])) (dThen (dAsg (dBin .Add (dConst (.int 1)) (dBin .Mod (dVar 4) (dConst (.int 47)))) 4) (dEnd)) 64) (dThen (dAsg (dBin .Sub (dConst (.int 1)) (dBin .Mult (dConst (.int 2)) (dBin .Mod (dVar 3) (dConst (.int 2))))) 5) (dThen (dAppend (dSeq .tuple (dCons (dBin .Mult (dVar 5) (dVar 4)) (dCons (dBin .Mod (dBin .FloorDiv (dVar 3) (dConst (.int 8))) (dConst (.int 192))) (dCons (dBin .Add (dConst (.int 1)) (dBin .Mod (dBin .FloorDiv (dVar 3) (dConst (.int 2))) (dConst (.int 4)))) (dNil))))) 1) (dEnd))))))))
      (fun rest σ => ∃ (A B : List Int) (R : List Trip) (s2 s3 s4 s5 : Slot), N = A ++ B ∧ rest = B.map .int ∧ R.length = A.length ∧ (∀ x ∈ R, Good x) ∧ (R.map sz).Nodup ∧ σ = [.fz (.list (xs.map .int)), .ol (R.map tr), s2, s3, s4, s5]) (by
        rintro y rest σ ⟨A, B, R, s2, s3, s4, s5, hAB, hB, hRl, hG, hnd, rfl⟩
        cases B with
        | nil => cases hB
        | cons n B =>
          injection hB with hy hrest
          subst hy
          have hA5 : R.length ≤ 5 := by
            rw [hRl]
            rw [hAB, List.length_append, List.length_cons] at hl6; omega
          have hS5 : (R.map sz).length ≤ 5 := by rw [List.length_map]; exact hA5
          have r0 : 0 ≤ n % 1000000 / 47 := Int.ediv_nonneg (Int.emod_nonneg _ (by decide)) (by decide)
          have sb := size_bd (n % 1000000)
          obtain ⟨j, hj5, hj⟩ := free_one hS5 sb.1 sb.2
          obtain ⟨s', w1, w2, w3, w4⟩ := while_ok (s0 := .fz (.list (xs.map .int))) (s2 := .fz (.int n)) (s3 := .fz (.int (n % 1000000 / 47))) (s5 := s5) (R := R) (Nat.le_trans hA5 (by decide)) j 64 _ hj (Nat.lt_of_le_of_lt hj5 (by decide)) sb.1 sb.2
          have sd := side_two (n % 1000000 / 47)
          have rb := rest_bd r0
          generalize hrr : n % 1000000 / 47 = rr at *
          generalize he : 1 - 2 * (rr % 2) = e at *
          have wy := side_way sd w2 w3
          have g : Good (e * s', rr / 8 % 192, 1 + rr / 2 % 4) := ⟨wy.1, wy.2.1, wy.2.2.1, rb.1, rb.2.1, rb.2.2.1, rb.2.2.2⟩
          have gs : sz (e * s', rr / 8 % 192, 1 + rr / 2 % 4) = s' := wy.2.2.2
          refine ⟨_, rfl, ?_⟩
          refine nx (st_asg (v := .int (n % 1000000)) (ev_bin rfl rfl (modI (by decide))) rfl) ?_
          dsimp only [List.set]
          refine nx (st_asg (v := .int (1 + n % 1000000 % 47)) (ev_bin rfl (ev_bin rfl rfl (modI (by decide))) rfl) rfl) ?_
          dsimp only [List.set]
          refine nx (st_asg (v := .int rr) (ev_bin rfl rfl (by rw [← hrr]; exact fdivI (by decide) (by decide))) rfl) ?_
          dsimp only [List.set]
          refine n_while w4 ?_
          refine nx (st_asg (v := .int e) (ev_bin rfl (ev_bin rfl (ev_bin rfl rfl (modI (by decide))) (mulI (.inl (by decide)))) (by rw [← he]; rfl)) rfl) ?_
          dsimp only [List.set]
          refine nx (st_app (xs := R.map tr) (v := tr (e * s', rr / 8 % 192, 1 + rr / 2 % 4)) rfl (ev_seq (ev_cons (ev_bin rfl rfl (mulE sd)) (ev_cons (ev_bin (ev_bin rfl rfl (fdivI (by decide) (by decide))) rfl (modI (by decide))) (ev_cons (ev_bin rfl (ev_bin (ev_bin rfl rfl (fdivI (by decide) (by decide))) rfl (modI (by decide))) rfl) rfl))) (show 3 ≤ 16777216 by decide)) (by rw [List.length_map]; exact Nat.lt_of_le_of_lt hA5 (by decide)) rfl) ?_
          refine n_end ⟨A ++ [n], B, R ++ [(e * s', rr / 8 % 192, 1 + rr / 2 % 4)], _, _, _, _, by rw [hAB, List.append_assoc]; rfl, hrest, by rw [List.length_append, List.length_append, hRl]; rfl, fun x hx => ?_, ?_, by rw [List.map_append]; rfl⟩
          · rcases List.mem_append.mp hx with h | h
            · exact hG x h
            · rw [List.mem_singleton.mp h]; exact g
          · rw [List.map_append, List.map_cons, List.map_nil, gs]
            exact List.nodup_append.mpr ⟨hnd, List.nodup_cons.mpr ⟨(fun h => nomatch h), List.nodup_nil⟩, fun a ha b hb q => w1 (by rw [List.mem_singleton] at hb; rw [← hb, ← q]; exact ha)⟩) (N.map .int) [.fz (.list (xs.map .int)), .ol [], .un, .un, .un, .un] ⟨[], N, [], .un, .un, .un, .un, rfl, rfl, rfl, (fun _ h => nomatch h), List.nodup_nil, rfl⟩
    have hB0 : B = [] := List.map_eq_nil_iff.mp q2.symm
    subst hB0
    rw [List.append_nil] at q1
    refine ⟨R, ?_, q4, by rw [q3, ← q1], q5⟩
    refine r_new ?_
    dsimp only [List.set]
    refine r_forR hv rfl h1 ?_
    rw [q6]
    exact r_ret rfl
  obtain ⟨R, h1, h2, h3, h4⟩ := key
  exact ⟨R, r_fn rfl h1, h2, by rw [h3]; exact hl, h4⟩
theorem pure1 : ∀ xs : List Int, xs.length ≤ 63 → L1.law_sp [.list (xs.map .int)] = some (.bool true) := by
  intro xs h
  obtain ⟨R, h1, h2, h3, h4⟩ := row_sp xs h
  exact law_row h1 h2 h3 h4
end Mine

end
section
open PySem PySem.W PySem.Calls PyProof.Rows
set_option linter.unusedVariables false
set_option maxRecDepth 100000
namespace Mine
namespace L1
structure Facts1 (C : Ctx) (ad : Nat → Addr) : Prop where
  b_len : Callee C "len" (.builtin "len")
  b_abs : Callee C "abs" (.builtin "abs")
  b_round : Callee C "round" (.builtin "round")
  b_int : Callee C "int" (.type "int")
  b_max : Callee C "max" (.builtin "max")
  b_min : Callee C "min" (.builtin "min")
  b_range : Callee C "range" (.type "range")
  b_bytes : Callee C "bytes" (.type "bytes")
  b_list : Callee C "list" (.type "list")
  b_sorted : Callee C "sorted" (.builtin "sorted")
  b_bytearray : Callee C "bytearray" (.type "bytearray")
  b_isinstance : Callee C "isinstance" (.builtin "isinstance")
  g_ONE_THIRD : ∃ t : Tok, t ≠ 0 ∧ C.mg "ONE_THIRD" = some (.float 4599676419421066581 t)
  g_ONE_SIXTH : ∃ t : Tok, t ≠ 0 ∧ C.mg "ONE_SIXTH" = some (.float 4595172819793696085 t)
  g_TWO_THIRD : ∃ t : Tok, t ≠ 0 ∧ C.mg "TWO_THIRD" = some (.float 4604180019048437077 t)
  c_f_byteswap : Callee C "_byteswap" (.ref (ad 1))
  r_f_byteswap : defRecAt PySem.Challenge.pw_pe0087_01 1 ∈ recsOf C.p ∧ C.mg (defRecAt PySem.Challenge.pw_pe0087_01 1).name = some (.ref (ad 1))
  c_rgb_to_hls : Callee C "rgb_to_hls" (.ref (ad 6))
  r_rgb_to_hls : defRecAt PySem.Challenge.pw_pe0087_01 6 ∈ recsOf C.p ∧ C.mg (defRecAt PySem.Challenge.pw_pe0087_01 6).name = some (.ref (ad 6))
  c_f_v : Callee C "_v" (.ref (ad 8))
  r_f_v : defRecAt PySem.Challenge.pw_pe0087_01 8 ∈ recsOf C.p ∧ C.mg (defRecAt PySem.Challenge.pw_pe0087_01 8).name = some (.ref (ad 8))
  c_rgb_to_hsv : Callee C "rgb_to_hsv" (.ref (ad 9))
  r_rgb_to_hsv : defRecAt PySem.Challenge.pw_pe0087_01 9 ∈ recsOf C.p ∧ C.mg (defRecAt PySem.Challenge.pw_pe0087_01 9).name = some (.ref (ad 9))
  c_hsv_to_rgb : Callee C "hsv_to_rgb" (.ref (ad 10))
  r_hsv_to_rgb : defRecAt PySem.Challenge.pw_pe0087_01 10 ∈ recsOf C.p ∧ C.mg (defRecAt PySem.Challenge.pw_pe0087_01 10).name = some (.ref (ad 10))
  c_f_law_row : Callee C "_law_row" (.ref (ad 12))
  r_f_law_row : defRecAt PySem.Challenge.pw_pe0087_01 12 ∈ recsOf C.p ∧ C.mg (defRecAt PySem.Challenge.pw_pe0087_01 12).name = some (.ref (ad 12))
  c_f_law_octets : Callee C "_law_octets" (.ref (ad 13))
  r_f_law_octets : defRecAt PySem.Challenge.pw_pe0087_01 13 ∈ recsOf C.p ∧ C.mg (defRecAt PySem.Challenge.pw_pe0087_01 13).name = some (.ref (ad 13))
  c_f_law_names : Callee C "_law_names" (.ref (ad 14))
  r_f_law_names : defRecAt PySem.Challenge.pw_pe0087_01 14 ∈ recsOf C.p ∧ C.mg (defRecAt PySem.Challenge.pw_pe0087_01 14).name = some (.ref (ad 14))
  c_hls_to_rgb : Callee C "hls_to_rgb" (.ref (ad 7))
  r_hls_to_rgb : defRecAt PySem.Challenge.pw_pe0087_01 7 ∈ recsOf C.p ∧ C.mg (defRecAt PySem.Challenge.pw_pe0087_01 7).name = some (.ref (ad 7))
  c_f_law_told : Callee C "_law_told" (.ref (ad 16))
  r_f_law_told : defRecAt PySem.Challenge.pw_pe0087_01 16 ∈ recsOf C.p ∧ C.mg (defRecAt PySem.Challenge.pw_pe0087_01 16).name = some (.ref (ad 16))
  c_f_law_seen : Callee C "_law_seen" (.ref (ad 17))
  r_f_law_seen : defRecAt PySem.Challenge.pw_pe0087_01 17 ∈ recsOf C.p ∧ C.mg (defRecAt PySem.Challenge.pw_pe0087_01 17).name = some (.ref (ad 17))
  c_f_law_painted : Callee C "_law_painted" (.ref (ad 15))
  r_f_law_painted : defRecAt PySem.Challenge.pw_pe0087_01 15 ∈ recsOf C.p ∧ C.mg (defRecAt PySem.Challenge.pw_pe0087_01 15).name = some (.ref (ad 15))
  c_law : Callee C "law" (.ref (ad 18))
  r_law : defRecAt PySem.Challenge.pw_pe0087_01 18 ∈ recsOf C.p ∧ C.mg (defRecAt PySem.Challenge.pw_pe0087_01 18).name = some (.ref (ad 18))
set_option maxHeartbeats 4000000 in
theorem f_byteswap_ss {C : Ctx} {ad : Nat → Addr} {n : Nat} (H : Facts1 C ad) : SSs OkG C (defRecAt PySem.Challenge.pw_pe0087_01 1).scope ((["data", "width"] : List Str) ++ (["swapped_data", "i", "j"] : List Str)) (n) true (defRecAt PySem.Challenge.pw_pe0087_01 1).body f_byteswap_d :=
  sss_cons (ss_ba H.b_bytearray (by decide +kernel) rfl (by decide +kernel) rfl (se_call H.b_len ok_len (by decide +kernel) (by decide +kernel) rfl (e_cons (se_name 0 rfl (by decide +kernel) (by decide +kernel)) (e_nil) rfl))) (sss_cons (ss_for gok_ok (by decide +kernel) (se_call H.b_range ok_range (by decide +kernel) (by decide +kernel) rfl (e_cons (e_int) (e_cons (se_call H.b_len ok_len (by decide +kernel) (by decide +kernel) rfl (e_cons (se_name 0 rfl (by decide +kernel) (by decide +kernel)) (e_nil) rfl)) (e_cons (se_name 1 rfl (by decide +kernel) (by decide +kernel)) (e_nil) rfl) rfl) rfl)) (fun _ _ => rfl) (tg_name (tn_local 3 rfl (by decide +kernel))) (.inl ⟨_, _, rfl⟩) (sss_cons (ss_for gok_ok (by decide +kernel) (se_call H.b_range ok_range (by decide +kernel) (by decide +kernel) rfl (e_cons (se_name 1 rfl (by decide +kernel) (by decide +kernel)) (e_nil) rfl)) (fun _ _ => rfl) (tg_name (tn_local 4 rfl (by decide +kernel))) (.inl ⟨_, _, rfl⟩) (sss_cons (ss_set rfl (by decide +kernel) (se_item (se_name 0 rfl (by decide +kernel) (by decide +kernel)) (se_bin (se_name 3 rfl (by decide +kernel) (by decide +kernel)) (se_name 4 rfl (by decide +kernel) (by decide +kernel))) rfl) (se_bin (se_bin (se_bin (se_name 3 rfl (by decide +kernel) (by decide +kernel)) (se_name 1 rfl (by decide +kernel) (by decide +kernel))) (e_int)) (se_name 4 rfl (by decide +kernel) (by decide +kernel))) (fun _ => rfl)) (s_nil))) (s_nil))) (sss_cons (ss_ret (se_call H.b_bytes ok_bytes (by decide +kernel) (by decide +kernel) rfl (e_cons (se_name 2 rfl (by decide +kernel) (by decide +kernel)) (e_nil) rfl))) (s_nil)))
theorem f_byteswap_rec : FnRec (defRecAt PySem.Challenge.pw_pe0087_01 1) (["data", "width"] : List Str) (["swapped_data", "i", "j"] : List Str) where
  nodup := by decide +kernel
  kinds := by decide +kernel
  bind := fun pm cd doc => len2 fun _ _ => by kernel_rfl
  co := by decide +kernel
  gen := by decide +kernel
  kind := by decide +kernel
theorem f_byteswap_ok {C : Ctx} {ad : Nat → Addr} {n : Nat} (H : Facts1 C ad) : CallOkG OkG C (n + 1) (.ref (ad 1)) f_byteswap_sp := fn_okG gok_ok (n := n) (H.r_f_byteswap).1 (H.r_f_byteswap).2 f_byteswap_rec (f_byteswap_ss H)

set_option maxHeartbeats 4000000 in
theorem rgb_to_hls_ss {C : Ctx} {ad : Nat → Addr} {n : Nat} (H : Facts1 C ad) : SSs (fun _ => True) C (defRecAt PySem.Challenge.pw_pe0087_01 6).scope ((["r", "g", "b"] : List Str) ++ (["maxc", "minc", "sumc", "rangec", "l", "s", "rc", "gc", "bc", "h"] : List Str)) (n) true (defRecAt PySem.Challenge.pw_pe0087_01 6).body rgb_to_hls_d :=
  sss_cons (ss_asg (tn_local 3 rfl (by decide +kernel)) (se_call H.b_max ok_max (by decide +kernel) (by decide +kernel) rfl (e_cons (se_name 0 rfl (by decide +kernel) (by decide +kernel)) (e_cons (se_name 1 rfl (by decide +kernel) (by decide +kernel)) (e_cons (se_name 2 rfl (by decide +kernel) (by decide +kernel)) (e_nil) rfl) rfl) rfl)) (fun _ => rfl)) (sss_cons (ss_asg (tn_local 4 rfl (by decide +kernel)) (se_call H.b_min ok_min (by decide +kernel) (by decide +kernel) rfl (e_cons (se_name 0 rfl (by decide +kernel) (by decide +kernel)) (e_cons (se_name 1 rfl (by decide +kernel) (by decide +kernel)) (e_cons (se_name 2 rfl (by decide +kernel) (by decide +kernel)) (e_nil) rfl) rfl) rfl)) (fun _ => rfl)) (sss_cons (ss_asg (tn_local 5 rfl (by decide +kernel)) (se_bin (se_name 3 rfl (by decide +kernel) (by decide +kernel)) (se_name 4 rfl (by decide +kernel) (by decide +kernel))) (fun _ => rfl)) (sss_cons (ss_asg (tn_local 6 rfl (by decide +kernel)) (se_bin (se_name 3 rfl (by decide +kernel) (by decide +kernel)) (se_name 4 rfl (by decide +kernel) (by decide +kernel))) (fun _ => rfl)) (sss_cons (ss_asg (tn_local 7 rfl (by decide +kernel)) (se_bin (se_name 5 rfl (by decide +kernel) (by decide +kernel)) (e_float)) (fun _ => rfl)) (sss_cons (ss_if (st_cmp (se_name 4 rfl (by decide +kernel) (by decide +kernel)) (se_name 3 rfl (by decide +kernel) (by decide +kernel)) rfl) (sss_cons (ss_ret (se_tuple (e_cons (e_float) (e_cons (se_name 7 rfl (by decide +kernel) (by decide +kernel)) (e_cons (e_float) (e_nil) rfl) rfl) rfl))) (s_nil)) (s_nil)) (sss_cons (ss_if (st_cmp (se_name 7 rfl (by decide +kernel) (by decide +kernel)) (e_float) rfl) (sss_cons (ss_asg (tn_local 8 rfl (by decide +kernel)) (se_bin (se_name 6 rfl (by decide +kernel) (by decide +kernel)) (se_name 5 rfl (by decide +kernel) (by decide +kernel))) (fun _ => rfl)) (s_nil)) (sss_cons (ss_asg (tn_local 8 rfl (by decide +kernel)) (se_bin (se_name 6 rfl (by decide +kernel) (by decide +kernel)) (se_bin (se_bin (e_float) (se_name 3 rfl (by decide +kernel) (by decide +kernel))) (se_name 4 rfl (by decide +kernel) (by decide +kernel)))) (fun _ => rfl)) (s_nil))) (sss_cons (ss_asg (tn_local 9 rfl (by decide +kernel)) (se_bin (se_bin (se_name 3 rfl (by decide +kernel) (by decide +kernel)) (se_name 0 rfl (by decide +kernel) (by decide +kernel))) (se_name 6 rfl (by decide +kernel) (by decide +kernel))) (fun _ => rfl)) (sss_cons (ss_asg (tn_local 10 rfl (by decide +kernel)) (se_bin (se_bin (se_name 3 rfl (by decide +kernel) (by decide +kernel)) (se_name 1 rfl (by decide +kernel) (by decide +kernel))) (se_name 6 rfl (by decide +kernel) (by decide +kernel))) (fun _ => rfl)) (sss_cons (ss_asg (tn_local 11 rfl (by decide +kernel)) (se_bin (se_bin (se_name 3 rfl (by decide +kernel) (by decide +kernel)) (se_name 2 rfl (by decide +kernel) (by decide +kernel))) (se_name 6 rfl (by decide +kernel) (by decide +kernel))) (fun _ => rfl)) (sss_cons (ss_if (st_cmp (se_name 0 rfl (by decide +kernel) (by decide +kernel)) (se_name 3 rfl (by decide +kernel) (by decide +kernel)) rfl) (sss_cons (ss_asg (tn_local 12 rfl (by decide +kernel)) (se_bin (se_name 11 rfl (by decide +kernel) (by decide +kernel)) (se_name 10 rfl (by decide +kernel) (by decide +kernel))) (fun _ => rfl)) (s_nil)) (sss_cons (ss_if (st_cmp (se_name 1 rfl (by decide +kernel) (by decide +kernel)) (se_name 3 rfl (by decide +kernel) (by decide +kernel)) rfl) (sss_cons (ss_asg (tn_local 12 rfl (by decide +kernel)) (se_bin (se_bin (e_float) (se_name 9 rfl (by decide +kernel) (by decide +kernel))) (se_name 11 rfl (by decide +kernel) (by decide +kernel))) (fun _ => rfl)) (s_nil)) (sss_cons (ss_asg (tn_local 12 rfl (by decide +kernel)) (se_bin (se_bin (e_float) (se_name 10 rfl (by decide +kernel) (by decide +kernel))) (se_name 9 rfl (by decide +kernel) (by decide +kernel))) (fun _ => rfl)) (s_nil))) (s_nil))) (sss_cons (ss_asg (tn_local 12 rfl (by decide +kernel)) (se_bin (se_bin (se_name 12 rfl (by decide +kernel) (by decide +kernel)) (e_float)) (e_float)) (fun _ => rfl)) (sss_cons (ss_ret (se_tuple (e_cons (se_name 12 rfl (by decide +kernel) (by decide +kernel)) (e_cons (se_name 7 rfl (by decide +kernel) (by decide +kernel)) (e_cons (se_name 8 rfl (by decide +kernel) (by decide +kernel)) (e_nil) rfl) rfl) rfl))) (s_nil)))))))))))))
theorem rgb_to_hls_rec : FnRec (defRecAt PySem.Challenge.pw_pe0087_01 6) (["r", "g", "b"] : List Str) (["maxc", "minc", "sumc", "rangec", "l", "s", "rc", "gc", "bc", "h"] : List Str) where
  nodup := by decide +kernel
  kinds := by decide +kernel
  bind := fun pm cd doc => len3 fun _ _ _ => by kernel_rfl
  co := by decide +kernel
  gen := by decide +kernel
  kind := by decide +kernel
theorem rgb_to_hls_ok {C : Ctx} {ad : Nat → Addr} {n : Nat} (H : Facts1 C ad) : CallOk C (n + 1) (.ref (ad 6)) rgb_to_hls_sp := fn_ok (n := n) (H.r_rgb_to_hls).1 (H.r_rgb_to_hls).2 rgb_to_hls_rec (rgb_to_hls_ss H)

set_option maxHeartbeats 4000000 in
theorem f_v_ss {C : Ctx} {ad : Nat → Addr} {n : Nat} (H : Facts1 C ad) : SSs (fun _ => True) C (defRecAt PySem.Challenge.pw_pe0087_01 8).scope ((["m1", "m2", "hue"] : List Str) ++ ([] : List Str)) (n) true (defRecAt PySem.Challenge.pw_pe0087_01 8).body f_v_d :=
  sss_cons (ss_asg (tn_local 2 rfl (by decide +kernel)) (se_bin (se_name 2 rfl (by decide +kernel) (by decide +kernel)) (e_float)) (fun _ => rfl)) (sss_cons (ss_if (st_cmp (se_name 2 rfl (by decide +kernel) (by decide +kernel)) (e_glob H.g_ONE_SIXTH (by decide +kernel) (by decide +kernel)) rfl) (sss_cons (ss_ret (se_bin (se_name 0 rfl (by decide +kernel) (by decide +kernel)) (se_bin (se_bin (se_bin (se_name 1 rfl (by decide +kernel) (by decide +kernel)) (se_name 0 rfl (by decide +kernel) (by decide +kernel))) (se_name 2 rfl (by decide +kernel) (by decide +kernel))) (e_float)))) (s_nil)) (s_nil)) (sss_cons (ss_if (st_cmp (se_name 2 rfl (by decide +kernel) (by decide +kernel)) (e_float) rfl) (sss_cons (ss_ret (se_name 1 rfl (by decide +kernel) (by decide +kernel))) (s_nil)) (s_nil)) (sss_cons (ss_if (st_cmp (se_name 2 rfl (by decide +kernel) (by decide +kernel)) (e_glob H.g_TWO_THIRD (by decide +kernel) (by decide +kernel)) rfl) (sss_cons (ss_ret (se_bin (se_name 0 rfl (by decide +kernel) (by decide +kernel)) (se_bin (se_bin (se_bin (se_name 1 rfl (by decide +kernel) (by decide +kernel)) (se_name 0 rfl (by decide +kernel) (by decide +kernel))) (se_bin (e_glob H.g_TWO_THIRD (by decide +kernel) (by decide +kernel)) (se_name 2 rfl (by decide +kernel) (by decide +kernel)))) (e_float)))) (s_nil)) (s_nil)) (sss_cons (ss_ret (se_name 0 rfl (by decide +kernel) (by decide +kernel))) (s_nil)))))
theorem f_v_rec : FnRec (defRecAt PySem.Challenge.pw_pe0087_01 8) (["m1", "m2", "hue"] : List Str) ([] : List Str) where
  nodup := by decide +kernel
  kinds := by decide +kernel
  bind := fun pm cd doc => len3 fun _ _ _ => by kernel_rfl
  co := by decide +kernel
  gen := by decide +kernel
  kind := by decide +kernel
theorem f_v_ok {C : Ctx} {ad : Nat → Addr} {n : Nat} (H : Facts1 C ad) : CallOk C (n + 1) (.ref (ad 8)) f_v_sp := fn_ok (n := n) (H.r_f_v).1 (H.r_f_v).2 f_v_rec (f_v_ss H)

set_option maxHeartbeats 4000000 in
theorem rgb_to_hsv_ss {C : Ctx} {ad : Nat → Addr} {n : Nat} (H : Facts1 C ad) : SSs (fun _ => True) C (defRecAt PySem.Challenge.pw_pe0087_01 9).scope ((["r", "g", "b"] : List Str) ++ (["maxc", "minc", "rangec", "v", "s", "rc", "gc", "bc", "h"] : List Str)) (n) true (defRecAt PySem.Challenge.pw_pe0087_01 9).body rgb_to_hsv_d :=
  sss_cons (ss_asg (tn_local 3 rfl (by decide +kernel)) (se_call H.b_max ok_max (by decide +kernel) (by decide +kernel) rfl (e_cons (se_name 0 rfl (by decide +kernel) (by decide +kernel)) (e_cons (se_name 1 rfl (by decide +kernel) (by decide +kernel)) (e_cons (se_name 2 rfl (by decide +kernel) (by decide +kernel)) (e_nil) rfl) rfl) rfl)) (fun _ => rfl)) (sss_cons (ss_asg (tn_local 4 rfl (by decide +kernel)) (se_call H.b_min ok_min (by decide +kernel) (by decide +kernel) rfl (e_cons (se_name 0 rfl (by decide +kernel) (by decide +kernel)) (e_cons (se_name 1 rfl (by decide +kernel) (by decide +kernel)) (e_cons (se_name 2 rfl (by decide +kernel) (by decide +kernel)) (e_nil) rfl) rfl) rfl)) (fun _ => rfl)) (sss_cons (ss_asg (tn_local 5 rfl (by decide +kernel)) (se_bin (se_name 3 rfl (by decide +kernel) (by decide +kernel)) (se_name 4 rfl (by decide +kernel) (by decide +kernel))) (fun _ => rfl)) (sss_cons (ss_asg (tn_local 6 rfl (by decide +kernel)) (se_name 3 rfl (by decide +kernel) (by decide +kernel)) (fun _ => rfl)) (sss_cons (ss_if (st_cmp (se_name 4 rfl (by decide +kernel) (by decide +kernel)) (se_name 3 rfl (by decide +kernel) (by decide +kernel)) rfl) (sss_cons (ss_ret (se_tuple (e_cons (e_float) (e_cons (e_float) (e_cons (se_name 6 rfl (by decide +kernel) (by decide +kernel)) (e_nil) rfl) rfl) rfl))) (s_nil)) (s_nil)) (sss_cons (ss_asg (tn_local 7 rfl (by decide +kernel)) (se_bin (se_name 5 rfl (by decide +kernel) (by decide +kernel)) (se_name 3 rfl (by decide +kernel) (by decide +kernel))) (fun _ => rfl)) (sss_cons (ss_asg (tn_local 8 rfl (by decide +kernel)) (se_bin (se_bin (se_name 3 rfl (by decide +kernel) (by decide +kernel)) (se_name 0 rfl (by decide +kernel) (by decide +kernel))) (se_name 5 rfl (by decide +kernel) (by decide +kernel))) (fun _ => rfl)) (sss_cons (ss_asg (tn_local 9 rfl (by decide +kernel)) (se_bin (se_bin (se_name 3 rfl (by decide +kernel) (by decide +kernel)) (se_name 1 rfl (by decide +kernel) (by decide +kernel))) (se_name 5 rfl (by decide +kernel) (by decide +kernel))) (fun _ => rfl)) (sss_cons (ss_asg (tn_local 10 rfl (by decide +kernel)) (se_bin (se_bin (se_name 3 rfl (by decide +kernel) (by decide +kernel)) (se_name 2 rfl (by decide +kernel) (by decide +kernel))) (se_name 5 rfl (by decide +kernel) (by decide +kernel))) (fun _ => rfl)) (sss_cons (ss_if (st_cmp (se_name 0 rfl (by decide +kernel) (by decide +kernel)) (se_name 3 rfl (by decide +kernel) (by decide +kernel)) rfl) (sss_cons (ss_asg (tn_local 11 rfl (by decide +kernel)) (se_bin (se_name 10 rfl (by decide +kernel) (by decide +kernel)) (se_name 9 rfl (by decide +kernel) (by decide +kernel))) (fun _ => rfl)) (s_nil)) (sss_cons (ss_if (st_cmp (se_name 1 rfl (by decide +kernel) (by decide +kernel)) (se_name 3 rfl (by decide +kernel) (by decide +kernel)) rfl) (sss_cons (ss_asg (tn_local 11 rfl (by decide +kernel)) (se_bin (se_bin (e_float) (se_name 8 rfl (by decide +kernel) (by decide +kernel))) (se_name 10 rfl (by decide +kernel) (by decide +kernel))) (fun _ => rfl)) (s_nil)) (sss_cons (ss_asg (tn_local 11 rfl (by decide +kernel)) (se_bin (se_bin (e_float) (se_name 9 rfl (by decide +kernel) (by decide +kernel))) (se_name 8 rfl (by decide +kernel) (by decide +kernel))) (fun _ => rfl)) (s_nil))) (s_nil))) (sss_cons (ss_asg (tn_local 11 rfl (by decide +kernel)) (se_bin (se_bin (se_name 11 rfl (by decide +kernel) (by decide +kernel)) (e_float)) (e_float)) (fun _ => rfl)) (sss_cons (ss_ret (se_tuple (e_cons (se_name 11 rfl (by decide +kernel) (by decide +kernel)) (e_cons (se_name 7 rfl (by decide +kernel) (by decide +kernel)) (e_cons (se_name 6 rfl (by decide +kernel) (by decide +kernel)) (e_nil) rfl) rfl) rfl))) (s_nil))))))))))))
theorem rgb_to_hsv_rec : FnRec (defRecAt PySem.Challenge.pw_pe0087_01 9) (["r", "g", "b"] : List Str) (["maxc", "minc", "rangec", "v", "s", "rc", "gc", "bc", "h"] : List Str) where
  nodup := by decide +kernel
  kinds := by decide +kernel
  bind := fun pm cd doc => len3 fun _ _ _ => by kernel_rfl
  co := by decide +kernel
  gen := by decide +kernel
  kind := by decide +kernel
theorem rgb_to_hsv_ok {C : Ctx} {ad : Nat → Addr} {n : Nat} (H : Facts1 C ad) : CallOk C (n + 1) (.ref (ad 9)) rgb_to_hsv_sp := fn_ok (n := n) (H.r_rgb_to_hsv).1 (H.r_rgb_to_hsv).2 rgb_to_hsv_rec (rgb_to_hsv_ss H)

set_option maxHeartbeats 4000000 in
theorem hsv_to_rgb_ss {C : Ctx} {ad : Nat → Addr} {n : Nat} (H : Facts1 C ad) : SSs (fun _ => True) C (defRecAt PySem.Challenge.pw_pe0087_01 10).scope ((["h", "s", "v"] : List Str) ++ (["i", "f", "p", "q", "t"] : List Str)) (n) true (defRecAt PySem.Challenge.pw_pe0087_01 10).body hsv_to_rgb_d :=
  sss_cons (ss_if (st_cmp (se_name 1 rfl (by decide +kernel) (by decide +kernel)) (e_float) rfl) (sss_cons (ss_ret (se_tuple (e_cons (se_name 2 rfl (by decide +kernel) (by decide +kernel)) (e_cons (se_name 2 rfl (by decide +kernel) (by decide +kernel)) (e_cons (se_name 2 rfl (by decide +kernel) (by decide +kernel)) (e_nil) rfl) rfl) rfl))) (s_nil)) (s_nil)) (sss_cons (ss_asg (tn_local 3 rfl (by decide +kernel)) (se_call H.b_int ok_int (by decide +kernel) (by decide +kernel) rfl (e_cons (se_bin (se_name 0 rfl (by decide +kernel) (by decide +kernel)) (e_float)) (e_nil) rfl)) (fun _ => rfl)) (sss_cons (ss_asg (tn_local 4 rfl (by decide +kernel)) (se_bin (se_bin (se_name 0 rfl (by decide +kernel) (by decide +kernel)) (e_float)) (se_name 3 rfl (by decide +kernel) (by decide +kernel))) (fun _ => rfl)) (sss_cons (ss_asg (tn_local 5 rfl (by decide +kernel)) (se_bin (se_name 2 rfl (by decide +kernel) (by decide +kernel)) (se_bin (e_float) (se_name 1 rfl (by decide +kernel) (by decide +kernel)))) (fun _ => rfl)) (sss_cons (ss_asg (tn_local 6 rfl (by decide +kernel)) (se_bin (se_name 2 rfl (by decide +kernel) (by decide +kernel)) (se_bin (e_float) (se_bin (se_name 1 rfl (by decide +kernel) (by decide +kernel)) (se_name 4 rfl (by decide +kernel) (by decide +kernel))))) (fun _ => rfl)) (sss_cons (ss_asg (tn_local 7 rfl (by decide +kernel)) (se_bin (se_name 2 rfl (by decide +kernel) (by decide +kernel)) (se_bin (e_float) (se_bin (se_name 1 rfl (by decide +kernel) (by decide +kernel)) (se_bin (e_float) (se_name 4 rfl (by decide +kernel) (by decide +kernel)))))) (fun _ => rfl)) (sss_cons (ss_asg (tn_local 3 rfl (by decide +kernel)) (se_bin (se_name 3 rfl (by decide +kernel) (by decide +kernel)) (e_int)) (fun _ => rfl)) (sss_cons (ss_if (st_cmp (se_name 3 rfl (by decide +kernel) (by decide +kernel)) (e_int) rfl) (sss_cons (ss_ret (se_tuple (e_cons (se_name 2 rfl (by decide +kernel) (by decide +kernel)) (e_cons (se_name 7 rfl (by decide +kernel) (by decide +kernel)) (e_cons (se_name 5 rfl (by decide +kernel) (by decide +kernel)) (e_nil) rfl) rfl) rfl))) (s_nil)) (s_nil)) (sss_cons (ss_if (st_cmp (se_name 3 rfl (by decide +kernel) (by decide +kernel)) (e_int) rfl) (sss_cons (ss_ret (se_tuple (e_cons (se_name 6 rfl (by decide +kernel) (by decide +kernel)) (e_cons (se_name 2 rfl (by decide +kernel) (by decide +kernel)) (e_cons (se_name 5 rfl (by decide +kernel) (by decide +kernel)) (e_nil) rfl) rfl) rfl))) (s_nil)) (s_nil)) (sss_cons (ss_if (st_cmp (se_name 3 rfl (by decide +kernel) (by decide +kernel)) (e_int) rfl) (sss_cons (ss_ret (se_tuple (e_cons (se_name 5 rfl (by decide +kernel) (by decide +kernel)) (e_cons (se_name 2 rfl (by decide +kernel) (by decide +kernel)) (e_cons (se_name 7 rfl (by decide +kernel) (by decide +kernel)) (e_nil) rfl) rfl) rfl))) (s_nil)) (s_nil)) (sss_cons (ss_if (st_cmp (se_name 3 rfl (by decide +kernel) (by decide +kernel)) (e_int) rfl) (sss_cons (ss_ret (se_tuple (e_cons (se_name 5 rfl (by decide +kernel) (by decide +kernel)) (e_cons (se_name 6 rfl (by decide +kernel) (by decide +kernel)) (e_cons (se_name 2 rfl (by decide +kernel) (by decide +kernel)) (e_nil) rfl) rfl) rfl))) (s_nil)) (s_nil)) (sss_cons (ss_if (st_cmp (se_name 3 rfl (by decide +kernel) (by decide +kernel)) (e_int) rfl) (sss_cons (ss_ret (se_tuple (e_cons (se_name 7 rfl (by decide +kernel) (by decide +kernel)) (e_cons (se_name 5 rfl (by decide +kernel) (by decide +kernel)) (e_cons (se_name 2 rfl (by decide +kernel) (by decide +kernel)) (e_nil) rfl) rfl) rfl))) (s_nil)) (s_nil)) (sss_cons (ss_if (st_cmp (se_name 3 rfl (by decide +kernel) (by decide +kernel)) (e_int) rfl) (sss_cons (ss_ret (se_tuple (e_cons (se_name 2 rfl (by decide +kernel) (by decide +kernel)) (e_cons (se_name 5 rfl (by decide +kernel) (by decide +kernel)) (e_cons (se_name 6 rfl (by decide +kernel) (by decide +kernel)) (e_nil) rfl) rfl) rfl))) (s_nil)) (s_nil)) (s_nil)))))))))))))
theorem hsv_to_rgb_rec : FnRec (defRecAt PySem.Challenge.pw_pe0087_01 10) (["h", "s", "v"] : List Str) (["i", "f", "p", "q", "t"] : List Str) where
  nodup := by decide +kernel
  kinds := by decide +kernel
  bind := fun pm cd doc => len3 fun _ _ _ => by kernel_rfl
  co := by decide +kernel
  gen := by decide +kernel
  kind := by decide +kernel
theorem hsv_to_rgb_ok {C : Ctx} {ad : Nat → Addr} {n : Nat} (H : Facts1 C ad) : CallOk C (n + 1) (.ref (ad 10)) hsv_to_rgb_sp := fn_ok (n := n) (H.r_hsv_to_rgb).1 (H.r_hsv_to_rgb).2 hsv_to_rgb_rec (hsv_to_rgb_ss H)

set_option maxHeartbeats 4000000 in
theorem f_law_row_ss {C : Ctx} {ad : Nat → Addr} {n : Nat} (H : Facts1 C ad) : SSs (fun _ => True) C (defRecAt PySem.Challenge.pw_pe0087_01 12).scope ((["script"] : List Str) ++ (["row", "number", "rest", "size", "side"] : List Str)) (n) true (defRecAt PySem.Challenge.pw_pe0087_01 12).body f_law_row_d :=
  sss_cons (ss_new rfl (by decide +kernel)) (sss_cons (ss_for gok_true (by decide +kernel) (se_bin (se_slice (se_name 0 rfl (by decide +kernel) (by decide +kernel)) (o_none) (o_some (e_int)) (o_none)) (se_list (e_cons (e_int) (e_cons (e_int) (e_cons (e_int) (e_nil) rfl) rfl) rfl))) (fun _ _ => rfl) (tg_name (tn_local 2 rfl (by decide +kernel))) (.inl ⟨_, _, rfl⟩) (sss_cons (ss_asg (tn_local 3 rfl (by decide +kernel)) (se_bin (se_name 2 rfl (by decide +kernel) (by decide +kernel)) (e_int)) (fun _ => rfl)) (sss_cons (ss_asg (tn_local 4 rfl (by decide +kernel)) (se_bin (e_int) (se_bin (se_name 3 rfl (by decide +kernel) (by decide +kernel)) (e_int))) (fun _ => rfl)) (sss_cons (ss_asg (tn_local 3 rfl (by decide +kernel)) (se_bin (se_name 3 rfl (by decide +kernel) (by decide +kernel)) (e_int)) (fun _ => rfl)) (sss_cons (ss_while gok_true (st_cmp (se_name 4 rfl (by decide +kernel) (by decide +kernel)) (se_comp1 (lay' := (["way", "least", "step"] : List Str)) (se_name 1 rfl (by decide +kernel) (by decide +kernel)) (fun _ _ => rfl) (frOk_of (by decide +kernel)) (tg_tuple (.cons (tn_local 0 rfl (by decide +kernel)) (.cons (tn_local 1 rfl (by decide +kernel)) (.cons (tn_local 2 rfl (by decide +kernel)) (.nil))))) (.inr ⟨_, _, _, rfl⟩) (se_call H.b_abs ok_abs (by decide +kernel) (by decide +kernel) rfl (e_cons (se_name 0 rfl (by decide +kernel) (by decide +kernel)) (e_nil) rfl))) rfl) (sss_cons (ss_asg (tn_local 4 rfl (by decide +kernel)) (se_bin (e_int) (se_bin (se_name 4 rfl (by decide +kernel) (by decide +kernel)) (e_int))) (fun _ => rfl)) (s_nil))) (sss_cons (ss_asg (tn_local 5 rfl (by decide +kernel)) (se_bin (e_int) (se_bin (e_int) (se_bin (se_name 3 rfl (by decide +kernel) (by decide +kernel)) (e_int)))) (fun _ => rfl)) (sss_cons (ss_append rfl (se_tuple (e_cons (se_bin (se_name 5 rfl (by decide +kernel) (by decide +kernel)) (se_name 4 rfl (by decide +kernel) (by decide +kernel))) (e_cons (se_bin (se_bin (se_name 3 rfl (by decide +kernel) (by decide +kernel)) (e_int)) (e_int)) (e_cons (se_bin (e_int) (se_bin (se_bin (se_name 3 rfl (by decide +kernel) (by decide +kernel)) (e_int)) (e_int))) (e_nil) rfl) rfl) rfl)) (by decide +kernel) rfl rfl) (s_nil)))))))) (sss_cons (ss_ret (se_name 1 rfl (by decide +kernel) (by decide +kernel))) (s_nil)))
theorem f_law_row_rec : FnRec (defRecAt PySem.Challenge.pw_pe0087_01 12) (["script"] : List Str) (["row", "number", "rest", "size", "side"] : List Str) where
  nodup := by decide +kernel
  kinds := by decide +kernel
  bind := fun pm cd doc => len1 fun _ => by kernel_rfl
  co := by decide +kernel
  gen := by decide +kernel
  kind := by decide +kernel
theorem f_law_row_ok {C : Ctx} {ad : Nat → Addr} {n : Nat} (H : Facts1 C ad) : CallOk C (n + 1) (.ref (ad 12)) f_law_row_sp := fn_ok (n := n) (H.r_f_law_row).1 (H.r_f_law_row).2 f_law_row_rec (f_law_row_ss H)

set_option maxHeartbeats 4000000 in
theorem f_law_octets_ss {C : Ctx} {ad : Nat → Addr} {n : Nat} (H : Facts1 C ad) : SSs (fun _ => True) C (defRecAt PySem.Challenge.pw_pe0087_01 13).scope ((["way", "least", "step"] : List Str) ++ (["parts", "corner", "far"] : List Str)) (n) true (defRecAt PySem.Challenge.pw_pe0087_01 13).body f_law_octets_d :=
  sss_cons (ss_new rfl (by decide +kernel)) (sss_cons (ss_for gok_true (by decide +kernel) (se_list (e_cons (e_neg (e_int)) (e_cons (e_int) (e_cons (e_int) (e_nil) rfl) rfl) rfl)) (fun _ _ => rfl) (tg_name (tn_local 4 rfl (by decide +kernel))) (.inl ⟨_, _, rfl⟩) (sss_cons (ss_asg (tn_local 5 rfl (by decide +kernel)) (se_bin (se_bin (se_name 0 rfl (by decide +kernel) (by decide +kernel)) (se_name 4 rfl (by decide +kernel) (by decide +kernel))) (e_int)) (fun _ => rfl)) (sss_cons (ss_asg (tn_local 5 rfl (by decide +kernel)) (se_call H.b_min ok_min (by decide +kernel) (by decide +kernel) rfl (e_cons (se_name 5 rfl (by decide +kernel) (by decide +kernel)) (e_cons (se_bin (e_int) (se_name 5 rfl (by decide +kernel) (by decide +kernel))) (e_nil) rfl) rfl)) (fun _ => rfl)) (sss_cons (ss_append rfl (se_bin (se_name 1 rfl (by decide +kernel) (by decide +kernel)) (se_bin (se_name 2 rfl (by decide +kernel) (by decide +kernel)) (se_call H.b_min ok_min (by decide +kernel) (by decide +kernel) rfl (e_cons (e_int) (e_cons (se_call H.b_max ok_max (by decide +kernel) (by decide +kernel) rfl (e_cons (e_int) (e_cons (se_bin (e_int) (se_name 5 rfl (by decide +kernel) (by decide +kernel))) (e_nil) rfl) rfl)) (e_nil) rfl) rfl)))) (by decide +kernel) rfl rfl) (s_nil))))) (sss_cons (ss_ret (se_name 3 rfl (by decide +kernel) (by decide +kernel))) (s_nil)))
theorem f_law_octets_rec : FnRec (defRecAt PySem.Challenge.pw_pe0087_01 13) (["way", "least", "step"] : List Str) (["parts", "corner", "far"] : List Str) where
  nodup := by decide +kernel
  kinds := by decide +kernel
  bind := fun pm cd doc => len3 fun _ _ _ => by kernel_rfl
  co := by decide +kernel
  gen := by decide +kernel
  kind := by decide +kernel
theorem f_law_octets_ok {C : Ctx} {ad : Nat → Addr} {n : Nat} (H : Facts1 C ad) : CallOk C (n + 1) (.ref (ad 13)) f_law_octets_sp := fn_ok (n := n) (H.r_f_law_octets).1 (H.r_f_law_octets).2 f_law_octets_rec (f_law_octets_ss H)

set_option maxHeartbeats 4000000 in
theorem f_law_names_ss {C : Ctx} {ad : Nat → Addr} {n : Nat} (H : Facts1 C ad) : SSs (fun _ => True) C (defRecAt PySem.Challenge.pw_pe0087_01 14).scope ((["way", "least", "step"] : List Str) ++ (["hue", "most", "both", "share"] : List Str)) (n) true (defRecAt PySem.Challenge.pw_pe0087_01 14).body f_law_names_d :=
  sss_cons (ss_asg (tn_local 3 rfl (by decide +kernel)) (se_bin (se_bin (se_bin (se_name 0 rfl (by decide +kernel) (by decide +kernel)) (e_int)) (e_int)) (e_int)) (fun _ => rfl)) (sss_cons (ss_asg (tn_local 4 rfl (by decide +kernel)) (se_bin (se_name 1 rfl (by decide +kernel) (by decide +kernel)) (se_bin (e_int) (se_name 2 rfl (by decide +kernel) (by decide +kernel)))) (fun _ => rfl)) (sss_cons (ss_asg (tn_local 5 rfl (by decide +kernel)) (se_bin (se_name 1 rfl (by decide +kernel) (by decide +kernel)) (se_name 4 rfl (by decide +kernel) (by decide +kernel))) (fun _ => rfl)) (sss_cons (ss_asg (tn_local 6 rfl (by decide +kernel)) (se_bin (se_bin (e_int) (se_name 2 rfl (by decide +kernel) (by decide +kernel))) (se_call H.b_min ok_min (by decide +kernel) (by decide +kernel) rfl (e_cons (se_name 5 rfl (by decide +kernel) (by decide +kernel)) (e_cons (se_bin (e_int) (se_name 5 rfl (by decide +kernel) (by decide +kernel))) (e_nil) rfl) rfl))) (fun _ => rfl)) (sss_cons (ss_ret (se_tuple (e_cons (se_tuple (e_cons (se_name 3 rfl (by decide +kernel) (by decide +kernel)) (e_cons (se_bin (se_bin (e_int) (se_name 2 rfl (by decide +kernel) (by decide +kernel))) (se_name 4 rfl (by decide +kernel) (by decide +kernel))) (e_cons (se_bin (se_name 4 rfl (by decide +kernel) (by decide +kernel)) (e_int)) (e_nil) rfl) rfl) rfl)) (e_cons (se_tuple (e_cons (se_name 3 rfl (by decide +kernel) (by decide +kernel)) (e_cons (se_bin (se_name 5 rfl (by decide +kernel) (by decide +kernel)) (e_int)) (e_cons (se_name 6 rfl (by decide +kernel) (by decide +kernel)) (e_nil) rfl) rfl) rfl)) (e_nil) rfl) rfl))) (s_nil)))))
theorem f_law_names_rec : FnRec (defRecAt PySem.Challenge.pw_pe0087_01 14) (["way", "least", "step"] : List Str) (["hue", "most", "both", "share"] : List Str) where
  nodup := by decide +kernel
  kinds := by decide +kernel
  bind := fun pm cd doc => len3 fun _ _ _ => by kernel_rfl
  co := by decide +kernel
  gen := by decide +kernel
  kind := by decide +kernel
theorem f_law_names_ok {C : Ctx} {ad : Nat → Addr} {n : Nat} (H : Facts1 C ad) : CallOk C (n + 1) (.ref (ad 14)) f_law_names_sp := fn_ok (n := n) (H.r_f_law_names).1 (H.r_f_law_names).2 f_law_names_rec (f_law_names_ss H)

set_option maxHeartbeats 4000000 in
theorem hls_to_rgb_ss {C : Ctx} {ad : Nat → Addr} {n : Nat} (H : Facts1 C ad) : SSs (fun _ => True) C (defRecAt PySem.Challenge.pw_pe0087_01 7).scope ((["h", "l", "s"] : List Str) ++ (["m2", "m1"] : List Str)) (n + 1) true (defRecAt PySem.Challenge.pw_pe0087_01 7).body hls_to_rgb_d :=
  sss_cons (ss_if (st_cmp (se_name 2 rfl (by decide +kernel) (by decide +kernel)) (e_float) rfl) (sss_cons (ss_ret (se_tuple (e_cons (se_name 1 rfl (by decide +kernel) (by decide +kernel)) (e_cons (se_name 1 rfl (by decide +kernel) (by decide +kernel)) (e_cons (se_name 1 rfl (by decide +kernel) (by decide +kernel)) (e_nil) rfl) rfl) rfl))) (s_nil)) (s_nil)) (sss_cons (ss_if (st_cmp (se_name 1 rfl (by decide +kernel) (by decide +kernel)) (e_float) rfl) (sss_cons (ss_asg (tn_local 3 rfl (by decide +kernel)) (se_bin (se_name 1 rfl (by decide +kernel) (by decide +kernel)) (se_bin (e_float) (se_name 2 rfl (by decide +kernel) (by decide +kernel)))) (fun _ => rfl)) (s_nil)) (sss_cons (ss_asg (tn_local 3 rfl (by decide +kernel)) (se_bin (se_bin (se_name 1 rfl (by decide +kernel) (by decide +kernel)) (se_name 2 rfl (by decide +kernel) (by decide +kernel))) (se_bin (se_name 1 rfl (by decide +kernel) (by decide +kernel)) (se_name 2 rfl (by decide +kernel) (by decide +kernel)))) (fun _ => rfl)) (s_nil))) (sss_cons (ss_asg (tn_local 4 rfl (by decide +kernel)) (se_bin (se_bin (e_float) (se_name 1 rfl (by decide +kernel) (by decide +kernel))) (se_name 3 rfl (by decide +kernel) (by decide +kernel))) (fun _ => rfl)) (sss_cons (ss_ret (se_tuple (e_cons (se_call H.c_f_v (f_v_ok H) (by decide +kernel) (by decide +kernel) rfl (e_cons (se_name 4 rfl (by decide +kernel) (by decide +kernel)) (e_cons (se_name 3 rfl (by decide +kernel) (by decide +kernel)) (e_cons (se_bin (se_name 0 rfl (by decide +kernel) (by decide +kernel)) (e_glob H.g_ONE_THIRD (by decide +kernel) (by decide +kernel))) (e_nil) rfl) rfl) rfl)) (e_cons (se_call H.c_f_v (f_v_ok H) (by decide +kernel) (by decide +kernel) rfl (e_cons (se_name 4 rfl (by decide +kernel) (by decide +kernel)) (e_cons (se_name 3 rfl (by decide +kernel) (by decide +kernel)) (e_cons (se_name 0 rfl (by decide +kernel) (by decide +kernel)) (e_nil) rfl) rfl) rfl)) (e_cons (se_call H.c_f_v (f_v_ok H) (by decide +kernel) (by decide +kernel) rfl (e_cons (se_name 4 rfl (by decide +kernel) (by decide +kernel)) (e_cons (se_name 3 rfl (by decide +kernel) (by decide +kernel)) (e_cons (se_bin (se_name 0 rfl (by decide +kernel) (by decide +kernel)) (e_glob H.g_ONE_THIRD (by decide +kernel) (by decide +kernel))) (e_nil) rfl) rfl) rfl)) (e_nil) rfl) rfl) rfl))) (s_nil))))
theorem hls_to_rgb_rec : FnRec (defRecAt PySem.Challenge.pw_pe0087_01 7) (["h", "l", "s"] : List Str) (["m2", "m1"] : List Str) where
  nodup := by decide +kernel
  kinds := by decide +kernel
  bind := fun pm cd doc => len3 fun _ _ _ => by kernel_rfl
  co := by decide +kernel
  gen := by decide +kernel
  kind := by decide +kernel
theorem hls_to_rgb_ok {C : Ctx} {ad : Nat → Addr} {n : Nat} (H : Facts1 C ad) : CallOk C (n + 2) (.ref (ad 7)) hls_to_rgb_sp := fn_ok (n := n + 1) (H.r_hls_to_rgb).1 (H.r_hls_to_rgb).2 hls_to_rgb_rec (hls_to_rgb_ss H)

set_option maxHeartbeats 4000000 in
theorem f_law_told_ss {C : Ctx} {ad : Nat → Addr} {n : Nat} (H : Facts1 C ad) : SSs (fun _ => True) C (defRecAt PySem.Challenge.pw_pe0087_01 16).scope ((["data", "row"] : List Str) ++ (["place", "way", "least", "step", "octets", "red", "green", "blue", "told"] : List Str)) (n + 1) true (defRecAt PySem.Challenge.pw_pe0087_01 16).body f_law_told_d :=
  sss_cons (ss_if (st_or (.cons (t_not (t_val (se_isb H.b_isinstance H.b_bytes (by decide +kernel) (by decide +kernel) rfl (se_name 0 rfl (by decide +kernel) (by decide +kernel))) rfl)) (.cons (st_cmp (se_call H.b_len ok_len (by decide +kernel) (by decide +kernel) rfl (e_cons (se_name 0 rfl (by decide +kernel) (by decide +kernel)) (e_nil) rfl)) (se_bin (e_int) (se_call H.b_len ok_len (by decide +kernel) (by decide +kernel) rfl (e_cons (se_name 1 rfl (by decide +kernel) (by decide +kernel)) (e_nil) rfl))) rfl) (.nil)))) (sss_cons (ss_ret (e_bool)) (s_nil)) (s_nil)) (sss_cons (ss_for gok_true (by decide +kernel) (se_call H.b_range ok_range (by decide +kernel) (by decide +kernel) rfl (e_cons (se_call H.b_len ok_len (by decide +kernel) (by decide +kernel) rfl (e_cons (se_name 1 rfl (by decide +kernel) (by decide +kernel)) (e_nil) rfl)) (e_nil) rfl)) (fun _ _ => rfl) (tg_name (tn_local 2 rfl (by decide +kernel))) (.inl ⟨_, _, rfl⟩) (sss_cons (ss_asgT (tg_tuple (.cons (tn_local 3 rfl (by decide +kernel)) (.cons (tn_local 4 rfl (by decide +kernel)) (.cons (tn_local 5 rfl (by decide +kernel)) (.nil))))) (se_item (se_name 1 rfl (by decide +kernel) (by decide +kernel)) (se_name 2 rfl (by decide +kernel) (by decide +kernel)) rfl) (fun _ => rfl) (fun _ => rfl)) (sss_cons (ss_asg (tn_local 6 rfl (by decide +kernel)) (se_call H.b_list ok_list_bytes (by decide +kernel) (by decide +kernel) rfl (e_cons (se_slice (se_name 0 rfl (by decide +kernel) (by decide +kernel)) (o_some (se_bin (e_int) (se_name 2 rfl (by decide +kernel) (by decide +kernel)))) (o_some (se_bin (se_bin (e_int) (se_name 2 rfl (by decide +kernel) (by decide +kernel))) (e_int))) (o_none)) (e_nil) rfl)) (fun _ => rfl)) (sss_cons (ss_if (st_cmp (se_name 6 rfl (by decide +kernel) (by decide +kernel)) (se_call H.c_f_law_octets (f_law_octets_ok H) (by decide +kernel) (by decide +kernel) rfl (e_cons (se_name 3 rfl (by decide +kernel) (by decide +kernel)) (e_cons (se_name 4 rfl (by decide +kernel) (by decide +kernel)) (e_cons (se_name 5 rfl (by decide +kernel) (by decide +kernel)) (e_nil) rfl) rfl) rfl)) rfl) (sss_cons (ss_ret (e_bool)) (s_nil)) (s_nil)) (sss_cons (ss_asgT (tg_tuple (.cons (tn_local 7 rfl (by decide +kernel)) (.cons (tn_local 8 rfl (by decide +kernel)) (.cons (tn_local 9 rfl (by decide +kernel)) (.nil))))) (se_comp1 (lay' := (["octet"] : List Str)) (se_name 6 rfl (by decide +kernel) (by decide +kernel)) (fun _ _ => rfl) (frOk_of (by decide +kernel)) (tg_name (tn_local 0 rfl (by decide +kernel))) (.inl ⟨_, _, rfl⟩) (se_bin (se_name 0 rfl (by decide +kernel) (by decide +kernel)) (e_int))) (fun _ => rfl) (fun _ => rfl)) (sss_cons (ss_asg (tn_local 10 rfl (by decide +kernel)) (se_tuple (e_cons (se_call H.c_rgb_to_hsv (rgb_to_hsv_ok H) (by decide +kernel) (by decide +kernel) rfl (e_cons (se_name 7 rfl (by decide +kernel) (by decide +kernel)) (e_cons (se_name 8 rfl (by decide +kernel) (by decide +kernel)) (e_cons (se_name 9 rfl (by decide +kernel) (by decide +kernel)) (e_nil) rfl) rfl) rfl)) (e_cons (se_call H.c_rgb_to_hls (rgb_to_hls_ok H) (by decide +kernel) (by decide +kernel) rfl (e_cons (se_name 7 rfl (by decide +kernel) (by decide +kernel)) (e_cons (se_name 8 rfl (by decide +kernel) (by decide +kernel)) (e_cons (se_name 9 rfl (by decide +kernel) (by decide +kernel)) (e_nil) rfl) rfl) rfl)) (e_nil) rfl) rfl)) (fun _ => rfl)) (sss_cons (ss_if (st_cmp (se_name 10 rfl (by decide +kernel) (by decide +kernel)) (se_call H.c_f_law_names (f_law_names_ok H) (by decide +kernel) (by decide +kernel) rfl (e_cons (se_name 3 rfl (by decide +kernel) (by decide +kernel)) (e_cons (se_name 4 rfl (by decide +kernel) (by decide +kernel)) (e_cons (se_name 5 rfl (by decide +kernel) (by decide +kernel)) (e_nil) rfl) rfl) rfl)) rfl) (sss_cons (ss_ret (e_bool)) (s_nil)) (s_nil)) (s_nil)))))))) (sss_cons (ss_ret (e_bool)) (s_nil)))
theorem f_law_told_rec : FnRec (defRecAt PySem.Challenge.pw_pe0087_01 16) (["data", "row"] : List Str) (["place", "way", "least", "step", "octets", "red", "green", "blue", "told"] : List Str) where
  nodup := by decide +kernel
  kinds := by decide +kernel
  bind := fun pm cd doc => len2 fun _ _ => by kernel_rfl
  co := by decide +kernel
  gen := by decide +kernel
  kind := by decide +kernel
theorem f_law_told_ok {C : Ctx} {ad : Nat → Addr} {n : Nat} (H : Facts1 C ad) : CallOk C (n + 2) (.ref (ad 16)) f_law_told_sp := fn_ok (n := n + 1) (H.r_f_law_told).1 (H.r_f_law_told).2 f_law_told_rec (f_law_told_ss H)

set_option maxHeartbeats 4000000 in
theorem f_law_seen_ss {C : Ctx} {ad : Nat → Addr} {n : Nat} (H : Facts1 C ad) : SSs (fun _ => True) C (defRecAt PySem.Challenge.pw_pe0087_01 17).scope ((["data"] : List Str) ++ (["ways", "place", "red", "green", "blue"] : List Str)) (n + 1) true (defRecAt PySem.Challenge.pw_pe0087_01 17).body f_law_seen_d :=
  sss_cons (ss_new rfl (by decide +kernel)) (sss_cons (ss_for gok_true (by decide +kernel) (se_call H.b_range ok_range (by decide +kernel) (by decide +kernel) rfl (e_cons (e_int) (e_cons (se_call H.b_len ok_len (by decide +kernel) (by decide +kernel) rfl (e_cons (se_name 0 rfl (by decide +kernel) (by decide +kernel)) (e_nil) rfl)) (e_cons (e_int) (e_nil) rfl) rfl) rfl)) (fun _ _ => rfl) (tg_name (tn_local 2 rfl (by decide +kernel))) (.inl ⟨_, _, rfl⟩) (sss_cons (ss_asgT (tg_tuple (.cons (tn_local 3 rfl (by decide +kernel)) (.cons (tn_local 4 rfl (by decide +kernel)) (.cons (tn_local 5 rfl (by decide +kernel)) (.nil))))) (se_comp1 (lay' := (["octet"] : List Str)) (se_slice (se_name 0 rfl (by decide +kernel) (by decide +kernel)) (o_some (se_name 2 rfl (by decide +kernel) (by decide +kernel))) (o_some (se_bin (se_name 2 rfl (by decide +kernel) (by decide +kernel)) (e_int))) (o_none)) (fun _ _ => rfl) (frOk_of (by decide +kernel)) (tg_name (tn_local 0 rfl (by decide +kernel))) (.inl ⟨_, _, rfl⟩) (se_bin (se_name 0 rfl (by decide +kernel) (by decide +kernel)) (e_int))) (fun _ => rfl) (fun _ => rfl)) (sss_cons (ss_append rfl (se_bin (se_bin (se_bin (se_call H.b_round ok_round (by decide +kernel) (by decide +kernel) rfl (e_cons (se_bin (e_int) (se_item (se_call H.c_rgb_to_hsv (rgb_to_hsv_ok H) (by decide +kernel) (by decide +kernel) rfl (e_cons (se_name 3 rfl (by decide +kernel) (by decide +kernel)) (e_cons (se_name 4 rfl (by decide +kernel) (by decide +kernel)) (e_cons (se_name 5 rfl (by decide +kernel) (by decide +kernel)) (e_nil) rfl) rfl) rfl)) (e_int) rfl)) (e_nil) rfl)) (e_int)) (e_int)) (e_int)) (by decide +kernel) rfl rfl) (s_nil)))) (sss_cons (ss_ret (se_name 1 rfl (by decide +kernel) (by decide +kernel))) (s_nil)))
theorem f_law_seen_rec : FnRec (defRecAt PySem.Challenge.pw_pe0087_01 17) (["data"] : List Str) (["ways", "place", "red", "green", "blue"] : List Str) where
  nodup := by decide +kernel
  kinds := by decide +kernel
  bind := fun pm cd doc => len1 fun _ => by kernel_rfl
  co := by decide +kernel
  gen := by decide +kernel
  kind := by decide +kernel
theorem f_law_seen_ok {C : Ctx} {ad : Nat → Addr} {n : Nat} (H : Facts1 C ad) : CallOk C (n + 2) (.ref (ad 17)) f_law_seen_sp := fn_ok (n := n + 1) (H.r_f_law_seen).1 (H.r_f_law_seen).2 f_law_seen_rec (f_law_seen_ss H)

set_option maxHeartbeats 4000000 in
theorem f_law_painted_ss {C : Ctx} {ad : Nat → Addr} {n : Nat} (H : Facts1 C ad) : SSs (fun _ => True) C (defRecAt PySem.Challenge.pw_pe0087_01 15).scope ((["row"] : List Str) ++ (["by_hsv", "by_hls", "way", "least", "step", "first", "second"] : List Str)) (n + 2) true (defRecAt PySem.Challenge.pw_pe0087_01 15).body f_law_painted_d :=
  sss_cons (ss_new rfl (by decide +kernel)) (sss_cons (ss_new rfl (by decide +kernel)) (sss_cons (ss_for gok_true (by decide +kernel) (se_name 0 rfl (by decide +kernel) (by decide +kernel)) (fun _ _ => rfl) (tg_tuple (.cons (tn_local 3 rfl (by decide +kernel)) (.cons (tn_local 4 rfl (by decide +kernel)) (.cons (tn_local 5 rfl (by decide +kernel)) (.nil))))) (.inr ⟨_, _, _, rfl⟩) (sss_cons (ss_asgT (tg_tuple (.cons (tn_local 6 rfl (by decide +kernel)) (.cons (tn_local 7 rfl (by decide +kernel)) (.nil)))) (se_call H.c_f_law_names (f_law_names_ok H) (by decide +kernel) (by decide +kernel) rfl (e_cons (se_name 3 rfl (by decide +kernel) (by decide +kernel)) (e_cons (se_name 4 rfl (by decide +kernel) (by decide +kernel)) (e_cons (se_name 5 rfl (by decide +kernel) (by decide +kernel)) (e_nil) rfl) rfl) rfl)) (fun _ => rfl) (fun _ => rfl)) (sss_cons (ss_extend rfl (se_comp1 (lay' := (["part"] : List Str)) (se_call H.c_hsv_to_rgb (hsv_to_rgb_ok H) (by decide +kernel) (by decide +kernel) rfl (e_cons (se_item (se_name 6 rfl (by decide +kernel) (by decide +kernel)) (e_int) rfl) (e_cons (se_item (se_name 6 rfl (by decide +kernel) (by decide +kernel)) (e_int) rfl) (e_cons (se_item (se_name 6 rfl (by decide +kernel) (by decide +kernel)) (e_int) rfl) (e_nil) rfl) rfl) rfl)) (fun _ _ => rfl) (frOk_of (by decide +kernel)) (tg_name (tn_local 0 rfl (by decide +kernel))) (.inl ⟨_, _, rfl⟩) (se_call H.b_round ok_round (by decide +kernel) (by decide +kernel) rfl (e_cons (se_bin (e_int) (se_name 0 rfl (by decide +kernel) (by decide +kernel))) (e_nil) rfl))) (by decide +kernel) rfl rfl) (sss_cons (ss_extend rfl (se_comp1 (lay' := (["part"] : List Str)) (se_call H.c_hls_to_rgb (hls_to_rgb_ok H) (by decide +kernel) (by decide +kernel) rfl (e_cons (se_item (se_name 7 rfl (by decide +kernel) (by decide +kernel)) (e_int) rfl) (e_cons (se_item (se_name 7 rfl (by decide +kernel) (by decide +kernel)) (e_int) rfl) (e_cons (se_item (se_name 7 rfl (by decide +kernel) (by decide +kernel)) (e_int) rfl) (e_nil) rfl) rfl) rfl)) (fun _ _ => rfl) (frOk_of (by decide +kernel)) (tg_name (tn_local 0 rfl (by decide +kernel))) (.inl ⟨_, _, rfl⟩) (se_call H.b_round ok_round (by decide +kernel) (by decide +kernel) rfl (e_cons (se_bin (e_int) (se_name 0 rfl (by decide +kernel) (by decide +kernel))) (e_nil) rfl))) (by decide +kernel) rfl rfl) (s_nil))))) (sss_cons (ss_ret (se_tuple (e_cons (se_name 1 rfl (by decide +kernel) (by decide +kernel)) (e_cons (se_name 2 rfl (by decide +kernel) (by decide +kernel)) (e_nil) rfl) rfl))) (s_nil))))
theorem f_law_painted_rec : FnRec (defRecAt PySem.Challenge.pw_pe0087_01 15) (["row"] : List Str) (["by_hsv", "by_hls", "way", "least", "step", "first", "second"] : List Str) where
  nodup := by decide +kernel
  kinds := by decide +kernel
  bind := fun pm cd doc => len1 fun _ => by kernel_rfl
  co := by decide +kernel
  gen := by decide +kernel
  kind := by decide +kernel
theorem f_law_painted_ok {C : Ctx} {ad : Nat → Addr} {n : Nat} (H : Facts1 C ad) : CallOk C (n + 3) (.ref (ad 15)) f_law_painted_sp := fn_ok (n := n + 2) (H.r_f_law_painted).1 (H.r_f_law_painted).2 f_law_painted_rec (f_law_painted_ss H)

set_option maxHeartbeats 4000000 in
theorem law_ss {C : Ctx} {ad : Nat → Addr} {n : Nat} (H : Facts1 C ad) : SSs OkG C (defRecAt PySem.Challenge.pw_pe0087_01 18).scope ((["script"] : List Str) ++ (["row", "data", "first", "now", "turns", "last", "ways", "sizes", "place", "front", "counts", "count", "painted", "back"] : List Str)) (n + 3) true (defRecAt PySem.Challenge.pw_pe0087_01 18).body law_d :=
  sss_cons (ss_asg (tn_local 1 rfl (by decide +kernel)) (se_call H.c_f_law_row (f_law_row_ok H) (by decide +kernel) (by decide +kernel) rfl (e_cons (se_name 0 rfl (by decide +kernel) (by decide +kernel)) (e_nil) rfl)) (fun _ => rfl)) (sss_cons (ss_asg (tn_local 2 rfl (by decide +kernel)) (se_call H.b_bytes ok_bytes (by decide +kernel) (by decide +kernel) rfl (e_cons (se_comp2 (lay' := (["way", "least", "step"] : List Str)) (lay2 := (["part"] : List Str)) (se_name 1 rfl (by decide +kernel) (by decide +kernel)) (fun _ _ => rfl) (frOk_of (by decide +kernel)) (tg_tuple (.cons (tn_local 0 rfl (by decide +kernel)) (.cons (tn_local 1 rfl (by decide +kernel)) (.cons (tn_local 2 rfl (by decide +kernel)) (.nil))))) (.inr ⟨_, _, _, rfl⟩) (se_call H.c_f_law_octets (f_law_octets_ok H) (by decide +kernel) (by decide +kernel) rfl (e_cons (se_name 0 rfl (by decide +kernel) (by decide +kernel)) (e_cons (se_name 1 rfl (by decide +kernel) (by decide +kernel)) (e_cons (se_name 2 rfl (by decide +kernel) (by decide +kernel)) (e_nil) rfl) rfl) rfl)) (fun _ _ => rfl) (by decide +kernel) (by decide +kernel) (tg_name (tn_local 0 rfl (by decide +kernel))) (.inl ⟨_, _, rfl⟩) (se_name 0 rfl (by decide +kernel) (by decide +kernel))) (e_nil) rfl)) (fun _ => rfl)) (sss_cons (ss_asg (tn_local 3 rfl (by decide +kernel)) (se_name 2 rfl (by decide +kernel) (by decide +kernel)) (fun _ => rfl)) (sss_cons (ss_if (st_or (.cons (t_not (t_val (se_call H.c_f_law_told (f_law_told_ok H) (by decide +kernel) (by decide +kernel) rfl (e_cons (se_name 2 rfl (by decide +kernel) (by decide +kernel)) (e_cons (se_name 1 rfl (by decide +kernel) (by decide +kernel)) (e_nil) rfl) rfl)) rfl)) (.cons (st_cmp (se_call H.c_f_law_painted (f_law_painted_ok H) (by decide +kernel) (by decide +kernel) rfl (e_cons (se_name 1 rfl (by decide +kernel) (by decide +kernel)) (e_nil) rfl)) (se_tuple (e_cons (se_call H.b_list ok_list_bytes (by decide +kernel) (by decide +kernel) rfl (e_cons (se_name 2 rfl (by decide +kernel) (by decide +kernel)) (e_nil) rfl)) (e_cons (se_call H.b_list ok_list_bytes (by decide +kernel) (by decide +kernel) rfl (e_cons (se_name 2 rfl (by decide +kernel) (by decide +kernel)) (e_nil) rfl)) (e_nil) rfl) rfl)) rfl) (.nil)))) (sss_cons (ss_ret (e_bool)) (s_nil)) (s_nil)) (sss_cons (ss_asg (tn_local 4 rfl (by decide +kernel)) (se_name 1 rfl (by decide +kernel) (by decide +kernel)) (fun _ => rfl)) (sss_cons (ss_new rfl (by decide +kernel)) (sss_cons (ss_for gok_ok (by decide +kernel) (se_call H.b_range ok_range (by decide +kernel) (by decide +kernel) rfl (e_cons (se_call H.b_len ok_len (by decide +kernel) (by decide +kernel) rfl (e_cons (se_name 1 rfl (by decide +kernel) (by decide +kernel)) (e_nil) rfl)) (e_cons (e_int) (e_cons (e_neg (e_int)) (e_nil) rfl) rfl) rfl)) (fun _ _ => rfl) (tg_name (tn_local 6 rfl (by decide +kernel))) (.inl ⟨_, _, rfl⟩) (sss_cons (ss_asg (tn_local 7 rfl (by decide +kernel)) (se_slice (se_call H.c_f_law_seen (f_law_seen_ok H) (by decide +kernel) (by decide +kernel) rfl (e_cons (se_name 2 rfl (by decide +kernel) (by decide +kernel)) (e_nil) rfl)) (o_none) (o_some (se_name 6 rfl (by decide +kernel) (by decide +kernel))) (o_none)) (fun _ => rfl)) (sss_cons (ss_asgC (own := true) (lay' := (["way"] : List Str)) rfl (by decide +kernel) (swaps_ok (by decide +kernel) (by decide +kernel)) (se_name 7 rfl (by decide +kernel) (by decide +kernel)) (fun _ _ => rfl) (frOk_of (by decide +kernel)) (tg_name (tn_local 0 rfl (by decide +kernel))) (.inl ⟨_, _, rfl⟩) (se_call H.b_abs ok_abs (by decide +kernel) (by decide +kernel) rfl (e_cons (se_name 0 rfl (by decide +kernel) (by decide +kernel)) (e_nil) rfl))) (sss_cons (ss_index (tn_local 9 rfl (by decide +kernel)) rfl (by decide +kernel) rfl rfl (se_call H.b_max ok_max (by decide +kernel) (by decide +kernel) rfl (e_cons (se_name 8 rfl (by decide +kernel) (by decide +kernel)) (e_nil) rfl))) (sss_cons (ss_asg (tn_local 10 rfl (by decide +kernel)) (se_item (se_name 7 rfl (by decide +kernel) (by decide +kernel)) (se_name 9 rfl (by decide +kernel) (by decide +kernel)) rfl) (fun _ => rfl)) (sss_cons (ss_new rfl (by decide +kernel)) (sss_cons (ss_if (st_or (.cons (st_cmp (se_name 9 rfl (by decide +kernel) (by decide +kernel)) (se_bin (se_name 6 rfl (by decide +kernel) (by decide +kernel)) (e_int)) rfl) (.cons (st_cmp (se_name 10 rfl (by decide +kernel) (by decide +kernel)) (e_int) rfl) (.nil)))) (sss_cons (ss_if (st_cmp (se_name 9 rfl (by decide +kernel) (by decide +kernel)) (e_int) rfl) (sss_cons (ss_append rfl (se_bin (se_name 9 rfl (by decide +kernel) (by decide +kernel)) (e_int)) (by decide +kernel) rfl rfl) (sss_cons (ss_asg (tn_local 10 rfl (by decide +kernel)) (e_neg (se_name 10 rfl (by decide +kernel) (by decide +kernel))) (fun _ => rfl)) (s_nil))) (s_nil)) (sss_cons (ss_if (st_cmp (se_name 10 rfl (by decide +kernel) (by decide +kernel)) (e_int) rfl) (sss_cons (ss_append rfl (e_int) (by decide +kernel) rfl rfl) (s_nil)) (s_nil)) (sss_cons (ss_append rfl (se_name 6 rfl (by decide +kernel) (by decide +kernel)) (by decide +kernel) rfl rfl) (s_nil)))) (s_nil)) (sss_cons (ss_for gok_ok (by decide +kernel) (se_name 11 rfl (by decide +kernel) (by decide +kernel)) (fun _ _ => rfl) (tg_name (tn_local 12 rfl (by decide +kernel))) (.inl ⟨_, _, rfl⟩) (sss_cons (ss_asgG (tn_local 2 rfl (by decide +kernel)) (seg_bin (seg_call H.c_f_byteswap (f_byteswap_ok H) (by decide +kernel) (by decide +kernel) rfl (e_cons (se_slice (se_name 2 rfl (by decide +kernel) (by decide +kernel)) (o_none) (o_some (se_bin (e_int) (se_name 12 rfl (by decide +kernel) (by decide +kernel)))) (o_none)) (e_cons (se_bin (e_int) (se_name 12 rfl (by decide +kernel) (by decide +kernel))) (e_nil) rfl) rfl)) (se_slice (se_name 2 rfl (by decide +kernel) (by decide +kernel)) (o_some (se_bin (e_int) (se_name 12 rfl (by decide +kernel) (by decide +kernel)))) (o_none) (o_none))) (fun _ => rfl)) (sss_cons (ss_asg (tn_local 4 rfl (by decide +kernel)) (se_bin (se_comp1 (lay' := (["way", "least", "step"] : List Str)) (se_slice (se_slice (se_name 4 rfl (by decide +kernel) (by decide +kernel)) (o_none) (o_some (se_name 12 rfl (by decide +kernel) (by decide +kernel))) (o_none)) (o_none) (o_none) (o_some (e_neg (e_int)))) (fun _ _ => rfl) (frOk_of (by decide +kernel)) (tg_tuple (.cons (tn_local 0 rfl (by decide +kernel)) (.cons (tn_local 1 rfl (by decide +kernel)) (.cons (tn_local 2 rfl (by decide +kernel)) (.nil))))) (.inr ⟨_, _, _, rfl⟩) (se_tuple (e_cons (e_neg (se_name 0 rfl (by decide +kernel) (by decide +kernel))) (e_cons (se_name 1 rfl (by decide +kernel) (by decide +kernel)) (e_cons (se_name 2 rfl (by decide +kernel) (by decide +kernel)) (e_nil) rfl) rfl) rfl))) (se_slice (se_name 4 rfl (by decide +kernel) (by decide +kernel)) (o_some (se_name 12 rfl (by decide +kernel) (by decide +kernel))) (o_none) (o_none))) (fun _ => rfl)) (sss_cons (ss_if (t_not (t_val (se_call H.c_f_law_told (f_law_told_ok H) (by decide +kernel) (by decide +kernel) rfl (e_cons (se_name 2 rfl (by decide +kernel) (by decide +kernel)) (e_cons (se_name 4 rfl (by decide +kernel) (by decide +kernel)) (e_nil) rfl) rfl)) rfl)) (sss_cons (ss_ret (e_bool)) (s_nil)) (s_nil)) (s_nil))))) (sss_cons (ss_extend rfl (se_name 11 rfl (by decide +kernel) (by decide +kernel)) (by decide +kernel) rfl rfl) (s_nil)))))))))) (sss_cons (ss_asg (tn_local 13 rfl (by decide +kernel)) (se_call H.c_f_law_painted (f_law_painted_ok H) (by decide +kernel) (by decide +kernel) rfl (e_cons (se_call H.b_sorted ok_sorted (by decide +kernel) (by decide +kernel) rfl (e_cons (se_comp1 (lay' := (["way", "least", "step"] : List Str)) (se_name 1 rfl (by decide +kernel) (by decide +kernel)) (fun _ _ => rfl) (frOk_of (by decide +kernel)) (tg_tuple (.cons (tn_local 0 rfl (by decide +kernel)) (.cons (tn_local 1 rfl (by decide +kernel)) (.cons (tn_local 2 rfl (by decide +kernel)) (.nil))))) (.inr ⟨_, _, _, rfl⟩) (se_tuple (e_cons (se_call H.b_abs ok_abs (by decide +kernel) (by decide +kernel) rfl (e_cons (se_name 0 rfl (by decide +kernel) (by decide +kernel)) (e_nil) rfl)) (e_cons (se_name 1 rfl (by decide +kernel) (by decide +kernel)) (e_cons (se_name 2 rfl (by decide +kernel) (by decide +kernel)) (e_nil) rfl) rfl) rfl))) (e_nil) rfl)) (e_nil) rfl)) (fun _ => rfl)) (sss_cons (ss_if (st_cmp (se_name 13 rfl (by decide +kernel) (by decide +kernel)) (se_tuple (e_cons (se_call H.b_list ok_list_bytes (by decide +kernel) (by decide +kernel) rfl (e_cons (se_name 2 rfl (by decide +kernel) (by decide +kernel)) (e_nil) rfl)) (e_cons (se_call H.b_list ok_list_bytes (by decide +kernel) (by decide +kernel) rfl (e_cons (se_name 2 rfl (by decide +kernel) (by decide +kernel)) (e_nil) rfl)) (e_nil) rfl) rfl)) rfl) (sss_cons (ss_ret (e_bool)) (s_nil)) (s_nil)) (sss_cons (ss_asg (tn_local 14 rfl (by decide +kernel)) (se_call H.b_bytes ok_bytes (by decide +kernel) (by decide +kernel) rfl (e_cons (se_item (se_name 13 rfl (by decide +kernel) (by decide +kernel)) (e_int) rfl) (e_nil) rfl)) (fun _ => rfl)) (sss_cons (ss_for gok_ok (by decide +kernel) (se_slice (se_name 5 rfl (by decide +kernel) (by decide +kernel)) (o_none) (o_none) (o_some (e_neg (e_int)))) (fun _ _ => rfl) (tg_name (tn_local 12 rfl (by decide +kernel))) (.inl ⟨_, _, rfl⟩) (sss_cons (ss_asgG (tn_local 14 rfl (by decide +kernel)) (seg_bin (seg_call H.c_f_byteswap (f_byteswap_ok H) (by decide +kernel) (by decide +kernel) rfl (e_cons (se_slice (se_name 14 rfl (by decide +kernel) (by decide +kernel)) (o_none) (o_some (se_bin (e_int) (se_name 12 rfl (by decide +kernel) (by decide +kernel)))) (o_none)) (e_cons (se_bin (e_int) (se_name 12 rfl (by decide +kernel) (by decide +kernel))) (e_nil) rfl) rfl)) (se_slice (se_name 14 rfl (by decide +kernel) (by decide +kernel)) (o_some (se_bin (e_int) (se_name 12 rfl (by decide +kernel) (by decide +kernel)))) (o_none) (o_none))) (fun _ => rfl)) (s_nil))) (sss_cons (ss_ret (e_cmp (se_name 14 rfl (by decide +kernel) (by decide +kernel)) (se_name 3 rfl (by decide +kernel) (by decide +kernel)) rfl)) (s_nil))))))))))))
theorem law_rec : FnRec (defRecAt PySem.Challenge.pw_pe0087_01 18) (["script"] : List Str) (["row", "data", "first", "now", "turns", "last", "ways", "sizes", "place", "front", "counts", "count", "painted", "back"] : List Str) where
  nodup := by decide +kernel
  kinds := by decide +kernel
  bind := fun pm cd doc => len1 fun _ => by kernel_rfl
  co := by decide +kernel
  gen := by decide +kernel
  kind := by decide +kernel
noncomputable def idxs : List Nat := [1, 6, 8, 9, 10, 12, 13, 14, 7, 16, 17, 15, 18]
noncomputable def bnames : List Str := ["len", "abs", "round", "int", "max", "min", "range", "bytes", "list", "sorted", "bytearray", "isinstance"]
theorem facts_of {C : Ctx} {h : Heap} (g : C.Gl h) (hrec : ∀ i ∈ idxs, defRecAt PySem.Challenge.pw_pe0087_01 i ∈ recsOf C.p) (hnone : ∀ x ∈ bnames, C.mg x = none) (h_ONE_THIRD : ∃ t : Tok, t ≠ 0 ∧ C.mg "ONE_THIRD" = some (.float 4599676419421066581 t)) (h_ONE_SIXTH : ∃ t : Tok, t ≠ 0 ∧ C.mg "ONE_SIXTH" = some (.float 4595172819793696085 t)) (h_TWO_THIRD : ∃ t : Tok, t ≠ 0 ∧ C.mg "TWO_THIRD" = some (.float 4604180019048437077 t)) : ∃ ad, Facts1 C ad := by
  obtain ⟨a1, m1, k1⟩ := fn_fact g (hrec 1 (by decide +kernel))
  obtain ⟨a6, m6, k6⟩ := fn_fact g (hrec 6 (by decide +kernel))
  obtain ⟨a8, m8, k8⟩ := fn_fact g (hrec 8 (by decide +kernel))
  obtain ⟨a9, m9, k9⟩ := fn_fact g (hrec 9 (by decide +kernel))
  obtain ⟨a10, m10, k10⟩ := fn_fact g (hrec 10 (by decide +kernel))
  obtain ⟨a12, m12, k12⟩ := fn_fact g (hrec 12 (by decide +kernel))
  obtain ⟨a13, m13, k13⟩ := fn_fact g (hrec 13 (by decide +kernel))
  obtain ⟨a14, m14, k14⟩ := fn_fact g (hrec 14 (by decide +kernel))
  obtain ⟨a7, m7, k7⟩ := fn_fact g (hrec 7 (by decide +kernel))
  obtain ⟨a16, m16, k16⟩ := fn_fact g (hrec 16 (by decide +kernel))
  obtain ⟨a17, m17, k17⟩ := fn_fact g (hrec 17 (by decide +kernel))
  obtain ⟨a15, m15, k15⟩ := fn_fact g (hrec 15 (by decide +kernel))
  obtain ⟨a18, m18, k18⟩ := fn_fact g (hrec 18 (by decide +kernel))
  exact ⟨fun i => if i = 1 then a1 else if i = 6 then a6 else if i = 8 then a8 else if i = 9 then a9 else if i = 10 then a10 else if i = 12 then a12 else if i = 13 then a13 else if i = 14 then a14 else if i = 7 then a7 else if i = 16 then a16 else if i = 17 then a17 else if i = 15 then a15 else if i = 18 then a18 else 0, {
    b_len := Callee.builtin (hnone _ (by decide +kernel)) ((g.top.builtins _ (by decide +kernel)).trans (by kernel_rfl)) rfl
    b_abs := Callee.builtin (hnone _ (by decide +kernel)) ((g.top.builtins _ (by decide +kernel)).trans (by kernel_rfl)) rfl
    b_round := Callee.builtin (hnone _ (by decide +kernel)) ((g.top.builtins _ (by decide +kernel)).trans (by kernel_rfl)) rfl
    b_int := Callee.builtin (hnone _ (by decide +kernel)) ((g.top.builtins _ (by decide +kernel)).trans (by kernel_rfl)) rfl
    b_max := Callee.builtin (hnone _ (by decide +kernel)) ((g.top.builtins _ (by decide +kernel)).trans (by kernel_rfl)) rfl
    b_min := Callee.builtin (hnone _ (by decide +kernel)) ((g.top.builtins _ (by decide +kernel)).trans (by kernel_rfl)) rfl
    b_range := Callee.builtin (hnone _ (by decide +kernel)) ((g.top.builtins _ (by decide +kernel)).trans (by kernel_rfl)) rfl
    b_bytes := Callee.builtin (hnone _ (by decide +kernel)) ((g.top.builtins _ (by decide +kernel)).trans (by kernel_rfl)) rfl
    b_list := Callee.builtin (hnone _ (by decide +kernel)) ((g.top.builtins _ (by decide +kernel)).trans (by kernel_rfl)) rfl
    b_sorted := Callee.builtin (hnone _ (by decide +kernel)) ((g.top.builtins _ (by decide +kernel)).trans (by kernel_rfl)) rfl
    b_bytearray := Callee.builtin (hnone _ (by decide +kernel)) ((g.top.builtins _ (by decide +kernel)).trans (by kernel_rfl)) rfl
    b_isinstance := Callee.builtin (hnone _ (by decide +kernel)) ((g.top.builtins _ (by decide +kernel)).trans (by kernel_rfl)) rfl
    g_ONE_THIRD := h_ONE_THIRD
    g_ONE_SIXTH := h_ONE_SIXTH
    g_TWO_THIRD := h_TWO_THIRD
    c_f_byteswap := k1
    r_f_byteswap := ⟨hrec 1 (by decide +kernel), m1⟩
    c_rgb_to_hls := k6
    r_rgb_to_hls := ⟨hrec 6 (by decide +kernel), m6⟩
    c_f_v := k8
    r_f_v := ⟨hrec 8 (by decide +kernel), m8⟩
    c_rgb_to_hsv := k9
    r_rgb_to_hsv := ⟨hrec 9 (by decide +kernel), m9⟩
    c_hsv_to_rgb := k10
    r_hsv_to_rgb := ⟨hrec 10 (by decide +kernel), m10⟩
    c_f_law_row := k12
    r_f_law_row := ⟨hrec 12 (by decide +kernel), m12⟩
    c_f_law_octets := k13
    r_f_law_octets := ⟨hrec 13 (by decide +kernel), m13⟩
    c_f_law_names := k14
    r_f_law_names := ⟨hrec 14 (by decide +kernel), m14⟩
    c_hls_to_rgb := k7
    r_hls_to_rgb := ⟨hrec 7 (by decide +kernel), m7⟩
    c_f_law_told := k16
    r_f_law_told := ⟨hrec 16 (by decide +kernel), m16⟩
    c_f_law_seen := k17
    r_f_law_seen := ⟨hrec 17 (by decide +kernel), m17⟩
    c_f_law_painted := k15
    r_f_law_painted := ⟨hrec 15 (by decide +kernel), m15⟩
    c_law := k18
    r_law := ⟨hrec 18 (by decide +kernel), m18⟩
  }⟩
end L1
end Mine

end
section
open PySem PySem.W PySem.Calls PyProof.Rows
set_option linter.unusedVariables false
namespace Mine
theorem join1 {q : Program} {loose : List Str} {XP : (Str → Option Value) → Heap → Prop} {kwd : List (Str × Expr)}
    (hrec' : recsOf q = ([1, 6, 7, 8, 9, 10, 12, 13, 14, 15, 16, 17, 18] : List Nat).map (defRecAt PySem.Challenge.pw_pe0087_01)) (hfree : qFreeB q loose L1.bnames = true) :
    WalkZ q loose XP hook0.says PySem.Challenge.rw_pe0087_01.row.toRowW (defRecAt PySem.Challenge.pw_pe0087_01 18) kwd := by
  have hrec : ∀ i ∈ L1.idxs, defRecAt PySem.Challenge.pw_pe0087_01 i ∈ recsOf q := fun i hi => by
    rw [hrec']
    exact List.mem_map.mpr ⟨i, (show ∀ i ∈ L1.idxs, i ∈ ([1, 6, 7, 8, 9, 10, 12, 13, 14, 15, 16, 17, 18] : List Nat) from by decide +kernel) i hi, rfl⟩
  have hgl : ∀ w s₀ mg mb h, Ground q loose [] XP w s₀ mg mb h → hook0.says w h → Ctx.Gl ⟨PySem.Challenge.rw_pe0087_01.prog, w, q, looseW q loose, ExcName.means s₀.heap, mg, mb⟩ h := fun w s₀ mg mb h Gr Y => ⟨Gr.T, none_booked Y⟩
  refine join (l := PySem.Challenge.rw_pe0087_01) (n := 6) (x := "script") rfl rfl ⟨rfl, by decide +kernel, by decide +kernel⟩ (hrec 18 (by decide +kernel)) L1.law_rec (by decide +kernel) hgl (fun w s₀ mg mb h Gr Y => ?_) pure1
  obtain ⟨x1, x2, x3⟩ := flts_at Y Gr.T.g
  obtain ⟨ad, H⟩ := L1.facts_of (hgl w s₀ mg mb h Gr Y) hrec (fun x hx => let f := qfree_of hfree x hx; Gr.T.free x f.a f.b f.c f.d f.e) (flt_at x1) (flt_at x2) (flt_at x3)
  exact L1.law_ss H
set_option maxRecDepth 100000 in
set_option maxHeartbeats 8000000 in
theorem main1 : PySem.Challenge.rw_pe0087_01.Holds := by
  w_on; o_law; o_head hook0
  case hw => w_witness2
  refine join1 ?hrec ?hfree
  case hrec => kernel_rfl
  case hfree => decide +kernel
end Mine

end
set_option maxRecDepth 100000 in
set_option maxHeartbeats 8000000 in
theorem PySem.Challenge.cw_pe0087_01_holds : PySem.Challenge.rw_pe0087_01.Holds := by
  exact Mine.main1
