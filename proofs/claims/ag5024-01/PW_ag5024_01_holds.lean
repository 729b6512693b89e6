import PyProof.Rows.All
import Wide.All
import OpenK.AllK
import Wide.FinOn
import Lean
import PySem.Challenge.RW_ag5024_01
set_option Elab.async false

noncomputable section
open PySem PySem.Calls PySem.W PyProof.Rows
set_option maxRecDepth 100000
namespace Mine

/-! ## what a step keeps: every object but the tables of the code objects -/
def isTab (o : Obj) : Bool := match o.cls, o.data with
  | .none, .fields _ => true
  | _, _ => false
def Ext (h h' : Heap) : Prop := ∀ b o, isTab o = false → h.get? b = some o → h'.get? b = some o
def Keep (h h' : Heap) : Prop := ∀ b o, h.get? b = some o → h'.get? b = some o
theorem Ext.refl (h : Heap) : Ext h h := fun _ _ _ e => e
theorem Ext.trans {h h' h'' : Heap} (x : Ext h h') (y : Ext h' h'') : Ext h h'' := fun b o t e => y b o t (x b o t e)
theorem Ext.of_keep {h h' : Heap} (k : Keep h h') : Ext h h' := fun b o _ e => k b o e
theorem isTab_dict {o : Obj} {es n} (h : o.data = .dict es n) : isTab o = false := by
  obtain ⟨c, d, dt, sl⟩ := o; cases h; cases c <;> rfl
theorem isTab_cell {o : Obj} {v} (h : o.data = .cell v) : isTab o = false := by
  obtain ⟨c, d, dt, sl⟩ := o; cases h; cases c <;> rfl
theorem isTab_seq {o : Obj} {v n} (h : o.data = .seq v n) : isTab o = false := by
  obtain ⟨c, d, dt, sl⟩ := o; cases h; cases c <;> rfl
theorem isTab_cls {o : Obj} (h : o.cls ≠ .none) : isTab o = false := by
  obtain ⟨c, d, dt, sl⟩ := o; cases c <;> first | rfl | exact absurd rfl h
theorem Ext.ns {h h' : Heap} {a : Addr} {m} (x : Ext h h') (n : h.Ns a m) : h'.Ns a m :=
  let ⟨o, es, ep, ho, hd, r⟩ := n; ⟨o, es, ep, x _ _ (isTab_dict hd) ho, hd, r⟩
theorem Ext.cell {h h' : Heap} {a : Addr} {v} (x : Ext h h') (n : h.IsCell a v) : h'.IsCell a v :=
  let ⟨o, ho, hd⟩ := n; ⟨o, x _ _ (isTab_cell hd) ho, hd⟩
theorem Ext.list {h h' : Heap} {a : Addr} {v} (x : Ext h h') (n : h.IsList a v) : h'.IsList a v :=
  let ⟨o, ho, hc, r⟩ := n; ⟨o, x _ _ (isTab_cls (by rw [hc]; nofun)) ho, hc, r⟩

/-! ## the states that the call may be in -/
def TabOk (h : Heap) (c P : Addr) (pos : Pos) : Prop :=
  ∃ ps, h.IsCode c P ps ∧ h.TableAt c P ps ∧ (ps = #[] ∨ ∃ c', ps = #[rawInt pos.line, rawInt pos.col, .ref c'])
theorem TabOk.keep {h h' : Heap} {c P : Addr} {pos : Pos} (x : TabOk h c P pos) (k : Keep h h') : TabOk h' c P pos :=
  let ⟨ps, a, b, r⟩ := x; ⟨ps, a.keeps k, b.keeps k, r⟩
theorem TabOk.extBut {h h' : Heap} {c P a : Addr} {pos : Pos} (x : TabOk h c P pos) (hs : Heap.ExtBut a h h') (hc : c ≠ a) (hP : P ≠ a) : TabOk h' c P pos :=
  let ⟨ps, y, z, r⟩ := x; ⟨ps, y.extBut hs hc hP, z.extBut hs hc hP, r⟩
theorem TabOk.ne {h : Heap} {c P : Addr} {pos : Pos} (x : TabOk h c P pos) : h.get? c ≠ none ∧ h.get? P ≠ none := by
  obtain ⟨ps, _, ⟨⟨o, vs, a, _⟩, b⟩, _⟩ := x
  exact ⟨by rw [a]; nofun, by rw [b]; nofun⟩
/-- the two code objects whose text holds a generator expression: code, table, place -/
def TT : List (Addr × Addr × Pos) := [(169, 167, ⟨100, 15, 100, 58⟩), (300, 296, ⟨178, 20, 178, 64⟩)]

structure Base (K : Frag) (mg mb : Str → Option Value) (s₁ : Shared) : Prop where
  kin : K.In s₁.heap
  notab : ∀ a o, K.lookup a = some o → isTab o = false
  g : s₁.heap.Ns mainGlobals mg
  b : s₁.heap.Ns builtinsNs mb
  bi : ∀ x : Str, x ≠ "__name__" → mb x = bootBuiltins x
  lim : s₁.heap.NoLimit
  tat : ∀ t ∈ TT, TabOk s₁.heap t.1 t.2.1 t.2.2

structure Good (s₁ s : Shared) : Prop where
  ext : Ext s₁.heap s.heap
  old : OldK s₁.heap s.heap
  os : s.os = s₁.os
  gens : AllBare s₁.gens → AllBare s.gens
  tabs : ∀ t ∈ TT, TabOk s.heap t.1 t.2.1 t.2.2

section
variable {K : Frag} {mg mb : Str → Option Value} {s₁ s : Shared}
theorem old_same {h₀ h h' : Heap} {a : Addr} (K : OldK h₀ h) (ha : h₀.get? a = none) (hs : Heap.SameBut a h h') : OldK h₀ h' := by
  have ne : ∀ b o, h₀.get? b = some o → b ≠ a := fun b o e q => by rw [q, ha] at e; cases e
  have same : ∀ b o, h₀.get? b = some o → h'.get? b = h.get? b := fun b o e => hs.2 b (ne b o e)
  constructor
  · intro b o e
    have q := same b o e
    have z := K.old b o e
    unfold asItWas at z ⊢
    rw [q]
    refine z.imp id (Or.imp id ?_)
    rintro ⟨rfl, r⟩
    refine ⟨rfl, r.1, r.2.1, fun key => ?_⟩
    rw [OldK.staticOf_congr q]; exact r.2.2 key
  · intro b o e
    rw [same b o e]; exact K.there b o e
theorem Good.keep (G : Good s₁ s) {h' : Heap} {tk : Nat} (k : Keep s.heap h') : Good s₁ { s with heap := h', toks := tk } :=
  ⟨G.ext.trans (.of_keep k), G.old.step_keeps k, G.os, G.gens, fun t ht => (G.tabs t ht).keep k⟩
theorem Good.tok (G : Good s₁ s) (tk : Nat) : Good s₁ { s with toks := tk } := ⟨G.ext, G.old, G.os, G.gens, G.tabs⟩
theorem Good.fresh (G : Good s₁ s) {a : Addr} (ha : s.heap.get? a = none) : s₁.heap.get? a = none := by
  cases e : s₁.heap.get? a with
  | none => rfl
  | some o => obtain ⟨o', q⟩ := G.old.there a o e; rw [ha] at q; cases q
theorem get_size (h : Heap) : h.get? h.objs.size = none := by
  cases e : h.get? h.objs.size with
  | none => rfl
  | some o => exact absurd (Heap.lt_size e) (Nat.lt_irrefl _)
theorem Good.same (G : Good s₁ s) (B : Base K mg mb s₁) {h' : Heap} {tk : Nat} {a : Addr} (ha : s₁.heap.get? a = none) (hs : Heap.SameBut a s.heap h') : Good s₁ { s with heap := h', toks := tk } := by
  refine ⟨fun b o t e => hs.extBut b o (fun q => by rw [q, ha] at e; cases e) (G.ext b o t e), old_same G.old ha hs, G.os, G.gens, fun t ht => ?_⟩
  have := (B.tat t ht).ne
  exact (G.tabs t ht).extBut hs.extBut (fun q => this.1 (q ▸ ha)) (fun q => this.2 (q ▸ ha))
theorem Good.kin (G : Good s₁ s) (B : Base K mg mb s₁) : K.In s.heap := fun a o e => G.ext _ _ (B.notab a o e) (B.kin a o e)
theorem Good.lim (G : Good s₁ s) (B : Base K mg mb s₁) : s.heap.NoLimit := let ⟨mc, hn, r⟩ := B.lim; ⟨mc, G.ext.ns hn, r⟩
theorem Good.g (G : Good s₁ s) (B : Base K mg mb s₁) : s.heap.Ns mainGlobals mg := G.ext.ns B.g
theorem Good.b (G : Good s₁ s) (B : Base K mg mb s₁) : s.heap.Ns builtinsNs mb := G.ext.ns B.b
theorem Good.init (hs : ∀ t ∈ TT, TabOk s₁.heap t.1 t.2.1 t.2.2) : Good s₁ s₁ := ⟨.refl _, .refl _, rfl, id, hs⟩
end

structure Room (A : Around) (d u : Nat) : Prop where
  h : A.handled = none
  d : A.depth + d < recursionLimit
  u : A.units + u < cLine
theorem Room.deeper {A : Around} {d u : Nat} (r : Room A (d + 1) (u + 3)) (env : Env) : Room (A.deeper env) d u := ⟨r.h, by have := r.d; show A.depth + 1 + d < _; omega, by have := r.u; show A.units + 3 + u < _; omega⟩
theorem Room.in1 {A : Around} {d u : Nat} (r : Room A d (u + 1)) : Room A.in1 d u := ⟨r.h, r.d, by have := r.u; show A.units + 1 + u < _; omega⟩
theorem Room.le {A : Around} {d u d' u' : Nat} (r : Room A d u) (hd : d' ≤ d := by decide) (hu : u' ≤ u := by decide) : Room A d' u' := ⟨r.h, by have := r.d; omega, by have := r.u; omega⟩
theorem Room.depth {A : Around} {d u : Nat} (r : Room A d u) : A.depth < recursionLimit := by have := r.d; omega
theorem Room.units {A : Around} {d u : Nat} (r : Room A d u) : A.units < cLine := by have := r.u; omega

/-! ## the text's defs -/
abbrev PG : Program := PySem.Challenge.pw_ag5024_01
structure FD where
  params : Arguments
  body : List Stmt
  scope : Scope
def fdOf : Stmt → FD
  | .FunctionDef _ a b _ _ _ sc _ _ _ => ⟨a, b, sc⟩
  | _ => ⟨default, [], default⟩
def topAt (i : Nat) : Stmt := PG.main.body.getD i (.Pass default)
def inCls (j : Nat) : Stmt → Stmt
  | .ClassDef _ _ _ b _ _ _ _ _ _ _ => b.getD j (.Pass default)
  | _ => .Pass default

structure FnIn (K : Frag) (f : Addr) (qual : Str) (fd : FD) (dV : Value) (cd : Addr) : Prop where
  at_ : ∃ oc od osl nm doc pm an ct, K.lookup f = some ⟨oc, od, .func (fnOf nm qual fd.params fd.body fd.scope dV .none doc pm an (.ref cd) ct), osl⟩
  code : codeIn K (.ref cd) qual = true
  keep : keepIn K (.ref f) = true
  ty : typeIn K (.ref f) = some (.type "function")
  fn : fnIn K f = true
  get : specialIn K (.ref f) "__get__" = some (some (.builtin "function.__get__"))
  takes : takesIn K (.ref f) = some false

/-- the frame of a call of a def of the text -/
abbrev frameEnv (qual : Str) (fd : FD) (L f : Addr) (cd : Addr) : Env := envX qual fd.scope L f (.ref cd) (cellsFrom (L + 1) fd.scope.names [])

theorem enter {prog : Program} {w : World} {A : Around} {s : Shared} {R : Result → Shared → Prop} {K : Frag} {f : Addr} {qual : Str} {fd : FD} {dV : Value} {cd : Addr} {args : Args} {h' : Heap} {binds : List (Str × Value)}
    (kf : FnIn K f qual fd dV cd) (X : K.In s.heap) (lim : s.heap.NoLimit) (hroom : A.depth < recursionLimit)
    (hb : ∀ nm doc pm an ct (M : Model) (A : Around) (E : Value → Shared → Prop) (Q : List (Str × Value) → Shared → Prop), Q binds { s with heap := h' } →
      wpAny M A (bindArgs (fnOf nm qual fd.params fd.body fd.scope dV .none doc pm an (.ref cd) ct) args) Q E s)
    (hk' : Keep s.heap h')
    (hkind : (binds.all fun y => fd.scope.names.lookup y.1 == some .local || fd.scope.names.lookup y.1 == some .cell) = true)
    (h : ∀ h₁ tk (E' : Value → Shared → Prop), h₁.Ns h'.objs.size (bindL (frameEnv qual fd h'.objs.size f cd).kindOf binds fun _ => none) →
      (∀ n c, (cellsFrom (h'.objs.size + 1) fd.scope.names []).lookup n = some c → h₁.IsCell c (bindC (frameEnv qual fd h'.objs.size f cd).kindOf binds (fun _ => none) n)) →
      Keep h' h₁ → h'.objs.size < h₁.objs.size →
      wpAny (model prog w) (A.deeper (frameEnv qual fd h'.objs.size f cd)) (execs fd.body (frameEnv qual fd h'.objs.size f cd))
        (fun fl s' => R (.ok (.ret (match fl with | .ret v => v | _ => .none))) s') E' { s with heap := h₁, toks := tk })
    (hco : fd.scope.isCoroutine = false := by rfl) (hgen : fd.scope.isGenerator = false := by rfl) (hk : fd.scope.kind = .function := by rfl) :
    codeAny (model prog w) A (.call (.ref f) args) R s := by
  obtain ⟨oc, od, osl, nm, doc, pm, an, ct, ho⟩ := kf.at_
  refine codeAny_call_function (fd := fnOf nm qual fd.params fd.body fd.scope dV .none doc pm an (.ref cd) ct) (body := fd.body) hroom (X _ _ ho) rfl hco hgen rfl (codeRec_of X kf.code) (hb _ _ _ _ _ _ _ _ _ ?_)
  refine wpAny_newFunctionEnv_cells (s := { s with heap := h' }) hk (kindsX hkind _) fun env' he s' x => ?_
  subst he
  refine ⟨(lim.keeps hk').keeps x.toInCall.keep, codeAny_func ?_⟩
  obtain ⟨h₁, tk, rfl, _⟩ := x.done
  have hlt : h'.objs.size < h₁.objs.size := x.toInCall.ns.lt
  exact h h₁ tk _ x.toInCall.ns x.cell x.toInCall.keep hlt

end Mine
end

noncomputable section
open PySem PySem.Calls PySem.W PyProof.Rows
set_option maxRecDepth 100000
namespace Mine

section
variable {M : Model} {A : Around} {E : Value → Shared → Prop} {s : Shared} {env : Env} {x : Str} {pos : Pos} {v : Value}
theorem nmL {Q : Value → Shared → Prop} {m : Str → Option Value} (n : s.heap.Ns env.locals m) (hv : m x = some v) (h : Q v s)
    (hk : env.scope.kind = .function := by rfl) (hl : env.kindOf x = some .local := by rfl) (hd : (x == ("__debug__" : Str)) = false := by decide) :
    wpAny M A (eval (.Name x pos) env) Q E s := wpAny_Name (wpAny_loadName_local hk hl n hv h) hd
theorem nmC {Q : Value → Shared → Prop} {c : Addr} (hc : env.cells.lookup x = some c) (n : s.heap.IsCell c (some v)) (h : Q v s)
    (hk : env.scope.kind = .function := by rfl) (hl : env.kindOf x = some .cell := by rfl) (hd : (x == ("__debug__" : Str)) = false := by decide) :
    wpAny M A (eval (.Name x pos) env) Q E s := wpAny_Name (wpAny_loadName_cell hk hl hc n h) hd
theorem nmF {Q : Value → Shared → Prop} {c : Addr} (hc : env.cells.lookup x = some c) (n : s.heap.IsCell c (some v)) (h : Q v s)
    (hk : env.scope.kind = .function := by rfl) (hl : env.kindOf x = some .free := by rfl) (hd : (x == ("__debug__" : Str)) = false := by decide) (hn : (x == ("__classdict__" : Str)) = false := by decide) :
    wpAny M A (eval (.Name x pos) env) Q E s := wpAny_Name (wpAny_loadName_free hk hl hc n h hn) hd
theorem nmG {Q : Value → Shared → Prop} {K : Frag} {mg mb : Str → Option Value} {s₁ : Shared} (B : Base K mg mb s₁) (G : Good s₁ s) (e : nsIn K mainGlobals x = some (some v)) (h : Q v s)
    (hg : env.globals = mainGlobals := by rfl) (hk : env.scope.kind = .function := by rfl) (hl : env.kindOf x = some .globalImplicit := by rfl) (hd : (x == ("__debug__" : Str)) = false := by decide) :
    wpAny M A (eval (.Name x pos) env) Q E s := Name_function_global hk hl (loadGlobal_global (hg ▸ G.g B) (mg_of B.kin B.g e) h) hd
theorem nmB {Q : Value → Shared → Prop} {K : Frag} {mg mb : Str → Option Value} {s₁ : Shared} (B : Base K mg mb s₁) (G : Good s₁ s) (e : nsIn K mainGlobals x = some none) (hv : bootBuiltins x = some v) (h : Q v s)
    (hn : x ≠ "__name__" := by decide) (hg : env.globals = mainGlobals := by rfl) (hb : env.builtins = builtinsNs := by rfl) (hk : env.scope.kind = .function := by rfl) (hl : env.kindOf x = some .globalImplicit := by rfl) (hd : (x == ("__debug__" : Str)) = false := by decide) :
    wpAny M A (eval (.Name x pos) env) Q E s :=
  Name_function_global hk hl (loadGlobal_builtin (hg ▸ G.g B) (mg_none_of B.kin B.g e) (hb ▸ G.b B) ((B.bi x hn).trans hv) h) hd

theorem stL {Q : Unit → Shared → Prop} {m : Str → Option Value} (n : s.heap.Ns env.locals m)
    (h : ∀ h', h'.Ns env.locals (fun y => if y = x then some v else m y) → Heap.SameBut env.locals s.heap h' → Q () { s with heap := h', toks := s.toks + 1 })
    (hk : env.scope.kind = .function := by rfl) (hl : env.kindOf x = some .local := by rfl) : wpAny M A (storeName env x v) Q E s :=
  wpAny_storeName_local hl n h (by rw [hk]; rfl)
theorem stC {Q : Unit → Shared → Prop} {c : Addr} {v₀ : Option Value} (hc : env.cells.lookup x = some c) (n : s.heap.IsCell c v₀)
    (h : ∀ h', h'.IsCell c (some v) → Heap.SameBut c s.heap h' → Q () { s with heap := h' })
    (hk : env.scope.kind = .function := by rfl) (hl : env.kindOf x = some .cell := by rfl) : wpAny M A (storeName env x v) Q E s :=
  wpAny_storeName_cell hk hl hc n h
end

/-! ## calls -/
section
variable {M : Model} {A : Around} {E : Value → Shared → Prop} {s : Shared}
theorem callWith_tr {pos : Pos} {f : Value} {first : List Value} {args : List (Bool × Sem Value)} {kws : List (Option Str × Sem Value)} {Q : Value → Shared → Prop}
    (h : wpAny M A (evalArgs f true args kws) (fun a s₁ => (∃ k, Looks M s₁.heap (keeperOf f) k) ∧ wpAny M A (call f (first ++ a.pos) a.kw) Q E s₁) E s) :
    wpAny M A (callWith pos f first args kws) Q E s := by
  unfold callWith
  refine wpAny_bind (wpAny_holding (wpAny_mono h (fun a s₁ h₁ => wpAny_bind (wpAny_standAt ?_)) fun _ _ x => x))
  obtain ⟨⟨k, L⟩, h₁⟩ := h₁
  refine wpAny_bind (L.here ?_)
  have tail : ∀ {t : Sem Value}, wpAny M A t Q E s₁ → wpAny M A (t >>= fun r => holding [r] point >>= fun _ => pure r) Q E s₁ :=
    fun ht => wpAny_bind (wpAny_mono ht (fun r s₂ hr => wpAny_bind (wpAny_holding (wpAny_point (wpAny_pure hr)))) fun _ _ x => x)
  have marked (mk : Value) : wpAny M A (callMarked mk f (first ++ a.pos) a.kw) Q E s₁ := by unfold callMarked; exact Calls.wpAny_keep h₁
  have op : ∀ vs, wpAny M A (operate vs (call f (first ++ a.pos) a.kw)) Q E s₁ := fun vs => wpAny_operating h₁
  cases hst : (args.any (·.1) || kws.any (·.1.isNone)) <;> cases k <;> dsimp only <;>
    first | exact tail h₁ | exact tail (marked _) | exact tail (op _) | (split <;> first | exact tail h₁ | exact tail (marked _) | exact tail (op _))

theorem keeper_bi {id : String} {h : Heap} : ∃ k, Looks M h (keeperOf (.builtin id)) k := ⟨.machine, Looks.of_pure rfl⟩
theorem keeper_ty {id : String} {h : Heap} : ∃ k, Looks M h (keeperOf (.type id)) k := ⟨.machine, Looks.of_pure rfl⟩
theorem keeper_K {K : Frag} {f : Value} (hk : keepIn K f = true) {h : Heap} (X : K.In h) : ∃ k, Looks M h (keeperOf f) k := by
  obtain ⟨k, a, b⟩ := looks_keep (M := M) hk X
  exact ⟨k, b⟩
theorem keeper_inst {x C : Addr} {ox : Obj} {od : Option Obj} {h : Heap} (I : InstAt h x ox C od) (hp : ox.data = .plain) : ∃ k, Looks M h (keeperOf (.ref x)) k := by
  obtain ⟨c, d, dt, sl⟩ := ox
  cases hp
  exact ⟨.caller, (Looks.ld (part := none) I.at_).andThen .now⟩

theorem evalArgs_ns {f : Value} {args : List (Bool × Sem Value)} {Q : Args → Shared → Prop} (hn : args.any (·.1) = false)
    (h : wpAny M A (spliced args) (fun vs s' => Q ⟨vs, []⟩ s') E s) : wpAny M A (evalArgs f true args []) Q E s := by
  cases args with
  | nil =>
    unfold evalArgs
    show wpAny M A (spliced [] >>= _) Q E s
    refine wpAny_bind (wpAny_mono h (fun vs s' h' => ?_) fun _ _ x => x)
    refine wpAny_bind (wpAny_pure (wpAny_holding ?_))
    exact wpAny_bind (wpAny_pure (wpAny_bind (wpAny_pure (wpAny_pure h'))))
  | cons a r =>
    obtain ⟨b, x⟩ := a
    cases b with
    | true => cases hn
    | false => exact evalArgs_plain h
theorem anyStar_map {args : List Expr} {env : Env} {pos : Pos} (hs : starEach args env = args.map fun e => (false, eval e env)) : (backTo pos (starEach args env)).any (·.1) = false := by
  rw [hs]; unfold backTo; rw [List.map_map, List.any_map]
  exact List.any_eq_false.mpr fun _ _ => by simp
/-- a call, plain arguments -/
theorem callP {env : Env} {f : Expr} {args : List Expr} {pos : Pos} {Q : Value → Shared → Prop}
    (h : wpAny M A (eval f env) (fun fv s₁ => wpAny M A (spliced (backTo pos (starEach args env))) (fun vs s₂ => (∃ k, Looks M s₂.heap (keeperOf fv) k) ∧ wpAny M A (call fv vs) Q E s₂) E s₁) E s)
    (he : eval (.Call f args [] pos) env = (do callWith pos (← eval f env) [] (backTo pos (starEach args env)) (backToKw pos (keywordEach [] env))) := by rfl)
    (hs : starEach args env = args.map fun e => (false, eval e env) := by rfl) :
    wpAny M A (eval (.Call f args [] pos) env) Q E s := by
  rw [he]
  exact wpAny_bind (wpAny_mono h (fun fv s₁ h₁ => callWith_tr (evalArgs_ns (anyStar_map hs) h₁)) fun _ _ x => x)
/-- a method call, plain arguments -/
theorem callM {env : Env} {o : Expr} {name : Str} {args : List Expr} {apos pos : Pos} {Q : Value → Shared → Prop} {pl : Sem Bool}
    (h : wpAny M A (eval o env) (fun ov s₁ => wpAny M A (getMethod ov name pl) (fun fx s₂ => wpAny M A (spliced (backTo pos (starEach args env)))
      (fun vs s₃ => (∃ k, Looks M s₃.heap (keeperOf fx.1) k) ∧ wpAny M A (call fx.1 (fx.2 ++ vs)) Q E s₃) E s₂) E s₁) E s)
    (he : eval (.Call (.Attribute o name apos) args [] pos) env = (do
      let ov ← eval o env
      standAt apos.atName
      let (f, first) ← holding [ov] (getMethod ov name pl)
      callWith pos f first (backTo pos (starEach args env)) (backToKw pos (keywordEach [] env))) := by rfl)
    (hs : starEach args env = args.map fun e => (false, eval e env) := by rfl) :
    wpAny M A (eval (.Call (.Attribute o name apos) args [] pos) env) Q E s := by
  rw [he]
  refine wpAny_bind (wpAny_mono h (fun ov s₁ h₁ => wpAny_bind (wpAny_standAt (wpAny_bind (wpAny_holding (wpAny_mono h₁ (fun fx s₂ h₂ => ?_) fun _ _ x => x))))) fun _ _ x => x)
  exact callWith_tr (evalArgs_ns (anyStar_map hs) h₂)
/-- a tuple, read for a star -/
theorem starTup {prog : Program} {w : World} {T : Addr} {ws : List Value} {n : Nat} {dd : Option Addr} {sl : Array (Option Value)} {Q : List Value → Shared → Prop}
    (D : s.heap.get? T = some ⟨.type "tuple", dd, .seq ws.toArray n, sl⟩) (hz : ws.length ≤ sizeLine)
    (h : ∀ h', Keep s.heap h' → Q ws { s with heap := h' }) : StarOf (model prog w) A E (.ref T) Q s := by
  have hT' : s.TypeIs (.ref T) "tuple" := ⟨_, D, rfl⟩
  have z : wpAny (model prog w) A (collect (.ref T)) Q E s :=
    wpAny_collect_seq T (.inr rfl) D rfl rfl (fun h' hk => by have := h h' hk; simpa using this) (by rw [List.size_toArray]; exact hz)
  unfold StarOf notIterableAtAll
  exact wpAny_bind (wpAny_specialOf hT' PySem.F.slot_tuple_iter.lookup (wpAny_pure ⟨rfl, z⟩))
end
end Mine
end

noncomputable section
open PySem PySem.Calls PySem.W PyProof.Rows
set_option maxRecDepth 100000
namespace Mine

/-! ## dicts from texts to ints: plain ones, and the text's own Counter -/
abbrev Bag := List (Str × Int)
def Bag.get (b : Bag) (k : Str) : Option Int := b.lookup k
noncomputable def Bag.put : Bag → Str → Int → Bag
  | [], k, n => [(k, n)]
  | (k', n') :: r, k, n => if k' = k then (k', n) :: r else (k', n') :: Bag.put r k n
noncomputable def Bag.idx : Bag → Str → Option Nat
  | [], _ => none
  | (k', _) :: r, k => if k' = k then some 0 else (Bag.idx r k).map (· + 1)

inductive CRel (w : World) : List DictEntry → Bag → Prop
  | nil : CRel w [] []
  | cons {e : DictEntry} {k : Str} {n : Int} {es : List DictEntry} {r : Bag} : e.hash = hashStr w k → (∃ t, e.key = .str k t) → (∃ t, e.val = .int n t) → CRel w es r → CRel w (e :: es) ((k, n) :: r)

section
variable {prog : Program} {w : World} {es : List DictEntry} {b : Bag} {k : Str} {n : Int}
theorem CRel.len (x : CRel w es b) : es.length = b.length := by
  induction x with
  | nil => rfl
  | cons _ _ _ _ ih => simp [ih]
theorem CRel.find (x : CRel w es b) (k : Str) : es.findIdx? (fun e => Value.isStrOf k e.key) = b.idx k := by
  induction x with
  | nil => rfl
  | @cons e k' n' es r h1 h2 h3 _ ih =>
    obtain ⟨t, h2⟩ := h2
    rw [List.findIdx?_cons, h2, ih]
    by_cases hk : k' = k
    · subst hk; simp [Value.isStrOf, Bag.idx]
    · simp [Value.isStrOf, Bag.idx, hk]
theorem CRel.mem (x : CRel w es b) : ∀ e ∈ es, ∃ k t, e.key = .str k t ∧ e.hash = hashStr w k := by
  induction x with
  | nil => intro e he; cases he
  | cons h1 h2 h3 _ ih =>
    intro e he
    rcases List.mem_cons.mp he with rfl | he
    · obtain ⟨t, h2⟩ := h2; exact ⟨_, t, h2, h1⟩
    · exact ih e he
theorem Bag.idx_none {k : Str} {n : Int} : ∀ {b : Bag}, b.idx k = none → b.get k = none ∧ b.put k n = b ++ [(k, n)]
  | [], _ => ⟨rfl, rfl⟩
  | (k', n') :: r, h => by
    unfold Bag.idx at h
    split at h
    · cases h
    · rename_i hk
      obtain ⟨a, c⟩ := Bag.idx_none (b := r) (n := n) (by simpa using h)
      refine ⟨?_, ?_⟩
      · unfold Bag.get at a ⊢
        rw [List.lookup_cons]
        have : (k == k') = false := by simp; exact fun q => hk q.symm
        rw [this]; exact a
      · unfold Bag.put; rw [if_neg hk, c]; rfl
theorem CRel.at_idx (x : CRel w es b) {i : Nat} (h : b.idx k = some i) : ∃ e m, es[i]? = some e ∧ b.get k = some m ∧ ∃ t, e.val = .int m t := by
  induction x generalizing i with
  | nil => cases h
  | @cons e k' n' es r h1 h2 h3 _ ih =>
    unfold Bag.idx at h
    split at h
    · rename_i hk
      cases h; subst hk
      exact ⟨e, n', rfl, by simp [Bag.get], h3⟩
    · rename_i hk
      obtain ⟨j, hj, rfl⟩ := Option.map_eq_some_iff.mp h
      obtain ⟨e', m, a, c, d⟩ := ih hj
      refine ⟨e', m, by simpa using a, ?_, d⟩
      unfold Bag.get at c ⊢
      rw [List.lookup_cons]
      have : (k == k') = false := by simp; exact fun q => hk q.symm
      rw [this]; exact c
theorem CRel.snoc (x : CRel w es b) {e : DictEntry} (h1 : e.hash = hashStr w k) (h2 : ∃ t, e.key = .str k t) (h3 : ∃ t, e.val = .int n t) : CRel w (es ++ [e]) (b ++ [(k, n)]) := by
  induction x with
  | nil => exact .cons h1 h2 h3 .nil
  | cons a c d _ ih => exact .cons a c d ih
theorem CRel.modify (x : CRel w es b) {i : Nat} (h : b.idx k = some i) {v : Value} (hv : ∃ t, v = .int n t) : CRel w (es.modify i fun e => { e with val := v }) (b.put k n) := by
  induction x generalizing i with
  | nil => cases h
  | @cons e k' n' es r h1 h2 h3 hr ih =>
    unfold Bag.idx at h
    unfold Bag.put
    split at h
    · rename_i hk
      cases h
      rw [if_pos hk]
      exact .cons h1 h2 hv hr
    · rename_i hk
      obtain ⟨j, hj, rfl⟩ := Option.map_eq_some_iff.mp h
      rw [if_neg hk, List.modify_succ_cons]
      exact .cons h1 h2 h3 (ih hj)
theorem Bag.put_len {k : Str} {n : Int} : ∀ (b : Bag), (b.put k n).length ≤ b.length + 1
  | [] => Nat.le_refl _
  | (k', n') :: r => by
    unfold Bag.put
    split
    · simp
    · simp only [List.length_cons]; have := Bag.put_len (k := k) (n := n) r; omega
end

/-- the dict (or Counter) at a holds b -/
def IsD (w : World) (h : Heap) (a : Addr) (cls : Value) (b : Bag) : Prop :=
  ∃ dd es ep, h.get? a = some ⟨cls, dd, .dict es ep, #[]⟩ ∧ CRel w es.toList b
section
variable {w : World} {h h' : Heap} {a : Addr} {cls : Value} {b : Bag}
theorem IsD.ext (x : IsD w h a cls b) (e : Ext h h') : IsD w h' a cls b := let ⟨dd, es, ep, q, r⟩ := x; ⟨dd, es, ep, e _ _ (isTab_dict rfl) q, r⟩
theorem IsD.same (x : IsD w h a cls b) {c : Addr} (e : Heap.SameBut c h h') (n : a ≠ c) : IsD w h' a cls b := let ⟨dd, es, ep, q, r⟩ := x; ⟨dd, es, ep, (e.2 a n).trans q, r⟩
theorem IsD.extBut (x : IsD w h a cls b) {c : Addr} (e : Heap.ExtBut c h h') (n : a ≠ c) : IsD w h' a cls b := let ⟨dd, es, ep, q, r⟩ := x; ⟨dd, es, ep, e a _ n q, r⟩
theorem IsD.lt (x : IsD w h a cls b) : a < h.objs.size := let ⟨_, _, _, q, _⟩ := x; Heap.lt_size q
theorem IsD.ne (x : IsD w h a cls b) {c : Addr} (n : h.get? c = none) : a ≠ c := fun q => by obtain ⟨_, _, _, e, _⟩ := x; rw [q, n] at e; cases e
end

section
variable {prog : Program} {w : World} {A : Around} {E : Value → Shared → Prop} {s : Shared} {a : Addr} {cls : Value} {b : Bag} {k : Str} {t : Tok}
theorem keysOf (x : CRel w es b) : KeysOf (PySem.strKind prog w) es.toArray := fun e he => by
  obtain ⟨k, t, h1, h2⟩ := x.mem e (by simpa using he)
  exact ⟨k, by rw [h1]; simp [PySem.strKind, Value.isStrOf], h2⟩
theorem dictFind_D {dd : Option Addr} {es : Array DictEntry} {ep : Nat} {Q : Option Nat → Shared → Prop} (ho : s.heap.get? a = some ⟨cls, dd, .dict es ep, #[]⟩) (x : CRel w es.toList b)
    (h : Q (b.idx k) s) : wpAny (model prog w) A (dictFind a (.str k t) (hashStr w k)) Q E s := by
  refine wpAny_dictFind_of (knd := PySem.strKind prog w) (k := k) (key := .str k t) (by simp [PySem.strKind, Value.isStrOf]) ho rfl (by simpa using keysOf (prog := prog) x) ?_
  have e := x.find k
  have e' : es.findIdx? (fun e => Value.isStrOf k e.key) = b.idx k := by
    rw [← e]; obtain ⟨l⟩ := es; simp
  show Q (es.findIdx? fun e => Value.isStrOf k e.key) s
  rw [e']; exact h
theorem dictGet_D {Q : Option Value → Shared → Prop} (D : IsD w s.heap a cls b)
    (h : ∀ r tk, (b.get k = none → r = none) → (∀ n, b.get k = some n → ∃ u, r = some (.int n u)) → Q r { s with toks := tk }) : wpAny (model prog w) A (dictGet a (.str k t)) Q E s := by
  obtain ⟨dd, es, ep, ho, x⟩ := D
  unfold dictGet
  refine wpAny_holding (wpAny_bind (wpAny_pyHash_str (wpAny_bind (dictFind_D (s := { s with toks := s.toks + 1 }) ho x ?_))))
  cases hi : b.idx k with
  | none =>
    have q := Bag.idx_none (n := 0) hi
    exact wpAny_pure (h _ _ (fun _ => rfl) fun n e => by rw [q.1] at e; cases e)
  | some i =>
    obtain ⟨e, m, h1, h2, u, h3⟩ := x.at_idx hi
    refine wpAny_bind (wpAny_dictEntries (s := { s with toks := s.toks + 1 }) ho rfl (wpAny_pure ?_))
    have h1' : es[i]? = some e := by simpa using h1
    rw [h1']
    refine h _ _ (fun q => by rw [h2] at q; cases q) fun n q => ?_
    rw [h2] at q; cases q
    exact ⟨u, by rw [← h3]; rfl⟩
theorem dictSet_D {n : Int} {u : Tok} {Q : Unit → Shared → Prop} (D : IsD w s.heap a cls b) (hz : b.length ≤ 1000)
    (h : ∀ h' tk, IsD w h' a cls (b.put k n) → Heap.SameBut a s.heap h' → Q () { s with heap := h', toks := tk }) : wpAny (model prog w) A (dictSet a (.str k t) (.int n u)) Q E s := by
  obtain ⟨dd, es, ep, ho, x⟩ := D
  have hl : es.size = b.length := by rw [← x.len]; simp
  unfold dictSet
  refine wpAny_holding (wpAny_bind (wpAny_pyHash_str ?_))
  unfold dictSetHashed
  refine wpAny_holding (wpAny_bind (dictFind_D (s := { s with toks := s.toks + 1 }) ho x ?_))
  cases hi : b.idx k with
  | some i =>
    refine wpAny_bind (wpAny_rule (wpAny_bind (wpAny_updateDict (s := { s with toks := s.toks + 1 }) ho rfl (wpAny_point (h _ _ ?_ (Heap.SameBut.update ..))))))
    refine ⟨dd, _, ep, Heap.get?_update_self _ ho rfl, ?_⟩
    have := x.modify hi (n := n) (v := .int n u) ⟨u, rfl⟩
    simpa using this
  | none =>
    refine wpAny_bind (wpAny_rule (wpAny_updateDictKeys (hz := by rw [sizeLine_eq]; omega) (s := { s with toks := s.toks + 1 }) ho rfl (h _ _ ?_ (Heap.SameBut.update ..))))
    refine ⟨dd, _, ep + 1, Heap.get?_update_self _ ho rfl, ?_⟩
    rw [(Bag.idx_none (n := n) hi).2]
    have := x.snoc (k := k) (n := n) (e := ⟨hashStr w k, .str k t, .int n u⟩) rfl ⟨t, rfl⟩ ⟨u, rfl⟩
    simpa using this
end
end Mine
end

noncomputable section
open PySem PySem.Calls PySem.W PyProof.Rows
set_option maxRecDepth 100000
namespace Mine

/-! ## a built-in called on an object whose class is known -/
section
variable {prog : Program} {w : World} {A : Around} {E : Value → Shared → Prop} {s : Shared}
theorem chk {M : Model} {i owner n : String} {self : Value} {rest : List Value} {kw : List (Str × Value)} {Q : Unit → Shared → Prop}
    (hk : builtinKind i = some .slot ∨ builtinKind i = some .method) (hs : splitId i = some (owner, n)) (hi : Looks M s.heap (isInstance self (.type owner)) true) (ha : argsOk i ⟨self :: rest, kw⟩) (q : Q () s) :
    wpAny M A (checkBuiltinCall i ⟨self :: rest, kw⟩) Q E s := by
  rcases hk with hk | hk <;> simp only [checkBuiltinCall, hk, hs] <;> refine wpAny_bind (hi.here ?_) <;> simp only [Bool.not_true, Bool.false_eq_true, if_false] <;>
  · cases hsig : Manifest.signature? i with
    | none => exact wpAny_pure q
    | some sig =>
      simp only [argsOk, hsig] at ha
      have h2 : Bind.checkArgs i sig ⟨self :: rest, kw⟩ = pure () := ha
      show wpAny M A (Bind.checkArgs i sig ⟨self :: rest, kw⟩) Q E s
      rw [h2]; exact wpAny_pure q

structure Bi (i : String) (b : Builtin) (owner n : String) : Prop where
  kind : builtinKind i = some .slot ∨ builtinKind i = some .method
  split : splitId i = some (owner, n)
  plain : plainId i = true
  entry : entryFor table i = some b
  bind : ∀ self, bindSpecial (.builtin i) self = pure (.builtin i, [self])
theorem callBi {i owner n : String} {b : Builtin} {self : Value} {rest : List Value} {Q : Value → Shared → Prop} (F : Bi i b owner n)
    (hi : Looks (model prog w) s.heap (isInstance self (.type owner)) true) (ha : argsOk i ⟨self :: rest, []⟩)
    (h : wpAny (model prog w) A.in1 (b ⟨self :: rest, []⟩) (fun fin s' => ∃ v, fin = .done (.ret v) ∧ Q v s') E s) :
    wpAny (model prog w) A (call (.builtin i) (self :: rest)) Q E s := by
  refine wpAny_call (codeAny_call_builtin F.plain F.entry (chk F.kind F.split hi ha (wpAny_mono h (fun fin s' z => ?_) fun _ _ z => z)))
  obtain ⟨v, rfl, z⟩ := z
  exact z
theorem specialBi {i owner n : String} {b : Builtin} {x : Addr} {cls : Value} {name : Str} {rest : List Value} {K : Frag} {Q : Option Value → Shared → Prop} (F : Bi i b owner n) (X : K.In s.heap)
    (ht : ∀ M : Model, Looks M s.heap (typeOf (.ref x)) cls) (hf : findIn K cls name = some (some (.builtin i))) (hs : subIn K cls (.type owner) = some true) (ha : argsOk i ⟨.ref x :: rest, []⟩)
    (h : wpAny (model prog w) A.in1 (b ⟨.ref x :: rest, []⟩) (fun fin s' => ∃ v, fin = .done (.ret v) ∧ Q (some v) s') E s) :
    wpAny (model prog w) A (callSpecial? (.ref x) name rest) Q E s := by
  unfold callSpecial? specialOf
  refine wpAny_bind (wpAny_bind ((ht _).here ((looks_findIn X hf).here (wpAny_holding ?_))))
  rw [F.bind]
  refine wpAny_bind (wpAny_pure (wpAny_bind ?_))
  exact wpAny_mono (callBi F ((ht _).andThen (looks_subIn X hs)) ha h) (fun v s' z => wpAny_pure z) fun _ _ z => z
end

theorem biBind {i owner n : String} (hsplit : splitId i = some (owner, n)) (hop : withoutEnding? i "#opaque" = none) (hdat : withoutEnding? i "#data" = none)
    (hkind : (Manifest.find? owner).bind (·.attrs.lookup n) = some .slot ∨ (Manifest.find? owner).bind (·.attrs.lookup n) = some .method) : ∀ self, bindSpecial (.builtin i) self = pure (.builtin i, [self]) := by
  have hk : builtinKind i = (Manifest.find? owner).bind (·.attrs.lookup n) := by simp only [builtinKind, hsplit]
  intro self
  rcases hkind with h | h <;> (simp only [bindSpecial, typeOf, builtinType, hop, hdat, hk, h]; rfl)
theorem Bi.of {i owner n : String} {b : Builtin} (hsplit : splitId i = some (owner, n)) (hop : withoutEnding? i "#opaque" = none) (hdat : withoutEnding? i "#data" = none)
    (hkind : (Manifest.find? owner).bind (·.attrs.lookup n) = some .slot ∨ (Manifest.find? owner).bind (·.attrs.lookup n) = some .method) (hp : plainId i = true) (he : entryFor table i = some b) : Bi i b owner n :=
  ⟨by have hk : builtinKind i = (Manifest.find? owner).bind (·.attrs.lookup n) := by simp only [builtinKind, hsplit]
      rw [hk]; exact hkind, hsplit, hp, he, biBind hsplit hop hdat hkind⟩

namespace BI
theorem dgetitem : Bi "dict.__getitem__" Builtin.«dict.__getitem__» "dict" "__getitem__" := .of (by decide +kernel) (by decide +kernel) (by decide +kernel) (by first | exact .inl (by decide +kernel) | exact .inr (by decide +kernel)) (by decide +kernel) (entryFor_of_tree (by kernel_rfl))
theorem dsetitem : Bi "dict.__setitem__" Builtin.«dict.__setitem__» "dict" "__setitem__" := .of (by decide +kernel) (by decide +kernel) (by decide +kernel) (by first | exact .inl (by decide +kernel) | exact .inr (by decide +kernel)) (by decide +kernel) (entryFor_of_tree (by kernel_rfl))
theorem dcontains : Bi "dict.__contains__" Builtin.«dict.__contains__» "dict" "__contains__" := .of (by decide +kernel) (by decide +kernel) (by decide +kernel) (by first | exact .inl (by decide +kernel) | exact .inr (by decide +kernel)) (by decide +kernel) (entryFor_of_tree (by kernel_rfl))
theorem diter : Bi "dict.__iter__" Builtin.«dict.__iter__» "dict" "__iter__" := .of (by decide +kernel) (by decide +kernel) (by decide +kernel) (by first | exact .inl (by decide +kernel) | exact .inr (by decide +kernel)) (by decide +kernel) (entryFor_of_tree (by kernel_rfl))
theorem dget : Bi "dict.get" Builtin.«dict.get» "dict" "get" := .of (by decide +kernel) (by decide +kernel) (by decide +kernel) (by first | exact .inl (by decide +kernel) | exact .inr (by decide +kernel)) (by decide +kernel) (entryFor_of_tree (by kernel_rfl))
theorem dinit : Bi "dict.__init__" Builtin.«dict.__init__» "dict" "__init__" := .of (by decide +kernel) (by decide +kernel) (by decide +kernel) (by first | exact .inl (by decide +kernel) | exact .inr (by decide +kernel)) (by decide +kernel) (entryFor_of_tree (by kernel_rfl))
theorem dvalues : Bi "dict.values" Builtin.«dict.values» "dict" "values" := .of (by decide +kernel) (by decide +kernel) (by decide +kernel) (by first | exact .inl (by decide +kernel) | exact .inr (by decide +kernel)) (by decide +kernel) (entryFor_of_tree (by kernel_rfl))
end BI

/-- what is asked of a class whose objects are dicts: dict itself, and the text's Counter -/
structure DK (K : Frag) (cls : Value) : Prop where
  get : findIn K cls "__getitem__" = some (some (.builtin "dict.__getitem__"))
  set : findIn K cls "__setitem__" = some (some (.builtin "dict.__setitem__"))
  con : findIn K cls "__contains__" = some (some (.builtin "dict.__contains__"))
  itr : findIn K cls "__iter__" = some (some (.builtin "dict.__iter__"))
  sub : subIn K cls (.type "dict") = some true
  nod : subIn K cls (.type "collections.OrderedDict") = some false
  seq : cls = .type "dict" ∨ ∃ C, cls = .ref C ∧ noSeq K C = true

section
variable {prog : Program} {w : World} {A : Around} {E : Value → Shared → Prop} {s : Shared} {a : Addr} {cls : Value} {b : Bag} {k : Str} {t : Tok} {K : Frag}
theorem IsD.type {M : Model} {h : Heap} (D : IsD w h a cls b) : Looks M h (typeOf (.ref a)) cls := by
  obtain ⟨dd, es, ep, ho, _⟩ := D
  exact (Looks.ld ho).andThen .now
theorem seqKey {M : Model} {key : Value} {name : Str} {Q : Value → Shared → Prop} (X : K.In s.heap) (dk : DK K cls) (ht : Looks M s.heap (typeOf (.ref a)) cls) (h : Q key s) : wpAny M A (sequenceKey (.ref a) key name) Q E s := by
  unfold sequenceKey
  refine wpAny_bind (ht.here ?_)
  rcases dk.seq with rfl | ⟨C, rfl, hq⟩
  · exact wpAny_pure h
  · refine wpAny_bind ((anyM_none X hq).here ?_)
    exact wpAny_pure h
theorem argsGet (x y : Value) : argsOk "dict.__getitem__" ⟨[x, y], []⟩ := args_dict_getitem x y
theorem getItem_D {n : Int} {Q : Value → Shared → Prop} (X : K.In s.heap) (dk : DK K cls) (D : IsD w s.heap a cls b) (hb : b.get k = some n) (h : ∀ u tk, Q (.int n u) { s with toks := tk }) :
    wpAny (model prog w) A (getItem (.ref a) (.str k t)) Q E s := by
  unfold getItem
  refine wpAny_holding (wpAny_bind (seqKey X dk D.type ?_))
  refine wpAny_bind (specialBi BI.dgetitem X (fun _ => D.type) dk.get dk.sub (args_dict_getitem _ _) ?_)
  show wpAny _ _ (dictGet a (.str k t) >>= _) _ _ s
  refine wpAny_bind (dictGet_D D fun r tk _ h2 => ?_)
  obtain ⟨u, rfl⟩ := h2 n hb
  exact wpAny_pure ⟨_, rfl, wpAny_pure (h u tk)⟩
theorem notOrd {name : String} {args : Args} {Q : Unit → Shared → Prop} (X : K.In s.heap) (dk : DK K cls) (hself : args.pos.headD .none = .ref a) (ht : ∀ M : Model, Looks M s.heap (typeOf (.ref a)) cls) (h : Q () s) :
    wpAny (model prog w) A (Builtin.Dict.notOrdered name args) Q E s := by
  unfold Builtin.Dict.notOrdered
  split
  · rw [hself]
    refine wpAny_bind ((ht _).here ?_)
    split
    · refine wpAny_bind ((show Looks _ _ (isInstance (.ref a) (.type "collections.OrderedDict")) false from (ht _).andThen (looks_subIn X dk.nod)).here ?_)
      exact wpAny_pure h
    · exact wpAny_pure h
  · exact wpAny_pure h
theorem setItem_D {n : Int} {u : Tok} {Q : Unit → Shared → Prop} (X : K.In s.heap) (dk : DK K cls) (D : IsD w s.heap a cls b) (hz : b.length ≤ 1000)
    (h : ∀ h' tk, IsD w h' a cls (b.put k n) → Heap.SameBut a s.heap h' → Q () { s with heap := h', toks := tk }) :
    wpAny (model prog w) A (setItem (.ref a) (.str k t) (.int n u)) Q E s := by
  unfold setItem
  refine wpAny_holding (wpAny_bind (seqKey X dk D.type ?_))
  refine wpAny_bind (specialBi BI.dsetitem X (fun _ => D.type) dk.set dk.sub (args_dict_setitem _ _ _) ?_)
  show wpAny _ _ (Builtin.Dict.notOrdered "__setitem__" ⟨[.ref a, .str k t, .int n u], []⟩ >>= _) _ _ s
  refine wpAny_bind (notOrd X dk rfl (fun _ => D.type) ?_)
  show wpAny _ _ (dictSet a (.str k t) (.int n u) >>= _) _ _ s
  exact wpAny_bind (dictSet_D D hz fun h' tk D' hs => wpAny_pure ⟨_, rfl, wpAny_pure (h h' tk D' hs)⟩)
theorem contains_D {Q : Bool → Shared → Prop} (X : K.In s.heap) (dk : DK K cls) (D : IsD w s.heap a cls b) (hd : a ≠ sysModules) (h : ∀ tk, Q (b.get k).isSome { s with toks := tk }) :
    wpAny (model prog w) A (contains (.ref a) (.str k t)) Q E s := by
  unfold contains
  refine wpAny_holding (wpAny_bind (wpAny_bind (D.type.here ((looks_findIn X dk.con).here ?_))))
  show wpAny _ _ (if (some (Value.builtin "dict.__contains__") == some Value.none) = true then _ else _) _ E s
  rw [if_neg (by rw [beq_builtin_none]; exact Bool.false_ne_true)]
  refine wpAny_bind ?_
  unfold callSpecialUnlessNone? specialOf
  refine wpAny_bind (wpAny_bind (D.type.here ((looks_findIn X dk.con).here (wpAny_holding ?_))))
  rw [BI.dcontains.bind]
  refine wpAny_bind (wpAny_pure ?_)
  show wpAny _ _ (if (Value.builtin "dict.__contains__" == Value.none) = true then _ else _) _ E s
  rw [if_neg (show ¬ ((Value.builtin "dict.__contains__" == Value.none) = true) from Bool.false_ne_true)]
  refine wpAny_bind (callBi BI.dcontains (D.type.andThen (looks_subIn X dk.sub)) (args_dict_contains _ _) ?_)
  show wpAny _ _ (dictGet a (.str k t) >>= _) _ _ s
  refine wpAny_bind (dictGet_D D fun r tk h1 h2 => ?_)
  cases hb : b.get k with
  | none =>
    obtain rfl := h1 hb
    have := h tk
    rw [hb] at this
    exact wpAny_bind (wpAny_pendingKey_other (by simpa using hd) (wpAny_pure ⟨_, rfl, wpAny_pure (wpAny_truthy_bool this)⟩))
  | some n =>
    obtain ⟨u, rfl⟩ := h2 n hb
    have := h tk
    rw [hb] at this
    exact wpAny_pure ⟨_, rfl, wpAny_pure (wpAny_truthy_bool this)⟩
theorem in_D {Q : Value → Shared → Prop} (X : K.In s.heap) (dk : DK K cls) (D : IsD w s.heap a cls b) (hd : a ≠ sysModules) (h : ∀ tk, Q (.bool (b.get k).isSome) { s with toks := tk }) :
    wpAny (model prog w) A (compareOp .In (.str k t) (.ref a)) Q E s := by
  show wpAny _ _ (do return .bool (← contains (.ref a) (.str k t))) Q E s
  exact wpAny_bind (contains_D X dk D hd fun tk => wpAny_pure (h tk))
theorem notIn_D {Q : Value → Shared → Prop} (X : K.In s.heap) (dk : DK K cls) (D : IsD w s.heap a cls b) (hd : a ≠ sysModules) (h : ∀ tk, Q (.bool (!(b.get k).isSome)) { s with toks := tk }) :
    wpAny (model prog w) A (compareOp .NotIn (.str k t) (.ref a)) Q E s := by
  show wpAny _ _ (do return .bool (!(← contains (.ref a) (.str k t)))) Q E s
  exact wpAny_bind (contains_D X dk D hd fun tk => wpAny_pure (h tk))
end
end Mine
end

noncomputable section
open PySem PySem.Calls PySem.W PyProof.Rows
set_option maxRecDepth 100000
namespace Mine

/-- what is asked of the text's Counter class, to make one of it -/
def makesD (K : Frag) (C : Addr) : Bool := match K.lookup C with
  | some ⟨_, _, .cls cd, sl⟩ => !cd.abstract && !cd.hasDel && (sl.toList[4]?).join == some (.builtin "dict.__new__") && cd.mro == [.ref C, .type "dict", .type "object"] &&
      specialIn K (.ref C) "__call__" == some (some (.builtin "type.__call__")) && instIn K (.ref C) (.type "type") == some true
  | _ => false
structure MakesD (M : Model) (h : Heap) (C : Addr) : Prop where
  obj : ∃ oc od cd sl, h.get? C = some ⟨oc, od, .cls cd, sl⟩ ∧ cd.abstract = false ∧ cd.hasDel = false
  mro : Looks M h (mroOf (.ref C)) [.ref C, .type "dict", .type "object"]
  made : Looks M h (Bind.madeBy (.ref C)) (some "dict.__new__")
  base : Looks M h (Bind.staticBase (.ref C)) (.ref C)
  self : Looks M h (isSubtype (.ref C) (.ref C)) true
  top : Looks M h (isSubtype (.ref C) (.type "dict")) true
  call : Looks M h (specialOf (.ref C) "__call__") (some (.builtin "type.__call__"))
  typ : Looks M h (isInstance (.ref C) (.type "type")) true
theorem makesD_of {K : Frag} {M : Model} {h : Heap} (X : K.In h) {C : Addr} (e : makesD K C = true) : MakesD M h C := by
  unfold makesD at e
  split at e
  · rename_i oc od cd sl ho
    simp only [Bool.and_eq_true, Bool.not_eq_true', beq_iff_eq] at e
    obtain ⟨⟨⟨⟨⟨e1, e2⟩, e3⟩, e4⟩, e7⟩, e8⟩ := e
    have hc : clsIn K C = some cd := by unfold clsIn; rw [ho]
    have hm : Looks M h (mroOf (.ref C)) [.ref C, .type "dict", .type "object"] := by rw [← e4]; exact (looks_clsIn X hc).andThen .now
    have made : Looks M h (Bind.madeBy (.ref C)) (some "dict.__new__") := by
      intro A Q E s k q
      unfold Bind.madeBy
      refine wpAny_bind (hm A _ E s k ?_)
      rw [List.forIn_cons]
      refine wpAny_bind (wpAny_bind (wpAny_bind (wpAny_bind (wpAny_loadPart (k _ _ (X _ _ ho)) (wpAny_pure ?_)))))
      dsimp only
      rw [← Array.getElem?_toList, e3]
      exact wpAny_pure (wpAny_pure (wpAny_pure q))
    refine ⟨⟨oc, od, cd, sl, X _ _ ho, e1, e2⟩, hm, made, ?_, looks_mroIn X ?_, looks_mroIn X ?_, looks_specialIn X e7, looks_instIn X e8⟩
    · intro A Q E s k q
      unfold Bind.staticBase
      refine wpAny_bind (hm A _ E s k ?_)
      rw [List.forIn_cons]
      exact wpAny_bind (wpAny_bind (wpAny_bind (made A _ E s k (wpAny_pure (wpAny_pure (wpAny_pure q))))))
    · unfold mroIn; rw [hc, Option.bind_some, if_neg (by rw [e4]; exact Bool.false_ne_true), e4]; simp
    · unfold mroIn; rw [hc, Option.bind_some, if_neg (by rw [e4]; exact Bool.false_ne_true), e4]; simp
  · cases e

theorem dn_args (a : Value) (rest : List Value) : argsOk "dict.__new__" ⟨a :: rest, []⟩ := by unfold argsOk; kernel_rfl
theorem dn_entry : entryFor table "dict.__new__" = some Builtin.«dict.__new__» := entryFor_of_tree (by kernel_rfl)
theorem dn_kind : builtinKind "dict.__new__" = some .builtinFn := by decide +kernel
theorem dn_split : splitId "dict.__new__" = some ("dict", "__new__") := by decide +kernel
theorem dn_quiet : "dict.__new__".startsWith "lifetime." = false := by decide +kernel
abbrev dictInst (C dx : Addr) : Obj := ⟨.ref C, some dx, .dict #[], #[]⟩

section
variable {prog : Program} {w : World} {A : Around} {K : Frag} {C : Addr} {R : Result → Shared → Prop} {h : Heap} {g : Array GenState} {d : Drawn} {t : Nat} {os : OsState}
theorem newD_K {rest : List Value} (Y : MakesD (model prog w) h C)
    (hq : R (.ok (.ret (.ref (h.objs.size + 1)))) ⟨(h.push emptyDict).push (dictInst C h.objs.size), g, d, t, os⟩) :
    codeAny (model prog w) A (.call (.builtin "dict.__new__") ⟨.ref C :: rest, []⟩) R ⟨h, g, d, t, os⟩ := by
  obtain ⟨⟨oc, od, cd, sl, hC, e1, e2⟩, mro, made, base, self, top, call, typ⟩ := Y
  refine codeAny_call_builtin_code (Code.quiet_builtin _ dn_quiet) ?_
  simp only [checkBuiltinCall, dn_kind, dn_split]
  have fin : ∀ {E : Value → Shared → Prop} {A' : Around}, wpAny (model prog w) A' (Builtin.«dict.__new__» ⟨.ref C :: rest, []⟩) (fun fin s' => match fin with | .done f => R (.ok f) s' | .again c' => c'.quiet = true ∧ codeAny (model prog w) A c' R s') E ⟨h, g, d, t, os⟩ := by
    intro E A'
    have hC2 := Heap.get?_push_of_some (dictInst C h.objs.size) (Heap.get?_push_of_some emptyDict hC)
    unfold Builtin.«dict.__new__»
    repeat (first | simp only [Bool.false_eq_true, if_false, Bool.not_true] | lk)
    rw [e2]
    repeat (first | simp only [Bool.false_eq_true, if_false, Bool.not_true] | lk)
    show R _ _
    rw [Heap.size_push]
    exact hq
  repeat (first | simp only [bne_self_eq_false, Bool.false_eq_true, if_false, Bool.not_true] | lk)
  exact codeAny_builtin dn_entry fin

theorem make_D {rest : List Value} {init : Value} (Y : MakesD (model prog w) h C) (hi : Looks (model prog w) h (typeLookup (.ref C) "__init__") (some init))
    (hb : ∀ self, Looks (model prog w) h (bindSpecial init self) (init, [self]))
    (hq : codeAny (model prog w) (A.under (.builtin "type.__call__" ⟨.ref C :: rest, []⟩)) (.call init ⟨.ref (h.objs.size + 1) :: rest, []⟩) (InitBack (h.objs.size + 1) R) ⟨(h.push emptyDict).push (dictInst C h.objs.size), g, d, t, os⟩) :
    codeAny (model prog w) A (.call (.ref C) ⟨rest, []⟩) R ⟨h, g, d, t, os⟩ := by
  have Y' := Y
  obtain ⟨⟨oc, od, cd, sl, hC, e1, e2⟩, mro, made, base, self, top, call, typ⟩ := Y
  refine codeAny_of_tree ?_
  show wpAny _ _ (callAny (.ref C) _) _ _ _
  refine nd_load hC ?_
  show wpAny _ _ (callAny.viaDunder (.ref C) _) _ _ _
  unfold callAny.viaDunder
  refine wpAny_bind (call.at ?_)
  dsimp only
  rw [tc_bind]
  refine wpAny_bind (wpAny_pure (wpAny_bind (wpAny_pure ?_)))
  refine wpAny_pure (a := Fin.again (.call (.builtin "type.__call__") ⟨.ref C :: rest, []⟩)) (And.intro rfl ?_)
  refine codeAny_call_builtin_at (Code.quiet_builtin _ (by decide +kernel)) entry_typeCall (check_slot tc_kind tc_split typ (tc_args _ _ _) ?_)
  unfold Builtin.«type.__call__»
  repeat (first | simp only [Bool.false_eq_true, if_false] | with_reducible refine wpAny_call ?_ | lk)
  refine newD_K Y' ?_
  have k : ∀ b o, h.get? b = some o → ((h.push emptyDict).push (dictInst C h.objs.size)).get? b = some o := fun b o e => Heap.get?_push_of_some _ (Heap.get?_push_of_some _ e)
  have hx : ((h.push emptyDict).push (dictInst C h.objs.size)).get? (h.objs.size + 1) = some (dictInst C h.objs.size) := by heap_get
  have t1 : Looks (model prog w) ((h.push emptyDict).push (dictInst C h.objs.size)) (typeOf (.ref (h.objs.size + 1))) (.ref C) := (Looks.ld hx).andThen .now
  have s1 := self.keeps k
  have i1 := hi.keeps k
  have b1 := (hb (.ref (h.objs.size + 1))).keeps k
  unfold isInstance callSpecial? specialOf
  repeat (first | with_reducible refine wpAny_call ?_ | lk)
  refine codeAny_mono hq fun r s' z => ?_
  rcases r with e | (v | _ | _ | _) <;> first | exact z | exact z.elim | skip
  obtain ⟨rfl, z⟩ := z
  exact wpAny_pure (wpAny_pure z)
end
end Mine
end

noncomputable section
open PySem PySem.Calls PySem.W PyProof.Rows
set_option maxRecDepth 100000
namespace Mine

structure Go (s₁ : Shared) (t : Bool) (s s' : Shared) : Prop where
  good : Good s₁ s'
  ext : ∀ b o, (t && isTab o) = false → s.heap.get? b = some o → s'.heap.get? b = some o
  fresh : ∀ b, s'.heap.get? b = none → s.heap.get? b = none

theorem old_but {h₀ h h' : Heap} {a : Addr} (K : OldK h₀ h) (ha : h₀.get? a = none) (hs : Heap.ExtBut a h h') : OldK h₀ h' := by
  have ne : ∀ b o, h₀.get? b = some o → b ≠ a := fun b o e q => by rw [q, ha] at e; cases e
  have same : ∀ b o, h₀.get? b = some o → h'.get? b = h.get? b := fun b o e => by
    obtain ⟨o', q⟩ := K.there b o e
    rw [q]; exact hs b o' (ne b o e) q
  constructor
  · intro b o e
    have q := same b o e
    have z := K.old b o e
    unfold asItWas at z ⊢
    rw [q]
    refine z.imp id (Or.imp id ?_)
    rintro ⟨rfl, r⟩
    refine ⟨rfl, r.1, r.2.1, fun key => ?_⟩
    rw [OldK.staticOf_congr q]; exact r.2.2 key
  · intro b o e
    rw [same b o e]; exact K.there b o e

section
variable {K : Frag} {mg mb : Str → Option Value} {s₁ s s' s'' : Shared} {t : Bool}
theorem Good.but (G : Good s₁ s) (B : Base K mg mb s₁) {h' : Heap} {tk : Nat} {a : Addr} (ha : s₁.heap.get? a = none) (hs : Heap.ExtBut a s.heap h') : Good s₁ { s with heap := h', toks := tk } := by
  refine ⟨fun b o t e => hs b o (fun q => by rw [q, ha] at e; cases e) (G.ext b o t e), old_but G.old ha hs, G.os, G.gens, fun t ht => ?_⟩
  have := (B.tat t ht).ne
  exact (G.tabs t ht).extBut hs (fun q => this.1 (q ▸ ha)) (fun q => this.2 (q ▸ ha))
theorem Go.start (G : Good s₁ s) : Go s₁ t s s := ⟨G, fun _ _ _ e => e, fun _ e => e⟩
theorem Go.trans (x : Go s₁ t s s') (y : Go s₁ t s' s'') : Go s₁ t s s'' := ⟨y.good, fun b o z e => y.ext b o z (x.ext b o z e), fun b e => x.fresh b (y.fresh b e)⟩
theorem Go.up (x : Go s₁ false s s') : Go s₁ t s s' := ⟨x.good, fun b o _ e => x.ext b o rfl e, x.fresh⟩
theorem Go.keep (x : Go s₁ t s s') {h' : Heap} {tk : Nat} (k : Keep s'.heap h') : Go s₁ t s { s' with heap := h', toks := tk } :=
  ⟨x.good.keep k, fun b o z e => k b o (x.ext b o z e), fun b e => x.fresh b (by
    cases q : s'.heap.get? b with
    | none => rfl
    | some o => have : h'.get? b = none := e
                rw [k b o q] at this; cases this)⟩
theorem Go.tok (x : Go s₁ t s s') (tk : Nat) : Go s₁ t s { s' with toks := tk } := ⟨x.good.tok tk, x.ext, x.fresh⟩
theorem Go.but (x : Go s₁ t s s') (B : Base K mg mb s₁) {h' : Heap} {tk : Nat} {a : Addr} (ha : s.heap.get? a = none) (hs : Heap.ExtBut a s'.heap h') (G : Good s₁ s) : Go s₁ t s { s' with heap := h', toks := tk } :=
  ⟨x.good.but B (G.fresh ha) hs, fun b o z e => hs b o (fun q => by rw [q, ha] at e; cases e) (x.ext b o z e), fun b e => by
    by_cases q : b = a
    · exact q ▸ ha
    · refine x.fresh b ?_
      cases q' : s'.heap.get? b with
      | none => rfl
      | some o => have : h'.get? b = none := e
                  rw [hs b o q q'] at this; cases this⟩
theorem Go.same (x : Go s₁ t s s') (B : Base K mg mb s₁) {h' : Heap} {tk : Nat} {a : Addr} (ha : s.heap.get? a = none) (hs : Heap.SameBut a s'.heap h') (G : Good s₁ s) : Go s₁ t s { s' with heap := h', toks := tk } :=
  x.but B ha hs.extBut G
theorem Go.Ext (x : Go s₁ t s s') : Ext s.heap s'.heap := fun b o z e => x.ext b o (by rw [z]; exact Bool.and_false t) e
theorem Go.ns (x : Go s₁ t s s') {a : Addr} {m} (n : s.heap.Ns a m) : s'.heap.Ns a m := x.Ext.ns n
theorem Go.cell (x : Go s₁ t s s') {a : Addr} {v} (n : s.heap.IsCell a v) : s'.heap.IsCell a v := x.Ext.cell n
theorem Go.list (x : Go s₁ t s s') {a : Addr} {v} (n : s.heap.IsList a v) : s'.heap.IsList a v := x.Ext.list n
theorem Go.isD {w : World} (x : Go s₁ t s s') {a : Addr} {cls b} (n : IsD w s.heap a cls b) : IsD w s'.heap a cls b := n.ext x.Ext
theorem Go.obj (x : Go s₁ t s s') {a : Addr} {o : Obj} (z : isTab o = false) (n : s.heap.get? a = some o) : s'.heap.get? a = some o := x.Ext _ _ z n
theorem Keep.refl (h : Heap) : Keep h h := fun _ _ e => e
theorem Keep.trans {h h' h'' : Heap} (x : Keep h h') (y : Keep h' h'') : Keep h h'' := fun b o e => y b o (x b o e)
theorem Keep.push (h : Heap) (o : Obj) : Keep h (h.push o) := fun _ _ e => Heap.get?_push_of_some o e
end

/-! ## something to walk over -/
structure Wk (prog : Program) (w : World) (I : Addr) (fp : List Addr) (n : Nat) (P : Nat → Value → Prop) (St : Nat → Heap → Prop) : Prop where
  W : ∀ A : Around, A.handled = none → Walks prog w A I fp [I] n P St
  nt : ∀ i h, St i h → ∀ b ∈ fp, ∃ o, h.get? b = some o ∧ isTab o = false
section
variable {prog : Program} {w : World} {I : Addr} {fp : List Addr} {n : Nat} {P : Nat → Value → Prop} {St : Nat → Heap → Prop}
theorem Wk.ext (x : Wk prog w I fp n P St) {i : Nat} {h h' : Heap} (st : St i h) (e : Ext h h') : St i h' :=
  (x.W {} rfl).frame i h h' st fun b hb o ho => by
    obtain ⟨o', q, z⟩ := x.nt i h st b hb
    rw [q] at ho; cases ho
    exact e _ _ z q
theorem Wk.but (x : Wk prog w I fp n P St) {i : Nat} {h h' : Heap} {a : Addr} (st : St i h) (e : Heap.ExtBut a h h') (ha : a ∉ fp) : St i h' :=
  (x.W {} rfl).frame i h h' st fun b hb o ho => e b o (fun q => ha (q ▸ hb)) ho
theorem Wk.I_in (x : Wk prog w I fp n P St) : I ∈ fp := (x.W {} rfl).sub I (by simp)
end

section
variable {prog : Program} {w : World} {A : Around} {E : Value → Shared → Prop} {s : Shared}
/-- a for loop over something to walk -/
theorem for_W {I : Addr} {fp : List Addr} {n : Nat} {P : Nat → Value → Prop} {St : Nat → Heap → Prop} {R : Result → Shared → Prop} {x : Str} {px : Pos} {body : List Stmt} {env : Env} (W : Wk prog w I fp n P St) (hA : A.handled = none)
    (J : Nat → Shared → Prop) (hst : ∀ i s, J i s → St i s.heap)
    (step : ∀ i s v h' tk, i < n → J i s → P i v → St (i + 1) h' → Heap.ExtBut I s.heap h' → ∀ N,
      wpAny (model prog w) A (storeName env x v) (fun _ s₂ => wpAny (model prog w) A (execs body env) (fun f s₃ => match f with
        | .next | .cont => J (i + 1) s₃ | .brk => R (.ok .next) s₃ | .ret v => R (.ok (.ret v)) s₃) N s₂) N { s with heap := h', toks := tk })
    (fin : ∀ s h' tk, J n s → Heap.ExtBut I s.heap h' → R (.ok .next) { s with heap := h', toks := tk })
    (h : J 0 s) : codeAny (model prog w) A (.forLoop (.Name x px) (.ref I) body [] env) R s := by
  refine codeAny_forLoop (fun k s => ∃ i, i ≤ n ∧ k = n - i ∧ J i s) ?_ n ⟨0, Nat.zero_le _, rfl, h⟩
  rintro k s ⟨i, hi, rfl, j⟩
  by_cases e : i = n
  · subst e
    refine (W.W A hA).done s _ _ (hst _ _ j) fun h' tk hk => ?_
    exact wpAny_execs_nil (fin s h' tk j fun b o hb e => hk b o (by simpa using hb) e)
  · have hlt : i < n := Nat.lt_of_le_of_ne hi e
    refine (W.W A hA).item i s _ _ hlt (hst _ _ j) fun v h' tk hv hst' hk => ?_
    refine wpAny_assign_Name (wpAny_mono (step i s v h' tk hlt j hv hst' (fun b o hb e => hk b o (by simpa using hb) e) _) (fun _ s₂ z => wpAny_mono z (fun f s₃ y => ?_) fun _ _ y => y) fun _ _ y => y)
    cases f with
    | next => exact ⟨n - (i + 1), by omega, i + 1, hlt, rfl, y⟩
    | cont => exact ⟨n - (i + 1), by omega, i + 1, hlt, rfl, y⟩
    | brk => exact y
    | ret v => exact y
end
end Mine
end

noncomputable section
open PySem PySem.Calls PySem.W PyProof.Rows
set_option maxRecDepth 100000
namespace Mine

theorem get_ge {h : Heap} {a : Addr} (ha : h.objs.size ≤ a) : h.get? a = none := by
  cases e : h.get? a with
  | none => rfl
  | some o' => exact absurd (Heap.lt_size e) (Nat.not_lt.mpr ha)
def ExtB (c : Addr) (h h' : Heap) : Prop := ∀ b o, b ≠ c → isTab o = false → h.get? b = some o → h'.get? b = some o
theorem ExtB.of_same {c : Addr} {h h' : Heap} (x : Heap.SameBut c h h') : ExtB c h h' := fun b o z _ e => x.extBut b o z e
theorem ExtB.then {c : Addr} {h h' h'' : Heap} (x : ExtB c h h') (y : Ext h' h'') : ExtB c h h'' := fun b o z t e => y b o t (x b o z t e)
theorem ExtB.list {c : Addr} {h h' : Heap} {a : Addr} {v} (x : ExtB c h h') (n : h.IsList a v) (z : a ≠ c) : h'.IsList a v :=
  let ⟨o, ho, hc, r⟩ := n; ⟨o, x _ _ z (isTab_cls (by rw [hc]; nofun)) ho, hc, r⟩
theorem IsD.extB {w : World} {h h' : Heap} {a : Addr} {cls b} (x : IsD w h a cls b) {c : Addr} (e : ExtB c h h') (n : a ≠ c) : IsD w h' a cls b :=
  let ⟨dd, es, ep, q, r⟩ := x; ⟨dd, es, ep, e a _ n (isTab_dict rfl) q, r⟩
section
variable {prog : Program} {w : World} {I : Addr} {fp : List Addr} {n : Nat} {P : Nat → Value → Prop} {St : Nat → Heap → Prop}
theorem Wk.extB (x : Wk prog w I fp n P St) {i : Nat} {h h' : Heap} {c : Addr} (st : St i h) (e : ExtB c h h') (hc : c ∉ fp) : St i h' :=
  (x.W {} rfl).frame i h h' st fun b hb o ho => by
    obtain ⟨o', q, z⟩ := x.nt i h st b hb
    rw [q] at ho; cases ho
    exact e _ _ (fun q => hc (q ▸ hb)) z q
end

abbrev testsOf (ifs : List Expr) (cenv : Env) : Sem Bool := forIn ifs true fun c r => if r = true then do let ok ← isTrue c cenv (eval c cenv); pure (ForInStep.yield ok) else pure (ForInStep.yield r)

section
variable {prog : Program} {w : World} {A : Around} {E : Value → Shared → Prop} {s : Shared}
theorem list_lt {h : Heap} {a : Addr} {v} (n : h.IsList a v) : ∃ o, h.get? a = some o := let ⟨o, ho, _⟩ := n; ⟨o, ho⟩

/-- the turns of a list comprehension -/
theorem listLoop_W {I D c : Addr} {fp : List Addr} {n : Nat} {P : Nat → Value → Prop} {St : Nat → Heap → Prop} {R : Result → Shared → Prop} {elt iter : Expr} {x : Str} {px : Pos} {ifs : List Expr} {scope : Scope} {pos : Pos} {cenv : Env}
    (W : Wk prog w I fp n P St) (hA : A.handled = none) (hD : D ∉ fp) (hc : c ∉ fp) (hcD : D ≠ c) (hn : n ≤ 1000)
    (J : Nat → List Value → Shared → Prop)
    (stab : ∀ i ys s h' tk a, a = I ∨ a = D → J i ys s → Heap.ExtBut a s.heap h' → J i ys { s with heap := h', toks := tk })
    (turn : ∀ i ys v s, i < n → ys.length ≤ i → P i v → J i ys s → s.heap.IsList D ys.toArray → St (i + 1) s.heap → ∀ N,
      wpAny (model prog w) A (storeName cenv x v) (fun _ s₂ => wpAny (model prog w) A (testsOf ifs cenv) (fun ok s₃ =>
        if ok = true then wpAny (model prog w) A (eval elt cenv) (fun y s₄ => ExtB c s.heap s₄.heap ∧ J (i + 1) (ys ++ [y]) s₄) N s₃
        else ExtB c s.heap s₃.heap ∧ J (i + 1) ys s₃) N s₂) N s)
    (fin : ∀ ys s, ys.length ≤ n → J n ys s → s.heap.IsList D ys.toArray → R (.ok .next) s)
    (j : J 0 [] s) (hl : s.heap.IsList D #[]) (st : St 0 s.heap) :
    codeAny (model prog w) A (.compStart (.ListComp elt [⟨.Name x px, iter, ifs, 0⟩] scope pos) 0 (.ref I) (.ref D) cenv) R s := by
  have hDI : D ≠ I := fun q => hD (q ▸ W.I_in)
  have loop : codeAny (model prog w) A (.compLoop (.ListComp elt [⟨.Name x px, iter, ifs, 0⟩] scope pos) 0 (.ref I) (.ref D) cenv) R s := by
    refine codeAny_compLoop_tests (fun k s => ∃ i ys, i ≤ n ∧ k = n - i ∧ ys.length ≤ i ∧ J i ys s ∧ s.heap.IsList D ys.toArray ∧ St i s.heap) ?_ n ⟨0, [], Nat.zero_le _, rfl, Nat.le_refl _, j, hl, st⟩
    rintro k s ⟨i, ys, hi, rfl, hy, j, hl, st⟩
    by_cases e : i = n
    · subst e
      refine (W.W A hA).done s _ _ st fun h' tk hk => ?_
      have hb : Heap.ExtBut I s.heap h' := fun b o hb e => hk b o (by simpa using hb) e
      exact fin ys _ hy (stab _ _ _ _ _ _ (.inl rfl) j hb) (hl.extBut hb hDI)
    · have hlt : i < n := Nat.lt_of_le_of_ne hi e
      refine (W.W A hA).item i s _ _ hlt st fun v h' tk hv hst' hk => ?_
      have hb : Heap.ExtBut I s.heap h' := fun b o hb e => hk b o (by simpa using hb) e
      have hl' : h'.IsList D ys.toArray := hl.extBut hb hDI
      refine wpAny_assign_Name (wpAny_mono (turn i ys v { s with heap := h', toks := tk } hlt hy hv (stab _ _ _ _ _ _ (.inl rfl) j hb) hl' hst' _) (fun _ s₂ z => wpAny_mono z (fun ok s₃ y => ?_) fun _ _ y => y) fun _ _ y => y)
      cases ok with
      | false =>
        simp only [Bool.false_eq_true, if_false] at y ⊢
        exact ⟨n - (i + 1), by omega, i + 1, ys, hlt, rfl, Nat.le_succ_of_le hy, y.2, y.1.list hl' hcD, W.extB hst' y.1 hc⟩
      | true =>
        simp only [if_true] at y ⊢
        refine wpAny_mono y (fun yv s₄ z => ?_) fun _ _ y => y
        have hl₄ := z.1.list hl' hcD
        refine wpAny_list_append hl₄ (fun h₅ hl₅ hs₅ => ?_) (by rw [List.size_toArray, sizeLine_eq]; omega)
        refine ⟨n - (i + 1), by omega, i + 1, ys ++ [yv], hlt, rfl, by simp; omega, ?_, by simpa using hl₅, W.but (W.extB hst' z.1 hc) hs₅.extBut hD⟩
        exact stab _ _ _ _ _ _ (.inr rfl) z.2 hs₅.extBut
  exact codeAny_compStart_list loop ((W.W A hA).self 0 s _ _ st loop)

/-- the turns of a dict comprehension, from texts to ints -/
theorem dictLoop_W {I D c : Addr} {fp : List Addr} {n : Nat} {P : Nat → Value → Prop} {St : Nat → Heap → Prop} {R : Result → Shared → Prop} {kx vx iter : Expr} {x : Str} {px : Pos} {ifs : List Expr} {scope : Scope} {pos : Pos} {cenv : Env} {cls : Value}
    (W : Wk prog w I fp n P St) (hA : A.handled = none) (hD : D ∉ fp) (hc : c ∉ fp) (hcD : D ≠ c) (hn : n ≤ 1000)
    (J : Nat → Bag → Shared → Prop)
    (stab : ∀ i ys s h' tk a, a = I ∨ a = D → J i ys s → Heap.ExtBut a s.heap h' → J i ys { s with heap := h', toks := tk })
    (turn : ∀ i ys v s, i < n → ys.length ≤ i → P i v → J i ys s → IsD w s.heap D cls ys → St (i + 1) s.heap → ∀ N,
      wpAny (model prog w) A (storeName cenv x v) (fun _ s₂ => wpAny (model prog w) A (testsOf ifs cenv) (fun ok s₃ =>
        if ok = true then wpAny (model prog w) A (eval kx cenv) (fun kv s₄ => wpAny (model prog w) A (eval vx cenv) (fun vv s₅ => ∃ k t m u, kv = .str k t ∧ vv = .int m u ∧ ExtB c s.heap s₅.heap ∧ J (i + 1) (Bag.put ys k m) s₅) N s₄) N s₃
        else ExtB c s.heap s₃.heap ∧ J (i + 1) ys s₃) N s₂) N s)
    (fin : ∀ ys s, ys.length ≤ n → J n ys s → IsD w s.heap D cls ys → R (.ok .next) s)
    (j : J 0 [] s) (hl : IsD w s.heap D cls []) (st : St 0 s.heap) :
    codeAny (model prog w) A (.compStart (.DictComp kx vx [⟨.Name x px, iter, ifs, 0⟩] scope pos) 0 (.ref I) (.ref D) cenv) R s := by
  have hDI : D ≠ I := fun q => hD (q ▸ W.I_in)
  have loop : codeAny (model prog w) A (.compLoop (.DictComp kx vx [⟨.Name x px, iter, ifs, 0⟩] scope pos) 0 (.ref I) (.ref D) cenv) R s := by
    refine codeAny_compLoop_testsD (fun k s => ∃ i ys, i ≤ n ∧ k = n - i ∧ List.length ys ≤ i ∧ J i ys s ∧ IsD w s.heap D cls ys ∧ St i s.heap) ?_ n ⟨0, [], Nat.zero_le _, rfl, Nat.le_refl _, j, hl, st⟩
    rintro k s ⟨i, ys, hi, rfl, hy, j, hl, st⟩
    by_cases e : i = n
    · subst e
      refine (W.W A hA).done s _ _ st fun h' tk hk => ?_
      have hb : Heap.ExtBut I s.heap h' := fun b o hb e => hk b o (by simpa using hb) e
      exact fin ys _ hy (stab _ _ _ _ _ _ (.inl rfl) j hb) (hl.extBut hb hDI)
    · have hlt : i < n := Nat.lt_of_le_of_ne hi e
      refine (W.W A hA).item i s _ _ hlt st fun v h' tk hv hst' hk => ?_
      have hb : Heap.ExtBut I s.heap h' := fun b o hb e => hk b o (by simpa using hb) e
      have hl' : IsD w h' D cls ys := hl.extBut hb hDI
      refine wpAny_assign_Name (wpAny_mono (turn i ys v { s with heap := h', toks := tk } hlt hy hv (stab _ _ _ _ _ _ (.inl rfl) j hb) hl' hst' _) (fun _ s₂ z => wpAny_mono z (fun ok s₃ y => ?_) fun _ _ y => y) fun _ _ y => y)
      cases ok with
      | false =>
        simp only [Bool.false_eq_true, if_false] at y ⊢
        exact ⟨n - (i + 1), by omega, i + 1, ys, hlt, rfl, Nat.le_succ_of_le hy, y.2, hl'.extB y.1 hcD, W.extB hst' y.1 hc⟩
      | true =>
        simp only [if_true] at y ⊢
        refine wpAny_mono y (fun kv s₄ z => wpAny_mono z (fun vv s₅ z => ?_) fun _ _ y => y) fun _ _ y => y
        obtain ⟨k, t, m, u, rfl, rfl, z1, z2⟩ := z
        have hl₄ := hl'.extB z1 hcD
        refine dictSet_D hl₄ (by omega) fun h₅ tk₅ hl₅ hs₅ => ?_
        refine ⟨n - (i + 1), by omega, i + 1, Bag.put ys k m, hlt, rfl, ?_, stab _ _ _ _ _ _ (.inr rfl) z2 hs₅.extBut, hl₅, W.but (W.extB hst' z1 hc) hs₅.extBut hD⟩
        have := Bag.put_len (k := k) (n := m) ys
        omega
  exact codeAny_compStart_dict loop ((W.W A hA).self 0 s _ _ st loop)

/-- the comprehension around its turns: nothing of its own in cells -/
theorem listC {elt iter : Expr} {x : Str} {px : Pos} {ifs : List Expr} {scope : Scope} {cl : List (Str × Addr)} {pos : Pos} {env : Env} {use : Option (Value → Sem Unit)} {Q : Value → Shared → Prop}
    (hclos : closureFor scope env = pure cl) (hcell : ∀ y ∈ scope.names, y.2 ≠ .cell) (hkind : scope.kind = .function)
    (hnames : ∀ y ∈ scope.names, y.2 = .local → scope.names.lookup y.1 = some .local)
    (h : wpAny (model prog w) A (eval iter env) (fun xv s₁ => wpAny (model prog w) A (pyIter xv) (fun it s₂ => ∀ D C h' tk, s₂.heap.objs.size ≤ D → s₂.heap.objs.size ≤ C → D ≠ C → Keep s₂.heap h' → h'.Ns C (fun _ => none) → h'.IsList D #[] →
      codeAny (model prog w) A (.compStart (.ListComp elt [⟨.Name x px, iter, ifs, 0⟩] scope pos) 0 it (.ref D) (compEnvC scope cl C env)) (compPost (model prog w) A E use Q (.ref D) C) { s₂ with heap := h', toks := tk }) E s₁) E s)
    (hs : ∀ x, foldedSetIterable iter env x = pure x := by intro _; rfl) :
    wpAny (model prog w) A (comprehension (.ListComp elt [⟨.Name x px, iter, ifs, 0⟩] scope pos) scope env (firstIterPos [⟨.Name x px, iter, ifs, 0⟩] pos) (newList []) false (eval iter env) use) Q E s := by
  refine wpAny_comprehension_free rfl hs hclos hkind hnames (wpAny_mono h (fun xv s₁ h₁ => wpAny_mono h₁ (fun it s₂ h₂ => ?_) fun _ _ e => e) fun _ _ e => e)
  refine wpAny_newObj_type (wpAny_newFunctionEnv hcell (by intro y hy; simp at hy) (fun h₁ hns₁ hsb₁ => ?_) hkind)
  dsimp only at hns₁ hsb₁ ⊢
  refine h₂ s₂.heap.objs.size _ h₁ _ (Nat.le_refl _) ?_ ?_ (fun b o e => ?_) hns₁ ?_
  · rw [Heap.size_push]; exact Nat.le_succ _
  · rw [Heap.size_push]; exact Nat.ne_of_lt (Nat.lt_succ_self _)
  · exact hsb₁.extBut b o (by rw [Heap.size_push]; exact Nat.ne_of_lt (Nat.lt_succ_of_lt (Heap.lt_size e))) (Heap.get?_push_of_some _ (Heap.get?_push_of_some _ e))
  · exact ⟨_, hsb₁.extBut _ _ (by rw [Heap.size_push]; exact Nat.ne_of_lt (Nat.lt_succ_self _)) (Heap.get?_push_of_some _ (Heap.get?_push_size _ rfl)), rfl, _, rfl⟩
theorem dictC {kx vx iter : Expr} {x : Str} {px : Pos} {ifs : List Expr} {scope : Scope} {cl : List (Str × Addr)} {pos : Pos} {env : Env} {use : Option (Value → Sem Unit)} {Q : Value → Shared → Prop}
    (hclos : closureFor scope env = pure cl) (hcell : ∀ y ∈ scope.names, y.2 ≠ .cell) (hkind : scope.kind = .function)
    (hnames : ∀ y ∈ scope.names, y.2 = .local → scope.names.lookup y.1 = some .local)
    (h : wpAny (model prog w) A (eval iter env) (fun xv s₁ => wpAny (model prog w) A (pyIter xv) (fun it s₂ => ∀ D C h' tk, s₂.heap.objs.size ≤ D → s₂.heap.objs.size ≤ C → D ≠ C → Keep s₂.heap h' → h'.Ns C (fun _ => none) → IsD w h' D (.type "dict") [] →
      codeAny (model prog w) A (.compStart (.DictComp kx vx [⟨.Name x px, iter, ifs, 0⟩] scope pos) 0 it (.ref D) (compEnvC scope cl C env)) (compPost (model prog w) A E use Q (.ref D) C) { s₂ with heap := h', toks := tk }) E s₁) E s)
    (hs : ∀ x, foldedSetIterable iter env x = pure x := by intro _; rfl) :
    wpAny (model prog w) A (comprehension (.DictComp kx vx [⟨.Name x px, iter, ifs, 0⟩] scope pos) scope env (firstIterPos [⟨.Name x px, iter, ifs, 0⟩] pos) newDict false (eval iter env) use) Q E s := by
  refine wpAny_comprehension_free rfl hs hclos hkind hnames (wpAny_mono h (fun xv s₁ h₁ => wpAny_mono h₁ (fun it s₂ h₂ => ?_) fun _ _ e => e) fun _ _ e => e)
  refine wpAny_newObj_type (wpAny_newFunctionEnv hcell (by intro y hy; simp at hy) (fun h₁ hns₁ hsb₁ => ?_) hkind)
  dsimp only at hns₁ hsb₁ ⊢
  refine h₂ s₂.heap.objs.size _ h₁ _ (Nat.le_refl _) ?_ ?_ (fun b o e => ?_) hns₁ ?_
  · rw [Heap.size_push]; exact Nat.le_succ _
  · rw [Heap.size_push]; exact Nat.ne_of_lt (Nat.lt_succ_self _)
  · exact hsb₁.extBut b o (by rw [Heap.size_push]; exact Nat.ne_of_lt (Nat.lt_succ_of_lt (Heap.lt_size e))) (Heap.get?_push_of_some _ (Heap.get?_push_of_some _ e))
  · exact ⟨_, _, _, hsb₁.extBut _ _ (by rw [Heap.size_push]; exact Nat.ne_of_lt (Nat.lt_succ_self _)) (Heap.get?_push_of_some _ (Heap.get?_push_size _ rfl)), .nil⟩
end
end Mine
end

noncomputable section
open PySem PySem.Calls PySem.W PyProof.Rows
set_option maxRecDepth 100000
namespace Mine

section
variable {prog : Program} {w : World} {A : Around} {E : Value → Shared → Prop} {s : Shared}
def DAt (h : Heap) (d : Addr) (cls : Value) (es : Array DictEntry) (ep : Nat) : Prop := ∃ dd, h.get? d = some ⟨cls, dd, .dict es ep, #[]⟩

theorem nd_update {α : Type} {M : Model} {a : Addr} {p : Option Value} {f f' : Obj → Obj} {k : Unit → Sem α} {Q : α → Shared → Prop} {o : Obj} (hf : f = f') (ho : s.heap.get? a = some o) (h : wpAny M A (k ()) Q E { s with heap := s.heap.update a f' }) :
    wpAny M A (.update a p f k) Q E s := by
  subst hf
  exact wpAny_bind (f := k) (wpAny_updatePart ho h)
theorem nextKey {it d : Addr} {i ep : Nat} {cls : Value} {es : Array DictEntry} {e : DictEntry} {Q : Option Value → Shared → Prop} (hit : s.heap.IsKeyIter it d i es.size ep)
    (hm : DAt s.heap d cls es ep) (hx : es[i]? = some e)
    (hQ : ∀ h', h'.IsKeyIter it d (i + 1) es.size ep → Heap.SameBut it s.heap h' → Q (some e.key) { s with heap := h' }) :
    wpAny (model prog w) A (pyNext (.ref it)) Q E s := by
  obtain ⟨o, ho, hc, hd⟩ := id hit
  obtain ⟨dd, hod⟩ := hm
  have hlt : i < es.size := by
    rcases Nat.lt_or_ge i es.size with h | h
    · exact h
    · rw [Array.getElem?_eq_none h] at hx; cases hx
  have hup := Heap.get?_update_self (Obj.mapFields (·.setIfInBounds 1 (rawInt ((i : Int) + 1)))) ho (Obj.isFreed_of_fields (Obj.data_mapFields hd _))
  have hit' : (s.heap.update it (Obj.mapFields (·.setIfInBounds 1 (rawInt ((i : Int) + 1))))).IsKeyIter it d (i + 1) es.size ep :=
    ⟨_, hup, (Obj.cls_mapFields ..).trans hc, by rw [Obj.data_mapFields hd]; simp [rawInt]⟩
  have z := hQ _ hit' (Heap.SameBut.update ..)
  unfold pyNext
  refine wpAny_bind (wpAny_attempt (wpAny_callSpecial?_slot (name := Str.ofString "__next__") hit.typeIs F.slot_dict_keyiterator_next
    (wpAny_call_entry F.slot_dict_keyiterator_next hit.typeIs F.entry_dict_keyiterator_next ?_ (F.args_dict_keyiterator_next_1 _))))
  obtain ⟨oc, od, odd, osl⟩ := o
  cases hc; cases hd
  obtain ⟨hp, g, dr, tk, os⟩ := s
  have hgo := ho
  dsimp only at *
  unfold Builtin.«dict_keyiterator.__next__»
  have h0 : ¬ ((i : Int) < 0) := by omega
  repeat (first | simp only [bne_self_eq_false, Bool.false_eq_true, if_false, h0, Int.toNat_natCast, hx] | lk)
  refine nd_update (f' := Obj.mapFields (·.setIfInBounds 1 (rawInt ((i : Int) + 1)))) ?_ hgo ?_
  · kernel_rfl
  generalize hp.update it (Obj.mapFields (·.setIfInBounds 1 (rawInt ((i : Int) + 1)))) = hq at *
  dsimp only
  obtain ⟨o', ho', hc', hd'⟩ := hit'
  obtain ⟨oc', od', odd', osl'⟩ := o'
  cases hc'; cases hd'
  repeat (first | simp only [bne_self_eq_false, Bool.false_eq_true, if_false] | lk)
  exact ⟨_, rfl, wpAny_pure z⟩

theorem endKey {it d : Addr} {i ep : Nat} {cls : Value} {es : Array DictEntry} {Q : Option Value → Shared → Prop} (hh : A.handled = none) (hit : s.heap.IsKeyIter it d i es.size ep)
    (hm : DAt s.heap d cls es ep) (hx : es[i]? = none)
    (hQ : ∀ h', Heap.ExtBut it s.heap h' → Q none { s with heap := h' }) :
    wpAny (model prog w) A (pyNext (.ref it)) Q E s := by
  obtain ⟨o, ho, hc, hd⟩ := id hit
  obtain ⟨dd, hod⟩ := hm
  unfold pyNext
  refine wpAny_bind (wpAny_attempt (wpAny_callSpecial?_slot (name := Str.ofString "__next__") hit.typeIs F.slot_dict_keyiterator_next
    (wpAny_call_entry F.slot_dict_keyiterator_next hit.typeIs F.entry_dict_keyiterator_next ?_ (F.args_dict_keyiterator_next_1 _))))
  have hsb := Heap.SameBut.update s.heap it (Obj.mapFields (·.setIfInBounds 0 .none))
  obtain ⟨oc, od, odd, osl⟩ := o
  cases hc; cases hd
  obtain ⟨hp, g, dr, tk, os⟩ := s
  have hgo := ho
  dsimp only at *
  unfold Builtin.«dict_keyiterator.__next__»
  have h0 : ¬ ((i : Int) < 0) := by omega
  repeat (first | simp only [bne_self_eq_false, Bool.false_eq_true, if_false, h0, Int.toNat_natCast, hx] | lk)
  refine nd_update (f' := Obj.mapFields (·.setIfInBounds 0 .none)) ?_ hgo ?_
  · kernel_rfl
  generalize hp.update it (Obj.mapFields (·.setIfInBounds 0 .none)) = hq at *
  dsimp only
  refine nd_pure ?_
  show wpAny _ _ (newExc (.type "StopIteration") [] >>= _) _ _ _
  refine wpAny_bind ?_
  simp only [newExc, newTuple]
  refine wpAny_bind (wpAny_newObj_type ?_ (by size_fits))
  refine wpAny_bind (m := firstArgMember _ _) (wpAny_of_eq (a := Value.none) (by first | rfl | (simp only [firstArgMember]; rfl)) ?_)
  refine wpAny_newObj_type ?_ (by size_fits)
  simp only [raiseNew]
  refine wpAny_bind (wpAny_handled ?_)
  rw [show A.in1.handled = none from hh]
  refine wpAny_bind (wpAny_pure (wpAny_throw ?_))
  refine wpAny_bind (wpAny_isInstance (T := "StopIteration") (b := true) ⟨_, Heap.get?_push_size _ rfl, rfl⟩ isSubtype_stop ?_)
  exact wpAny_pure (hQ _ ((hsb.extBut.push _).push _))

theorem nextVal {it d : Addr} {i ep : Nat} {cls : Value} {es : Array DictEntry} {e : DictEntry} {Q : Option Value → Shared → Prop} (hit : s.heap.IsValIter it d i es.size ep)
    (hm : DAt s.heap d cls es ep) (hx : es[i]? = some e)
    (hQ : ∀ h', h'.IsValIter it d (i + 1) es.size ep → Heap.SameBut it s.heap h' → Q (some e.val) { s with heap := h' }) :
    wpAny (model prog w) A (pyNext (.ref it)) Q E s := by
  obtain ⟨o, ho, hc, hd⟩ := id hit
  obtain ⟨dd, hod⟩ := hm
  have hlt : i < es.size := by
    rcases Nat.lt_or_ge i es.size with h | h
    · exact h
    · rw [Array.getElem?_eq_none h] at hx; cases hx
  have hup := Heap.get?_update_self (Obj.mapFields (·.setIfInBounds 1 (rawInt ((i : Int) + 1)))) ho (Obj.isFreed_of_fields (Obj.data_mapFields hd _))
  have hit' : (s.heap.update it (Obj.mapFields (·.setIfInBounds 1 (rawInt ((i : Int) + 1))))).IsValIter it d (i + 1) es.size ep :=
    ⟨_, hup, (Obj.cls_mapFields ..).trans hc, by rw [Obj.data_mapFields hd]; simp [rawInt]⟩
  have z := hQ _ hit' (Heap.SameBut.update ..)
  unfold pyNext
  refine wpAny_bind (wpAny_attempt (wpAny_callSpecial?_slot (name := Str.ofString "__next__") hit.typeIs F.slot_dict_valueiterator_next
    (wpAny_call_entry F.slot_dict_valueiterator_next hit.typeIs F.entry_dict_valueiterator_next ?_ (F.args_dict_valueiterator_next_1 _))))
  obtain ⟨oc, od, odd, osl⟩ := o
  cases hc; cases hd
  obtain ⟨hp, g, dr, tk, os⟩ := s
  have hgo := ho
  dsimp only at *
  unfold Builtin.«dict_valueiterator.__next__»
  have h0 : ¬ ((i : Int) < 0) := by omega
  repeat (first | simp only [bne_self_eq_false, Bool.false_eq_true, if_false, h0, Int.toNat_natCast, hx] | lk)
  refine nd_update (f' := Obj.mapFields (·.setIfInBounds 1 (rawInt ((i : Int) + 1)))) ?_ hgo ?_
  · kernel_rfl
  generalize hp.update it (Obj.mapFields (·.setIfInBounds 1 (rawInt ((i : Int) + 1)))) = hq at *
  dsimp only
  obtain ⟨o', ho', hc', hd'⟩ := hit'
  obtain ⟨oc', od', odd', osl'⟩ := o'
  cases hc'; cases hd'
  repeat (first | simp only [bne_self_eq_false, Bool.false_eq_true, if_false] | lk)
  exact ⟨_, rfl, wpAny_pure z⟩

theorem endVal {it d : Addr} {i ep : Nat} {cls : Value} {es : Array DictEntry} {Q : Option Value → Shared → Prop} (hh : A.handled = none) (hit : s.heap.IsValIter it d i es.size ep)
    (hm : DAt s.heap d cls es ep) (hx : es[i]? = none)
    (hQ : ∀ h', Heap.ExtBut it s.heap h' → Q none { s with heap := h' }) :
    wpAny (model prog w) A (pyNext (.ref it)) Q E s := by
  obtain ⟨o, ho, hc, hd⟩ := id hit
  obtain ⟨dd, hod⟩ := hm
  unfold pyNext
  refine wpAny_bind (wpAny_attempt (wpAny_callSpecial?_slot (name := Str.ofString "__next__") hit.typeIs F.slot_dict_valueiterator_next
    (wpAny_call_entry F.slot_dict_valueiterator_next hit.typeIs F.entry_dict_valueiterator_next ?_ (F.args_dict_valueiterator_next_1 _))))
  have hsb := Heap.SameBut.update s.heap it (Obj.mapFields (·.setIfInBounds 0 .none))
  obtain ⟨oc, od, odd, osl⟩ := o
  cases hc; cases hd
  obtain ⟨hp, g, dr, tk, os⟩ := s
  have hgo := ho
  dsimp only at *
  unfold Builtin.«dict_valueiterator.__next__»
  have h0 : ¬ ((i : Int) < 0) := by omega
  repeat (first | simp only [bne_self_eq_false, Bool.false_eq_true, if_false, h0, Int.toNat_natCast, hx] | lk)
  refine nd_update (f' := Obj.mapFields (·.setIfInBounds 0 .none)) ?_ hgo ?_
  · kernel_rfl
  generalize hp.update it (Obj.mapFields (·.setIfInBounds 0 .none)) = hq at *
  dsimp only
  refine nd_pure ?_
  show wpAny _ _ (newExc (.type "StopIteration") [] >>= _) _ _ _
  refine wpAny_bind ?_
  simp only [newExc, newTuple]
  refine wpAny_bind (wpAny_newObj_type ?_ (by size_fits))
  refine wpAny_bind (m := firstArgMember _ _) (wpAny_of_eq (a := Value.none) (by first | rfl | (simp only [firstArgMember]; rfl)) ?_)
  refine wpAny_newObj_type ?_ (by size_fits)
  simp only [raiseNew]
  refine wpAny_bind (wpAny_handled ?_)
  rw [show A.in1.handled = none from hh]
  refine wpAny_bind (wpAny_pure (wpAny_throw ?_))
  refine wpAny_bind (wpAny_isInstance (T := "StopIteration") (b := true) ⟨_, Heap.get?_push_size _ rfl, rfl⟩ isSubtype_stop ?_)
  exact wpAny_pure (hQ _ ((hsb.extBut.push _).push _))

theorem CRel.at' {es : List DictEntry} {b : Bag} (x : CRel w es b) : ∀ {i : Nat} {e : DictEntry}, es[i]? = some e → ∃ k n, b[i]? = some (k, n) ∧ (∃ t, e.key = .str k t) ∧ ∃ t, e.val = .int n t := by
  induction x with
  | nil => intro i e h; cases h
  | @cons e₀ k n es r h1 h2 h3 _ ih =>
    intro i e h
    cases i with
    | zero => simp at h; subst h; exact ⟨k, n, rfl, h2, h3⟩
    | succ i => simp at h; exact ih h
def KeyAt (b : Bag) (i : Nat) (v : Value) : Prop := ∃ k n t, b[i]? = some (k, n) ∧ v = .str k t
def ValAt (b : Bag) (i : Nat) (v : Value) : Prop := ∃ k n t, b[i]? = some (k, n) ∧ v = .int n t
theorem DAt.extBut {h h' : Heap} {d a : Addr} {cls : Value} {es : Array DictEntry} {ep : Nat} (x : DAt h d cls es ep) (e : Heap.ExtBut a h h') (n : d ≠ a) : DAt h' d cls es ep := let ⟨dd, q⟩ := x; ⟨dd, e d _ n q⟩

theorem wkKeys {I d : Addr} {cls : Value} {es : Array DictEntry} {ep : Nat} {b : Bag} (hne : d ≠ I) (c : CRel w es.toList b) :
    Wk prog w I [I, d] b.length (KeyAt b) (fun i h => h.IsKeyIter I d i es.size ep ∧ DAt h d cls es ep) := by
  have hl : es.size = b.length := by have := c.len; simpa using this
  refine ⟨fun A hA => ⟨by simp, ?_, ?_, ?_, ?_⟩, ?_⟩
  · rintro i h h' ⟨a, z⟩ k
    exact ⟨a.at fun o e => k I (by simp) o e, let ⟨dd, q⟩ := z; ⟨dd, k d (by simp) _ q⟩⟩
  · rintro i s Q E hi ⟨a, z⟩ hQ
    have hi' : i < es.size := by omega
    obtain ⟨k, n, h1, ⟨t, h2⟩, _⟩ := c.at' (i := i) (e := es[i]) (by simp [hi'])
    refine nextKey a z (e := es[i]) (by simp [hi']) fun h' a' hs => ?_
    exact hQ _ h' s.toks ⟨k, n, t, h1, h2⟩ ⟨a', z.extBut hs.extBut hne⟩ fun b o hb e => hs.extBut b o (fun q => hb (by simp [q])) e
  · rintro s Q E ⟨a, z⟩ hQ
    exact endKey hA a z (by simp [hl]) fun h' e => hQ h' s.toks fun b o hb q => e b o (fun q => hb (by simp [q])) q
  · rintro i s Q E ⟨a, z⟩ hQ
    exact wpAny_pyIter_keyiter a hQ
  · rintro i h ⟨⟨o, ho, hc, _⟩, ⟨dd, q⟩⟩ b hb
    simp at hb
    rcases hb with rfl | rfl
    · exact ⟨o, ho, isTab_cls (by rw [hc]; nofun)⟩
    · exact ⟨_, q, isTab_dict rfl⟩
theorem wkVals {I d : Addr} {cls : Value} {es : Array DictEntry} {ep : Nat} {b : Bag} (hne : d ≠ I) (c : CRel w es.toList b) :
    Wk prog w I [I, d] b.length (ValAt b) (fun i h => h.IsValIter I d i es.size ep ∧ DAt h d cls es ep) := by
  have hl : es.size = b.length := by have := c.len; simpa using this
  refine ⟨fun A hA => ⟨by simp, ?_, ?_, ?_, ?_⟩, ?_⟩
  · rintro i h h' ⟨a, z⟩ k
    exact ⟨a.at fun o e => k I (by simp) o e, let ⟨dd, q⟩ := z; ⟨dd, k d (by simp) _ q⟩⟩
  · rintro i s Q E hi ⟨a, z⟩ hQ
    have hi' : i < es.size := by omega
    obtain ⟨k, n, h1, _, ⟨t, h2⟩⟩ := c.at' (i := i) (e := es[i]) (by simp [hi'])
    refine nextVal a z (e := es[i]) (by simp [hi']) fun h' a' hs => ?_
    exact hQ _ h' s.toks ⟨k, n, t, h1, h2⟩ ⟨a', z.extBut hs.extBut hne⟩ fun b o hb e => hs.extBut b o (fun q => hb (by simp [q])) e
  · rintro s Q E ⟨a, z⟩ hQ
    exact endVal hA a z (by simp [hl]) fun h' e => hQ h' s.toks fun b o hb q => e b o (fun q => hb (by simp [q])) q
  · rintro i s Q E ⟨a, z⟩ hQ
    exact wpAny_pyIter_valiter a hQ
  · rintro i h ⟨⟨o, ho, hc, _⟩, ⟨dd, q⟩⟩ b hb
    simp at hb
    rcases hb with rfl | rfl
    · exact ⟨o, ho, isTab_cls (by rw [hc]; nofun)⟩
    · exact ⟨_, q, isTab_dict rfl⟩

theorem wkStr {x : Str} {t : Tok} {Q : Value → Shared → Prop}
    (hQ : ∀ (o : Obj) (St : Nat → Heap → Prop), Wk prog w s.heap.objs.size [s.heap.objs.size] x.cps.size (SignAt x) St → St 0 (s.heap.push o) → Q (.ref s.heap.objs.size) { s with heap := s.heap.push o }) :
    wpAny (model prog w) A (pyIter (.str x t)) Q E s := by
  cases ha : x.cps.all (· < 128)
  · refine wpAny_pyIter_wide ha (hQ _ _ ⟨fun A' hA => Walks.strWide hA _ x t, ?_⟩ ⟨_, Heap.get?_push_size _ rfl, rfl, rfl⟩)
    rintro i h ⟨o, ho, hc, _⟩ b hb
    simp at hb; subst hb
    exact ⟨o, ho, isTab_cls (by rw [hc]; nofun)⟩
  · refine wpAny_pyIter_ascii ha (hQ _ _ ⟨fun A' hA => Walks.strAscii hA _ x t, ?_⟩ ⟨_, Heap.get?_push_size _ rfl, rfl, rfl⟩)
    rintro i h ⟨o, ho, hc, _⟩ b hb
    simp at hb; subst hb
    exact ⟨o, ho, isTab_cls (by rw [hc]; nofun)⟩

theorem wkList {I ax : Addr} {items : Array Value} (hne : ax ≠ I) : Wk prog w I [I, ax] items.size (fun i v => items[i]? = some v) (fun i h => h.IsListIter I ax i ∧ h.IsList ax items) := by
  refine ⟨fun A hA => Walks.list hA I ax hne items, ?_⟩
  rintro i h ⟨⟨o, ho, hc, _⟩, ⟨o', ho', hc', _⟩⟩ b hb
  simp at hb
  rcases hb with rfl | rfl
  · exact ⟨o, ho, isTab_cls (by rw [hc]; nofun)⟩
  · exact ⟨o', ho', isTab_cls (by rw [hc']; nofun)⟩

/-- iterating over a dict, or a Counter -/
theorem iterD {K : Frag} {d : Addr} {cls : Value} {b : Bag} {Q : Value → Shared → Prop} (X : K.In s.heap) (dk : DK K cls) (D : IsD w s.heap d cls b) (hd : d ≠ sysModules)
    (hQ : ∀ (o : Obj) (St : Nat → Heap → Prop), Wk prog w s.heap.objs.size [s.heap.objs.size, d] b.length (KeyAt b) St → St 0 (s.heap.push o) → Q (.ref s.heap.objs.size) { s with heap := s.heap.push o }) :
    wpAny (model prog w) A (pyIter (.ref d)) Q E s := by
  obtain ⟨dd, es, ep, ho, c⟩ := D
  have hne : d ≠ s.heap.objs.size := fun q => absurd (Heap.lt_size ho) (by rw [q]; exact Nat.lt_irrefl _)
  have L0 : ∀ M : Model, Looks M s.heap (typeOf (.ref d)) cls := fun M => (Looks.ld ho).andThen .now
  have z := hQ { cls := .type "dict_keyiterator", data := .fields #[.ref d, .int 0 0, .int es.size 0, .int ep 0] } _ (wkKeys (prog := prog) (cls := cls) (ep := ep) hne c) ⟨⟨_, Heap.get?_push_size _ rfl, rfl, rfl⟩, ⟨dd, Heap.get?_push_of_some _ ho⟩⟩
  have LI : Looks (model prog w) s.heap (specialOf (.ref d) "__iter__") (some (.builtin "dict.__iter__")) := (L0 _).andThen (looks_findIn X dk.itr)
  unfold pyIter
  refine wpAny_bind (LI.here ?_)
  show wpAny _ A (callSpecialIfBoundUnlessNone? (.ref d) "__iter__" _ >>= _) Q E s
  refine wpAny_bind ?_
  simp only [callSpecialIfBoundUnlessNone?, bindSpecialIfBound?]
  refine wpAny_holding (wpAny_bind (wpAny_bind (LI.here ?_)))
  simp only [BI.diter.bind]
  refine wpAny_bind (wpAny_askSetting (wpAny_ite ?_))
  have LN : ∀ h' : Heap, Keep (s.heap.push { cls := .type "dict_keyiterator", data := .fields #[.ref d, .int 0 0, .int es.size 0, .int ep 0] }) h' → Looks (model prog w) h' (specialOf (.ref s.heap.objs.size) "__next__") (some (.builtin "dict_keyiterator.__next__")) := fun h' k =>
    ((Looks.ld (k _ _ (Heap.get?_push_size _ rfl))).andThen .now).andThen (Looks.of_pure F.slot_dict_keyiterator_next.lookup)
  have hd' : (d == sysModules) = false := by simpa using hd
  obtain ⟨hp, g, dr, tk, os⟩ := s
  dsimp only at *
  have LN' := LN _ (fun _ _ e => e)
  split
  · refine wpAny_bind (wpAny_pure (wpAny_pure ?_))
    simp only [builtin_beq_none, Bool.false_eq_true, if_false]
    refine wpAny_bind (callBi BI.diter ((L0 _).andThen (looks_subIn X dk.sub)) (F.args_dict_iter_1 _) ?_)
    unfold Builtin.«dict.__iter__» Builtin.Dict.dictSlotNone Builtin.Dict.showsAll
    refine wpAny_bind (wpAny_bind (notOrd X dk rfl (fun _ => L0 _) ?_))
    repeat (first | simp only [hd', Bool.false_eq_true, if_false] | lk)
    exact ⟨_, rfl, wpAny_pure (wpAny_bind (LN'.here (wpAny_pure z)))⟩
  · refine wpAny_tryCatch (wpAny_bind (wpAny_pure (wpAny_pure ?_)))
    simp only [builtin_beq_none, Bool.false_eq_true, if_false]
    refine wpAny_bind (callBi BI.diter ((L0 _).andThen (looks_subIn X dk.sub)) (F.args_dict_iter_1 _) ?_)
    unfold Builtin.«dict.__iter__» Builtin.Dict.dictSlotNone Builtin.Dict.showsAll
    refine wpAny_bind (wpAny_bind (notOrd X dk rfl (fun _ => L0 _) ?_))
    repeat (first | simp only [hd', Bool.false_eq_true, if_false] | lk)
    exact ⟨_, rfl, wpAny_pure (wpAny_bind (LN'.here (wpAny_pure z)))⟩
end
end Mine
end

noncomputable section
open PySem PySem.Calls PySem.W PyProof.Rows
set_option maxRecDepth 100000
namespace Mine

def IsX (w : World) (h : Heap) (a : Addr) (cls : Value) (dd : Option Addr) (b : Bag) : Prop := ∃ es ep, h.get? a = some ⟨cls, dd, .dict es ep, #[]⟩ ∧ CRel w es.toList b
theorem IsX.d {w : World} {h : Heap} {a : Addr} {cls : Value} {dd : Option Addr} {b : Bag} (x : IsX w h a cls dd b) : IsD w h a cls b := ⟨dd, x⟩
theorem IsX.extBut {w : World} {h h' : Heap} {a : Addr} {cls : Value} {dd : Option Addr} {b : Bag} (x : IsX w h a cls dd b) {c : Addr} (e : Heap.ExtBut c h h') (n : a ≠ c) : IsX w h' a cls dd b := let ⟨es, ep, q, r⟩ := x; ⟨es, ep, e a _ n q, r⟩
theorem IsX.keep {w : World} {h h' : Heap} {a : Addr} {cls : Value} {dd : Option Addr} {b : Bag} (x : IsX w h a cls dd b) (e : Keep h h') : IsX w h' a cls dd b := let ⟨es, ep, q, r⟩ := x; ⟨es, ep, e a _ q, r⟩
/-- its own dict (of attributes) is empty -/
def OwnNil (h : Heap) (a : Addr) (C : Addr) : Prop := ∃ dx es ep, h.get? a = some ⟨.ref C, some dx, .dict es ep, #[]⟩ ∧ h.Ns dx (fun _ => none)
theorem OwnNil.ext {h h' : Heap} {a C : Addr} (x : OwnNil h a C) (e : Ext h h') : OwnNil h' a C := let ⟨dx, es, ep, q, r⟩ := x; ⟨dx, es, ep, e _ _ (isTab_dict rfl) q, e.ns r⟩

section
variable {prog : Program} {w : World} {A : Around} {E : Value → Shared → Prop} {s : Shared} {a : Addr} {cls : Value} {b : Bag} {k : Str} {t : Tok} {K : Frag} {dd : Option Addr}
theorem dictSet_X {n : Int} {u : Tok} {Q : Unit → Shared → Prop} (D : IsX w s.heap a cls dd b) (hz : b.length ≤ 1000)
    (h : ∀ h' tk, IsX w h' a cls dd (b.put k n) → Heap.SameBut a s.heap h' → Q () { s with heap := h', toks := tk }) : wpAny (model prog w) A (dictSet a (.str k t) (.int n u)) Q E s := by
  obtain ⟨es, ep, ho, x⟩ := D
  have hl : es.size = b.length := by rw [← x.len]; simp
  unfold dictSet
  refine wpAny_holding (wpAny_bind (wpAny_pyHash_str ?_))
  unfold dictSetHashed
  refine wpAny_holding (wpAny_bind (dictFind_D (s := { s with toks := s.toks + 1 }) ho x ?_))
  cases hi : b.idx k with
  | some i =>
    refine wpAny_bind (wpAny_rule (wpAny_bind (wpAny_updateDict (s := { s with toks := s.toks + 1 }) ho rfl (wpAny_point (h _ _ ?_ (Heap.SameBut.update ..))))))
    refine ⟨_, ep, Heap.get?_update_self _ ho rfl, ?_⟩
    have := x.modify hi (n := n) (v := .int n u) ⟨u, rfl⟩
    simpa using this
  | none =>
    refine wpAny_bind (wpAny_rule (wpAny_updateDictKeys (hz := by rw [sizeLine_eq]; omega) (s := { s with toks := s.toks + 1 }) ho rfl (h _ _ ?_ (Heap.SameBut.update ..))))
    refine ⟨_, ep + 1, Heap.get?_update_self _ ho rfl, ?_⟩
    rw [(Bag.idx_none (n := n) hi).2]
    have := x.snoc (k := k) (n := n) (e := ⟨hashStr w k, .str k t, .int n u⟩) rfl ⟨t, rfl⟩ ⟨u, rfl⟩
    simpa using this
theorem setItem_X {n : Int} {u : Tok} {Q : Unit → Shared → Prop} (X : K.In s.heap) (dk : DK K cls) (D : IsX w s.heap a cls dd b) (hz : b.length ≤ 1000)
    (h : ∀ h' tk, IsX w h' a cls dd (b.put k n) → Heap.SameBut a s.heap h' → Q () { s with heap := h', toks := tk }) :
    wpAny (model prog w) A (setItem (.ref a) (.str k t) (.int n u)) Q E s := by
  unfold setItem
  refine wpAny_holding (wpAny_bind (seqKey X dk D.d.type ?_))
  refine wpAny_bind (specialBi BI.dsetitem X (fun _ => D.d.type) dk.set dk.sub (args_dict_setitem _ _ _) ?_)
  show wpAny _ _ (Builtin.Dict.notOrdered "__setitem__" ⟨[.ref a, .str k t, .int n u], []⟩ >>= _) _ _ s
  refine wpAny_bind (notOrd X dk rfl (fun _ => D.d.type) ?_)
  show wpAny _ _ (dictSet a (.str k t) (.int n u) >>= _) _ _ s
  exact wpAny_bind (dictSet_X D hz fun h' tk D' hs => wpAny_pure ⟨_, rfl, wpAny_pure (h h' tk D' hs)⟩)

/-- x.get(key, 0) of a dict -/
theorem dictGet_call {n : Int} {u : Tok} {Q : Value → Shared → Prop} (X : K.In s.heap) (dk : DK K cls) (D : IsD w s.heap a cls b) (hd : a ≠ sysModules) (h : ∀ r tk, r = (b.get k).getD n → ∀ u, Q (.int r u) { s with toks := tk }) :
    wpAny (model prog w) A (call (.builtin "dict.get") [.ref a, .str k t, .int n u]) Q E s := by
  refine callBi BI.dget (D.type.andThen (looks_subIn X dk.sub)) (F.args_dict_get_3 _ _ _) ?_
  have hd' : (a == sysModules) = false := by simpa using hd
  unfold Builtin.«dict.get» Builtin.Dict.keyAndDefault
  refine wpAny_bind (wpAny_bind (notOrd X dk rfl (fun _ => D.type) ?_))
  show wpAny _ _ (pure (a, Value.str k t, some (Value.int n u))) _ _ s
  refine wpAny_pure ?_
  dsimp only
  refine wpAny_bind (dictGet_D D fun r tk h1 h2 => ?_)
  cases hb : b.get k with
  | none =>
    obtain rfl := h1 hb
    dsimp only
    refine wpAny_bind ?_
    unfold Builtin.Dict.missed
    rw [if_neg (by rw [hd']; exact Bool.false_ne_true)]
    exact wpAny_pure (wpAny_pure ⟨_, rfl, h n tk (by rw [hb]; rfl) u⟩)
  | some m =>
    obtain ⟨u', rfl⟩ := h2 m hb
    exact wpAny_pure ⟨_, rfl, h m tk (by rw [hb]; rfl) u'⟩

theorem tnb : (Value.type "method_descriptor" != .type "function" && Value.type "method_descriptor" != .type "method_descriptor" && Value.type "method_descriptor" != .type "wrapper_descriptor") = false := by decide
/-- a built-in method of an object whose own dict is empty -/
theorem method_D {C : Addr} {name : Str} {i ga : String} {pl : Sem Bool} {Q : Value × List Value → Shared → Prop} (X : K.In s.heap) (O : OwnNil s.heap a C)
    (hga : findIn K (.ref C) "__getattribute__" = some (some (.builtin ga))) (hc : (Manifest.canonical ga != "object.__getattribute__") = false) (hk : findIn K (.ref C) "__getattr__" = some none)
    (hf : findIn K (.ref C) name = some (some (.builtin i))) (ht : typeOf (.builtin i) = pure (.type "method_descriptor")) (h : Q (.builtin i, [.ref a]) s) :
    wpAny (model prog w) A (getMethod (.ref a) name pl) Q E s := by
  obtain ⟨dx, es, ep, ho, hn⟩ := O
  have L : Looks (model prog w) s.heap (typeOf (.ref a)) (.ref C) := (Looks.ld ho).andThen .now
  have LT : Looks (model prog w) s.heap (typeOf (.builtin i)) (.type "method_descriptor") := Looks.of_pure ht
  unfold getMethod specialOf
  refine wpAny_bind (wpAny_bind (L.here ((looks_findIn X hga).here ?_)))
  dsimp only
  rw [hc, if_neg (by decide)]
  refine wpAny_bind (wpAny_bind (L.here ((looks_findIn X hk).here ?_)))
  simp only [Option.isSome_none, Bool.false_eq_true, if_false]
  refine wpAny_bind (wpAny_bind (L.here ((looks_findIn X hf).here ?_)))
  dsimp only
  refine wpAny_bind (LT.here ?_)
  rw [tnb, if_neg (by decide)]
  refine wpAny_bind (wpAny_loadPart ho ?_)
  dsimp only
  refine wpAny_bind (wpAny_nsGet hn ?_)
  simp only [Option.isSome_none, Bool.false_eq_true, if_false]
  exact wpAny_bind (wpAny_rule (wpAny_pure h))
/-- a method written in the text, of such an object -/
theorem method_DF {C f : Addr} {name : Str} {ga : String} {pl : Sem Bool} {Q : Value × List Value → Shared → Prop} (X : K.In s.heap) (O : OwnNil s.heap a C)
    (hga : findIn K (.ref C) "__getattribute__" = some (some (.builtin ga))) (hc : (Manifest.canonical ga != "object.__getattribute__") = false) (hk : findIn K (.ref C) "__getattr__" = some none)
    (hf : findIn K (.ref C) name = some (some (.ref f))) (ht : typeIn K (.ref f) = some (.type "function")) (h : Q (.ref f, [.ref a]) s) :
    wpAny (model prog w) A (getMethod (.ref a) name pl) Q E s := by
  obtain ⟨dx, es, ep, ho, hn⟩ := O
  have L : Looks (model prog w) s.heap (typeOf (.ref a)) (.ref C) := (Looks.ld ho).andThen .now
  have LT : Looks (model prog w) s.heap (typeOf (.ref f)) (.type "function") := looks_typeIn X ht
  unfold getMethod specialOf
  refine wpAny_bind (wpAny_bind (L.here ((looks_findIn X hga).here ?_)))
  dsimp only
  rw [hc, if_neg (by decide)]
  refine wpAny_bind (wpAny_bind (L.here ((looks_findIn X hk).here ?_)))
  simp only [Option.isSome_none, Bool.false_eq_true, if_false]
  refine wpAny_bind (wpAny_bind (L.here ((looks_findIn X hf).here ?_)))
  dsimp only
  refine wpAny_bind (LT.here ?_)
  rw [if_neg (by decide)]
  refine wpAny_bind (wpAny_loadPart ho ?_)
  dsimp only
  refine wpAny_bind (wpAny_nsGet hn ?_)
  simp only [Option.isSome_none, Bool.false_eq_true, if_false]
  exact wpAny_bind (wpAny_rule (wpAny_pure h))

/-- dict.__init__, of nothing -/
theorem dictInit_call {Q : Value → Shared → Prop} (X : K.In s.heap) (dk : DK K cls) (D : IsD w s.heap a cls b) (h : Q .none s) :
    wpAny (model prog w) A (call (.builtin "dict.__init__") [.ref a]) Q E s := by
  refine callBi BI.dinit (D.type.andThen (looks_subIn X dk.sub)) (F.args_dict_init_1 _) ?_
  unfold Builtin.«dict.__init__» Builtin.Dict.selfAndRest
  refine wpAny_bind (wpAny_bind (notOrd X dk rfl (fun _ => D.type) ?_))
  obtain ⟨hp, g, dr, tk, os⟩ := s
  repeat lk
  exact ⟨_, rfl, h⟩

theorem method_ty {T : String} {name : Str} {v : Value} {pl : Sem Bool} {Q : Value × List Value → Shared → Prop} (X : K.In s.heap) (ht : typeOf (.type T) = pure (.type "type")) (hs : Manifest.isStub T = false)
    (e : findCls K (.type T) (.type "type") name = some (.val v)) (hh : handedIn v = true) (h : Q (v, []) { s with toks := s.toks + 1 }) : wpAny (model prog w) A (getMethod (.type T) name pl) Q E s := by
  have hstub : opaqueClassAbove (.type T) = pure none := by unfold opaqueClassAbove; dsimp only; rw [hs]; rfl
  have L0 : Looks (model prog w) s.heap (typeOf (.type T)) (.type "type") := Looks.of_pure ht
  have hg : findIn K (.type "type") "__getattribute__" = some (some (.builtin "type.__getattribute__")) := type_tga
  unfold getMethod specialOf
  refine wpAny_bind (wpAny_bind (L0.here ((looks_findIn X hg).here ?_)))
  dsimp only
  rw [if_pos canon_tga]
  refine wpAny_bind (wpAny_mono (Q := fun v => Q (v, [])) (E := E) ?_ (fun _ _ z => wpAny_pure z) fun _ _ z => z)
  have LO : Looks (model prog w) s.heap (opaqueClassAbove (.type T)) none := Looks.of_pure hstub
  refine cls_open X LO L0 hg (looks_hook X (r := none) (by rfl)) (by show subIn K _ _ = _; rfl) e
    (wpAny_pure (by show wpAny _ _ (handedOut v) _ _ _; rw [handedOut_of hh]; exact wpAny_pure h))

/-- isobject(x, dict), of a dict or a Counter -/
theorem isi_dict {Q : Value → Shared → Prop} (X : K.In s.heap) (dk : DK K cls) (D : IsD w s.heap a cls b) (h : Q (.bool true) s) :
    wpAny (model prog w) A (call (.builtin "isinstance") [.ref a, .type "dict"]) Q E s := by
  refine call_isinstance (S := fun _ R s => (K.In s.heap ∧ ∀ M, Looks M s.heap (typeOf (.ref a)) cls) ∧ R (.ok (.ret (.bool true))) s) (fun _ _ _ _ _ hs => isinstance_outer ?_ (by intro e; cases e)) ⟨⟨X, fun M => D.type⟩, h⟩
  rename_i pr' w' A' R' s'
  obtain ⟨⟨X', ht⟩, hq⟩ := hs
  obtain ⟨hp, g, dr, tk, os⟩ := s'
  unfold Builtin.«isinstance.nested»
  refine wpAny_bind ((ht _).at ?_)
  rcases dk.seq with rfl | ⟨C, rfl, hC⟩
  · repeat lk
    exact hq
  · have L3 : Looks (model pr' w') hp (isInstance (.ref a) (.type "dict")) true := (ht _).andThen (looks_subIn X' dk.sub)
    repeat lk
    exact hq
theorem isi_str_dict {x : Str} {Q : Value → Shared → Prop} (h : Q (.bool false) { s with toks := s.toks + 1 }) :
    wpAny (model prog w) A (call (.builtin "isinstance") [.str x t, .type "dict"]) Q E s :=
  call_isinstance (isinstance_false_str (by decide) (by kernel_rfl) (by rw [isSubtype_type]; kernel_rfl)) h
end
end Mine
end

noncomputable section
open PySem PySem.Calls PySem.W PyProof.Rows
set_option maxRecDepth 100000
namespace Mine

theorem boot_dict : bootBuiltins "dict" = some (.type "dict") := by decide +kernel
theorem boot_isinstance : bootBuiltins "isinstance" = some (.builtin "isinstance") := by decide +kernel
theorem boot_min : bootBuiltins "min" = some (.builtin "min") := by decide +kernel
theorem boot_max : bootBuiltins "max" = some (.builtin "max") := by decide +kernel
theorem boot_set : bootBuiltins "set" = some (.type "set") := by decide +kernel
theorem boot_len : bootBuiltins "len" = some (.builtin "len") := by decide +kernel
theorem boot_sum : bootBuiltins "sum" = some (.builtin "sum") := by decide +kernel
theorem boot_all : bootBuiltins "all" = some (.builtin "all") := by decide +kernel
theorem boot_list : bootBuiltins "list" = some (.type "list") := by decide +kernel
theorem boot_zip : bootBuiltins "zip" = some (.type "zip") := by decide +kernel
theorem boot_range : bootBuiltins "range" = some (.type "range") := by decide +kernel
theorem boot_getattr : bootBuiltins "getattr" = some (.builtin "getattr") := by decide +kernel
theorem boot_abs : bootBuiltins "abs" = some (.builtin "abs") := by decide +kernel
theorem boot_round : bootBuiltins "round" = some (.builtin "round") := by decide +kernel
theorem boot_sorted : bootBuiltins "sorted" = some (.builtin "sorted") := by decide +kernel
/-! ## what is asked of the heap that the module leaves -/
structure KF (K : Frag) : Prop where
  f_init : FnIn K 37 "Counter.__init__" (fdOf (inCls 0 (topAt 2))) (.ref 30) 36
  f_copy : FnIn K 44 "Counter.copy" (fdOf (inCls 1 (topAt 2))) .none 43
  f_and : FnIn K 49 "Counter.__and__" (fdOf (inCls 2 (topAt 2))) .none 48
  f_or : FnIn K 54 "Counter.__or__" (fdOf (inCls 3 (topAt 2))) .none 53
  f_ior : FnIn K 61 "Counter.__ior__" (fdOf (inCls 4 (topAt 2))) .none 60
  f_ident : FnIn K 157 "Base._ident" (fdOf (inCls 8 (topAt 6))) .none 156
  f_gs : FnIn K 165 "Base._get_sequences" (fdOf (inCls 9 (topAt 6))) .none 164
  f_gc : FnIn K 170 "Base._get_counters" (fdOf (inCls 10 (topAt 6))) .none 169
  f_ic : FnIn K 177 "Base._intersect_counters" (fdOf (inCls 11 (topAt 6))) .none 176
  f_uc : FnIn K 184 "Base._union_counters" (fdOf (inCls 12 (topAt 6))) .none 183
  f_cc : FnIn K 198 "Base._count_counters" (fdOf (inCls 14 (topAt 6))) .none 197
  f_dist : FnIn K 219 "BaseSimilarity.distance" (fdOf (inCls 0 (topAt 7))) .none 218
  f_sim : FnIn K 226 "BaseSimilarity.similarity" (fdOf (inCls 1 (topAt 7))) .none 225
  f_quick : FnIn K 233 "BaseSimilarity.quick_answer" (fdOf (inCls 2 (topAt 7))) .none 232
  j_init : FnIn K 253 "Jaccard.__init__" (fdOf (inCls 0 (topAt 9))) (.ref 246) 252
  j_max : FnIn K 260 "Jaccard.maximum" (fdOf (inCls 1 (topAt 9))) .none 259
  j_call : FnIn K 267 "Jaccard.__call__" (fdOf (inCls 2 (topAt 9))) .none 266
  s_init : FnIn K 287 "Sorensen.__init__" (fdOf (inCls 0 (topAt 10))) (.ref 280) 286
  s_max : FnIn K 294 "Sorensen.maximum" (fdOf (inCls 1 (topAt 10))) .none 293
  s_call : FnIn K 301 "Sorensen.__call__" (fdOf (inCls 2 (topAt 10))) .none 300
  t_init : FnIn K 321 "Tversky.__init__" (fdOf (inCls 0 (topAt 11))) (.ref 314) 320
  t_max : FnIn K 328 "Tversky.maximum" (fdOf (inCls 1 (topAt 11))) .none 327
  t_call : FnIn K 333 "Tversky.__call__" (fdOf (inCls 2 (topAt 11))) .none 332
  o_init : FnIn K 353 "Overlap.__init__" (fdOf (inCls 0 (topAt 12))) (.ref 346) 352
  o_max : FnIn K 360 "Overlap.maximum" (fdOf (inCls 1 (topAt 12))) .none 359
  o_call : FnIn K 365 "Overlap.__call__" (fdOf (inCls 2 (topAt 12))) .none 364
  f_drawn : FnIn K 377 "_law_drawn" (fdOf (topAt 14)) .none 376
  f_bag : FnIn K 382 "_law_bag" (fdOf (topAt 15)) .none 381
  f_law : FnIn K 387 "law" (fdOf (topAt 16)) .none 386
  kc : DK K (.ref 74)
  df_init : ∃ oc od n sl, K.lookup 30 = some ⟨oc, od, .seq #[.ref 29] n, sl⟩
  mkc : makesD K 74 = true
  c_keep : keepIn K (.ref 74) = true
  c_init : findIn K (.ref 74) "__init__" = some (some (.ref 37))
  t_init' : typeIn K (.ref 37) = some (.type "function")
  c_ga : findIn K (.ref 74) "__getattribute__" = some (some (.builtin "dict.__getattribute__"))
  c_gt : findIn K (.ref 74) "__getattr__" = some none
  c_get : findIn K (.ref 74) "get" = some (some (.builtin "dict.get"))
  c_values : findIn K (.ref 74) "values" = some (some (.builtin "dict.values"))
  g_isinstance : nsIn K mainGlobals "isinstance" = some none
  g_dict : nsIn K mainGlobals "dict" = some none
  g_min : nsIn K mainGlobals "min" = some none
  g_max : nsIn K mainGlobals "max" = some none
  g_set : nsIn K mainGlobals "set" = some none
  g_len : nsIn K mainGlobals "len" = some none
  g_sum : nsIn K mainGlobals "sum" = some none
  g_all : nsIn K mainGlobals "all" = some none
  g_list : nsIn K mainGlobals "list" = some none
  g_zip : nsIn K mainGlobals "zip" = some none
  g_range : nsIn K mainGlobals "range" = some none
  g_getattr : nsIn K mainGlobals "getattr" = some none
  g_abs : nsIn K mainGlobals "abs" = some none
  g_round : nsIn K mainGlobals "round" = some none
  g_sorted : nsIn K mainGlobals "sorted" = some none
  g_Counter : nsIn K mainGlobals "Counter" = some (some (.ref 74))
  c_and : findIn K (.ref 74) "__and__" = some (some (.ref 49))
  c_or : findIn K (.ref 74) "__or__" = some (some (.ref 54))
  c_ior : findIn K (.ref 74) "__ior__" = some (some (.ref 61))
  c_iand : findIn K (.ref 74) "__iand__" = some none
  c_copy : findIn K (.ref 74) "copy" = some (some (.ref 44))
  ty_and : typeIn K (.ref 49) = some (.type "function")
  ty_or : typeIn K (.ref 54) = some (.type "function")
  ty_ior : typeIn K (.ref 61) = some (.type "function")
  ty_copy : typeIn K (.ref 44) = some (.type "function")
  c_cls : ∃ cd, clsIn K 74 = some cd ∧ cd.mro = [.ref 74, .type "dict", .type "object"]
  sm_ident : recIn K 159 "staticmethod" = some [.ref 157] ∨ ∃ rest, recIn K 159 "staticmethod" = some (.ref 157 :: rest)
  sm_get : specialIn K (.ref 159) "__get__" = some (some (.builtin "staticmethod.__get__"))
  sm_takes : takesIn K (.ref 159) = some false
  sm_type : typeIn K (.ref 159) = some (.type "staticmethod")
  c_noset : subIn K (.ref 74) (.type "set") = some false
  c_nofset : subIn K (.ref 74) (.type "frozenset") = some false
  c_type74 : typeIn K (.ref 74) = some (.type "type")
  g_builtins : nsIn K mainGlobals "__builtins__" = some (some (.ref 4))
  o4 : ∃ sl, K.lookup 4 = some ⟨.type "module", some builtinsNs, .plain, sl⟩
  d_init : findCls K (.type "dict") (.type "type") "__init__" = some (.val (.builtin "dict.__init__"))

theorem dkDict {K : Frag} : DK K (.type "dict") := ⟨by rfl, by rfl, by rfl, by rfl, by rfl, by rfl, .inl rfl⟩

/-- what is asked of a similarity class: its own maximum, its own __call__ -/
structure KC (K : Frag) (C fmax fcall finit : Addr) : Prop where
  ga : findIn K (.ref C) "__getattribute__" = some (some (.builtin "object.__getattribute__"))
  gt : findIn K (.ref C) "__getattr__" = some none
  hd : hasDictIn K C = true
  n_qval : findIn K (.ref C) "qval" = some none
  n_as_set : findIn K (.ref C) "as_set" = some none
  n_ks : findIn K (.ref C) "ks" = some none
  n_bias : findIn K (.ref C) "bias" = some none
  n_mod : subIn K (.ref C) (.type "module") = some false
  m_quick : findIn K (.ref C) "quick_answer" = some (some (.ref 233))
  m_ident : findIn K (.ref C) "_ident" = some (some (.ref 159))
  m_gs : findIn K (.ref C) "_get_sequences" = some (some (.ref 165))
  m_gc : findIn K (.ref C) "_get_counters" = some (some (.ref 170))
  m_ic : findIn K (.ref C) "_intersect_counters" = some (some (.ref 177))
  m_uc : findIn K (.ref C) "_union_counters" = some (some (.ref 184))
  m_cc : findIn K (.ref C) "_count_counters" = some (some (.ref 198))
  m_dist : findIn K (.ref C) "distance" = some (some (.ref 219))
  m_sim : findIn K (.ref C) "similarity" = some (some (.ref 226))
  m_max : findIn K (.ref C) "maximum" = some (some (.ref fmax))
  m_call : findIn K (.ref C) "__call__" = some (some (.ref fcall))
  m_init : findIn K (.ref C) "__init__" = some (some (.ref finit))
  mk_ : makesIn K C = true
  keep : keepIn K (.ref C) = true
  only : plainOver K C = true
/-- room for n calls within calls -/
def Rm (A : Around) (n : Nat) : Prop := Room A (4 * n) (20 * n)
theorem Rm.any {A A' : Around} {n : Nat} (r : Rm A (n + 1)) (hh : A'.handled = A.handled) (hd : A'.depth ≤ A.depth + 4) (hu : A'.units ≤ A.units + 20) : Rm A' n :=
  ⟨hh.trans r.h, by have := r.d; omega, by have := r.u; omega⟩
theorem Rm.deeper {A : Around} {n : Nat} (r : Rm A (n + 1)) (env : Env) : Rm (A.deeper env) n := r.any rfl (by show A.depth + 1 ≤ _; omega) (by show A.units + 3 ≤ _; omega)
theorem Rm.in1 {A : Around} {n : Nat} (r : Rm A (n + 1)) : Rm A.in1 n := r.any rfl (by show A.depth ≤ _; omega) (by show A.units + 1 ≤ _; omega)
theorem Rm.le {A : Around} {n : Nat} (r : Rm A (n + 1)) : Rm A n := r.any rfl (by omega) (by omega)
theorem Rm.depth {A : Around} {n : Nat} (r : Rm A (n + 1)) : A.depth < recursionLimit := by have := r.d; omega
theorem Rm.h {A : Around} {n : Nat} (r : Rm A n) : A.handled = none := Room.h r
theorem Rm.make {A : Around} {n : Nat} {C : Addr} {vals : List Value} (r : Rm A (n + 1)) : Rm (A.under (.builtin "type.__call__" ⟨.ref C :: vals, []⟩)) n :=
  r.any rfl (by show A.depth + 1 ≤ _; omega) (by show A.units + 1 ≤ _; omega)

section
variable {M : Model} {A : Around} {E : Value → Shared → Prop} {s : Shared} {env : Env}
theorem sub_L {value slice : Expr} {pos : Pos} {Q : Value → Shared → Prop}
    (h : wpAny M A (eval value env) (fun o s₁ => wpAny M A (eval slice env) (fun i s₂ => (∃ r, Looks M s₂.heap (specialOf o "__getitem__") (some (.builtin r))) ∧ o ≠ .builtin "sys.modules#opaque" ∧ wpAny M A (getItem o i) Q E s₂) E s₁) E s)
    (hsl : ∀ o i, subscripted slice false o i = operate [o, i] (getItem o i) := by intro _ _; rfl)
    (ht : ∀ o r, letTemporaryGo value o r = pure () := by intro _ _; rfl) : wpAny M A (eval (.Subscript value slice pos) env) Q E s := by
  rw [eval_Subscript]
  refine wpAny_bind (wpAny_mono h (fun o s₁ h₁ => wpAny_bind (wpAny_holding (wpAny_mono h₁ (fun i s₂ h₂ => wpAny_bind (wpAny_standAt ?_)) fun _ _ x => x))) fun _ _ x => x)
  obtain ⟨⟨r, L⟩, hne, hg⟩ := h₂
  refine wpAny_bind ?_
  rw [getitemInPython_of_ne hne]
  refine wpAny_bind (L.here (wpAny_pure (wpAny_bind ?_)))
  rw [hsl]
  exact wpAny_operating (wpAny_mono hg (fun r s₃ h₃ => wpAny_bind (wpAny_of_eq (ht o r) (wpAny_pure h₃))) fun _ _ x => x)
end
theorem DK.getL {K : Frag} {w : World} {M : Model} {h : Heap} {a : Addr} {cls : Value} {b : Bag} (dk : DK K cls) (X : K.In h) (D : IsD w h a cls b) : ∃ r, Looks M h (specialOf (.ref a) "__getitem__") (some (.builtin r)) :=
  ⟨_, D.type.andThen (looks_findIn X dk.get)⟩

theorem cellsFrom_ge {x : Str} {c : Addr} : ∀ (names : List (Str × NameKind)) (n : Nat) (acc : List (Str × Addr)), (cellsFrom n names acc).lookup x = some c → n ≤ c ∨ acc.lookup x = some c
  | [], _, _, h => .inr h
  | (y, k) :: r, n, acc, h => by
    unfold cellsFrom at h
    split at h
    · rcases cellsFrom_ge r (n + 1) _ h with e | e
      · exact .inl (by omega)
      · rw [List.lookup_cons] at e
        split at e
        · cases e; exact .inl (Nat.le_refl _)
        · exact .inr e
    · exact cellsFrom_ge r n _ h

/-- entering a def, plain arguments -/
theorem enterP {prog : Program} {w : World} {A : Around} {s s₀ : Shared} {s₁ : Shared} {R : Result → Shared → Prop} {K : Frag} {mg mb : Str → Option Value} {f : Addr} {qual : Str} {fd : FD} {dV : Value} {cd : Addr} {args : Args} {binds : List (Str × Value)} {n : Nat} {t : Bool}
    (kf : FnIn K f qual fd dV cd) (B : Base K mg mb s₁) (G : Go s₁ t s₀ s) (r : Rm A (n + 1))
    (hb : ∀ nm doc pm an ct, BindsTo s (fnOf nm qual fd.params fd.body fd.scope dV .none doc pm an (.ref cd) ct) args binds)
    (hkind : (binds.all fun y => fd.scope.names.lookup y.1 == some .local || fd.scope.names.lookup y.1 == some .cell) = true)
    (h : ∀ s₂ L (E' : Value → Shared → Prop), Rm (A.deeper (frameEnv qual fd L f cd)) n → Go s₁ t s₀ s₂ → Go s₁ false s s₂ → Keep s.heap s₂.heap → s.heap.get? L = none → s₂.heap.Ns L (bindL (frameEnv qual fd L f cd).kindOf binds fun _ => none) →
      (∀ n c, (cellsFrom (L + 1) fd.scope.names []).lookup n = some c → s.heap.get? c = none ∧ s₂.heap.IsCell c (bindC (frameEnv qual fd L f cd).kindOf binds (fun _ => none) n)) →
      wpAny (model prog w) (A.deeper (frameEnv qual fd L f cd)) (execs fd.body (frameEnv qual fd L f cd))
        (fun fl s' => R (.ok (.ret (match fl with | .ret v => v | _ => .none))) s') E' s₂)
    (hco : fd.scope.isCoroutine = false := by rfl) (hgen : fd.scope.isGenerator = false := by rfl) (hk : fd.scope.kind = .function := by rfl) :
    codeAny (model prog w) A (.call (.ref f) args) R s := by
  have GS : Go s₁ false s s := Go.start G.good
  refine enter kf (G.good.kin B) (G.good.lim B) r.depth (h' := s.heap) (fun nm doc pm an ct M A E Q q => hb nm doc pm an ct M A E Q q) (fun _ _ e => e) hkind (fun h₁ tk E' hn hc hkp hlt => ?_) hco hgen hk
  refine h { s with heap := h₁, toks := tk } _ E' (r.deeper _) (G.keep hkp) (GS.keep hkp) hkp (get_size _) hn fun n c e => ⟨?_, hc n c e⟩
  have : s.heap.objs.size < c := by
    rcases cellsFrom_ge _ _ _ e with e | e
    · omega
    · cases e
  cases q : s.heap.get? c with
  | none => rfl
  | some o => exact (Nat.lt_asymm this (Heap.lt_size q)).elim
theorem ty_dict : typeOf (.type "dict") = pure (.type "type") := by kernel_rfl
theorem stub_dict : Manifest.isStub "dict" = false := by decide +kernel
theorem handed_dict : handedIn (.builtin "dict.__init__") = true := by decide +kernel
theorem canon_dict : (Manifest.canonical "dict.__getattribute__" != "object.__getattribute__") = false := by decide +kernel
section
variable {prog : Program} {w : World} {A : Around} {s : Shared} {K : Frag} {E : Value → Shared → Prop} {pl : Sem Bool} {Q : Value × List Value → Shared → Prop}
theorem meth_dictInit (F : KF K) (X : K.In s.heap) (h : Q (.builtin "dict.__init__", []) { s with toks := s.toks + 1 }) : wpAny (model prog w) A (getMethod (.type "dict") "__init__" pl) Q E s := by
  apply method_ty
  case v => exact .builtin "dict.__init__"
  case X => exact X
  case h => exact h
  case ht => exact ty_dict
  case hs => exact stub_dict
  case hh => exact handed_dict
  case e => exact F.d_init
end
end Mine
end

noncomputable section
open PySem PySem.Calls PySem.W PyProof.Rows
set_option maxRecDepth 100000
set_option maxHeartbeats 4000000
namespace Mine
def Bag.add1 (b : Bag) (k : Str) : Bag := b.put k ((b.get k).getD 0 + 1)
def signs (y : Str) : List Str := y.cps.toList.map fun c => (⟨#[c]⟩ : Str)
theorem signs_at {y : Str} {i : Nat} {v : Value} (h : SignAt y i v) : ∃ k u, (signs y)[i]? = some k ∧ v = .str k u := by
  obtain ⟨c, u, h1, rfl⟩ := h
  refine ⟨⟨#[c]⟩, u, ?_, rfl⟩
  unfold signs
  rw [List.getElem?_map, Array.getElem?_toList, h1]; rfl
theorem take_succ {α : Type} {l : List α} {i : Nat} {x : α} (h : l[i]? = some x) : l.take (i + 1) = l.take i ++ [x] := by rw [List.take_add_one, h]; rfl
theorem IsX.own {w : World} {h : Heap} {a C dx : Addr} {b : Bag} (x : IsX w h a (.ref C) (some dx) b) (n : h.Ns dx fun _ => none) : OwnNil h a C := let ⟨es, ep, q, _⟩ := x; ⟨dx, es, ep, q, n⟩
theorem IsX.lt {w : World} {h : Heap} {a : Addr} {cls : Value} {dd : Option Addr} {b : Bag} (x : IsX w h a cls dd b) : a < h.objs.size := let ⟨_, _, q, _⟩ := x; Heap.lt_size q
theorem ns_ne {h : Heap} {a c : Addr} {m} (x : h.Ns a m) (n : h.get? c = none) : a ≠ c := fun q => by obtain ⟨o, _, _, e, _⟩ := x; rw [q, n] at e; cases e
theorem IsX.ne {w : World} {h : Heap} {a : Addr} {cls : Value} {dd : Option Addr} {b : Bag} (x : IsX w h a cls dd b) {c : Addr} (n : h.get? c = none) : a ≠ c := x.d.ne n
theorem putLen {b : Bag} {k : Str} {m : Int} : (b.put k m).length ≤ b.length + 1 := Bag.put_len b
theorem add1_len : ∀ (l : List Str) (b : Bag), (l.foldl Bag.add1 b).length ≤ b.length + l.length
  | [], b => Nat.le_refl _
  | k :: l, b => by
    have h1 := add1_len l (b.add1 k)
    have h2 : (b.add1 k).length ≤ b.length + 1 := Bag.put_len b
    simp only [List.foldl_cons, List.length_cons]; omega

section
variable {w : World} {A : Around} {s s₀ s₁ : Shared} {R : Result → Shared → Prop} {K : Frag} {mg mb : Str → Option Value} {n : Nat} {t : Bool}
/-- Counter.__init__, of a text -/
theorem c_init_str {x dx : Addr} {y : Str} {u : Tok} (F : KF K) (B : Base K mg mb s₁) (G₀ : Good s₁ s₀) (G : Go s₁ t s₀ s) (r : Rm A (n + 3)) (hx : s₀.heap.get? x = none) (hy : y.cps.size ≤ 1000) (hne : dx ≠ x) (hxs : x ≠ sysModules)
    (X : IsX w s.heap x (.ref 74) (some dx) []) (hd : s.heap.Ns dx fun _ => none)
    (h : ∀ s', Go s₁ t s₀ s' → IsX w s'.heap x (.ref 74) (some dx) ((signs y).foldl Bag.add1 []) → s'.heap.Ns dx (fun _ => none) → R (.ok (.ret .none)) s') :
    codeAny (model PG w) A (.call (.ref 37) ⟨[.ref x, .str y u], []⟩) R s := by
  obtain ⟨oc, od, nn, sl, hdf⟩ := F.df_init
  refine enterP (binds := [("self", .ref x), ("items", .str y u)]) F.f_init B G r (fun _ _ _ _ _ => binds_K (G.good.kin B) rfl hdf rfl rfl rfl) (by rfl) fun s₂ L E' r₂ G₂ G₂' kp hL hn _ => ?_
  have X₂ := X.keep kp
  have hd₂ : s₂.heap.Ns dx fun _ => none := hd.keeps kp
  have hLx : L ≠ x := (X.ne hL).symm
  have hLd : L ≠ dx := (ns_ne hd hL).symm
  have hL₀ : s₀.heap.get? L = none := G.fresh L hL
  show wpAny _ _ (execs [_, _] _) _ _ _
  have K2 := G₂.good.kin B
  refine wpAny_execs_cons (wpAny_Expr (callM ?_))
  refine nmB B G₂.good F.g_dict boot_dict ?_
  refine meth_dictInit F K2 ?_
  refine args_cons (nmL hn (by rfl) (args_nil ⟨keeper_bi, ?_⟩))
  refine dictInit_call K2 F.kc X₂.d ?_
  dsimp only
  refine wpAny_execs_cons (wpAny_If (wpAny_isTrue_value (callP ?_)))
  refine nmB B (G₂.good.tok _) F.g_isinstance boot_isinstance ?_
  refine args_cons (nmL hn (by rfl) (args_cons (nmB B (G₂.good.tok _) F.g_dict boot_dict (args_nil ⟨keeper_bi, ?_⟩))))
  refine isi_str_dict (wpAny_truthy_bool ?_)
  simp only [Bool.false_eq_true, if_false]
  refine wpAny_execs_cons (wpAny_For (nmL hn (by rfl) (wkStr fun o St W st => ?_)))
  have hI : s₂.heap.get? s₂.heap.objs.size = none := get_size _
  have hI₀ : s₀.heap.get? s₂.heap.objs.size = none := G₂.fresh _ hI
  have hkI : Keep s₂.heap (s₂.heap.push o) := Keep.push _ _
  have hLI : L ≠ s₂.heap.objs.size := ns_ne hn hI
  have hxI : x ≠ s₂.heap.objs.size := X₂.ne hI
  have hdI : dx ≠ s₂.heap.objs.size := ns_ne hd₂ hI
  have hlen : (signs y).length = y.cps.size := by simp [signs]
  refine for_W W r₂.h (fun i s' => ∃ m, Go s₁ t s₀ s' ∧ St i s'.heap ∧ s'.heap.Ns L m ∧ m "self" = some (.ref x) ∧ IsX w s'.heap x (.ref 74) (some dx) (((signs y).take i).foldl Bag.add1 []) ∧ s'.heap.Ns dx fun _ => none)
    (fun i s' ⟨_, _, z, _⟩ => z) ?_ ?_ ⟨_, G₂.keep hkI, st, hn.keeps hkI, by rfl, X₂.keep hkI, hd₂.keeps hkI⟩
  · rintro i s' v h' tk hi ⟨m, G', st', hn', hm, X', hd'⟩ hv st'' hs N
    obtain ⟨k, u', hk, rfl⟩ := signs_at hv
    have G3 := G'.but B hI₀ hs G₀ (tk := tk)
    have hn3 := hn'.extBut hs hLI
    have X3 := X'.extBut hs hxI
    have hd3 := hd'.extBut hs hdI
    refine stL hn3 fun h4 hn4 hs4 => ?_
    have G4 := G3.same B hL₀ hs4 G₀ (tk := tk + 1)
    have X4 := X3.extBut hs4.extBut hLx.symm
    have hd4 := hd3.extBut hs4.extBut hLd.symm
    have st4 := W.but st'' hs4.extBut (by simpa using hLI)
    have K4 := G4.good.kin B
    refine wpAny_execs_cons (wpAny_Assign_Subscript (wpAny_BinOp (callM ?_)))
    refine nmL hn4 ((if_neg (by decide)).trans hm) ?_
    refine method_D K4 (X4.own hd4) F.c_ga canon_dict F.c_gt F.c_get (by kernel_rfl) ?_
    refine args_cons (nmL hn4 (if_pos rfl) (args_cons (wpAny_Constant_int (args_nil ⟨keeper_bi, ?_⟩))))
    refine dictGet_call K4 F.kc X4.d hxs fun r tk5 hr u5 => ?_
    refine wpAny_Constant_int (add_int ?_)
    refine nmL hn4 ((if_neg (by decide)).trans hm) (nmL hn4 (if_pos rfl) ?_)
    subst hr
    refine setItem_X K4 F.kc X4 (by have := add1_len ((signs y).take i) []; simp at this; omega) fun h6 tk6 X6 hs6 => ?_
    refine wpAny_execs_nil ⟨_, G4.same B hx hs6 G₀, W.but st4 hs6.extBut (by simpa using hxI), hn4.extBut hs6.extBut hLx, (if_neg (by decide)).trans hm, ?_, hd4.extBut hs6.extBut hne⟩
    rw [take_succ hk, List.foldl_append]
    exact X6
  · rintro s' h' tk ⟨m, G', st', hn', hm, X', hd'⟩ hs
    refine wpAny_execs_nil (wpAny_execs_nil (h _ (G'.but B hI₀ hs G₀) ?_ (hd'.extBut hs hdI)))
    have := X'.extBut hs hxI
    rwa [List.take_of_length_le (by omega)] at this

def Bag.copyTo (b : Bag) (acc : Bag) (l : Bag) : Bag := l.foldl (fun acc p => Bag.put acc p.1 ((b.get p.1).getD 0)) acc
theorem copy_len (b : Bag) : ∀ (l : Bag) (acc : Bag), (b.copyTo acc l).length ≤ acc.length + l.length
  | [], acc => Nat.le_refl _
  | p :: l, acc => by
    have h1 := copy_len b l (acc.put p.1 ((b.get p.1).getD 0))
    have h2 : (acc.put p.1 ((b.get p.1).getD 0)).length ≤ acc.length + 1 := Bag.put_len acc
    unfold Bag.copyTo at h1 ⊢
    simp only [List.foldl_cons, List.length_cons]; omega
theorem get_some {b : Bag} {i : Nat} {k : Str} {m : Int} (h : b[i]? = some (k, m)) : ∃ r, b.get k = some r := by
  unfold Bag.get
  cases q : List.lookup k b with
  | some r => exact ⟨r, rfl⟩
  | none =>
    have := List.lookup_eq_none_iff.mp q (k, m) (List.mem_of_getElem? h)
    simp at this
/-- Counter.__init__, of a dict or a Counter -/
theorem c_init_D {x dx y : Addr} {cls : Value} {b : Bag} (F : KF K) (B : Base K mg mb s₁) (G₀ : Good s₁ s₀) (G : Go s₁ t s₀ s) (r : Rm A (n + 3)) (hx : s₀.heap.get? x = none) (hne : dx ≠ x) (hb : b.length ≤ 1000)
    (dk : DK K cls) (D : IsD w s₀.heap y cls b) (hys : y ≠ sysModules)
    (X : IsX w s.heap x (.ref 74) (some dx) []) (hd : s.heap.Ns dx fun _ => none)
    (h : ∀ s', Go s₁ t s₀ s' → IsX w s'.heap x (.ref 74) (some dx) (b.copyTo [] b) → s'.heap.Ns dx (fun _ => none) → R (.ok (.ret .none)) s') :
    codeAny (model PG w) A (.call (.ref 37) ⟨[.ref x, .ref y], []⟩) R s := by
  obtain ⟨oc, od, nn, sl, hdf⟩ := F.df_init
  refine enterP (binds := [("self", .ref x), ("items", .ref y)]) F.f_init B G r (fun _ _ _ _ _ => binds_K (G.good.kin B) rfl hdf rfl rfl rfl) (by rfl) fun s₂ L E' r₂ G₂ G₂' kp hL hn _ => ?_
  have X₂ := X.keep kp
  have D₂ := G₂.isD D
  have hd₂ : s₂.heap.Ns dx fun _ => none := hd.keeps kp
  have hLx : L ≠ x := (X.ne hL).symm
  have hLd : L ≠ dx := (ns_ne hd hL).symm
  have hL₀ : s₀.heap.get? L = none := G.fresh L hL
  show wpAny _ _ (execs [_, _] _) _ _ _
  have K2 := G₂.good.kin B
  refine wpAny_execs_cons (wpAny_Expr (callM ?_))
  refine nmB B G₂.good F.g_dict boot_dict ?_
  refine meth_dictInit F K2 ?_
  refine args_cons (nmL hn (by rfl) (args_nil ⟨keeper_bi, ?_⟩))
  refine dictInit_call K2 F.kc X₂.d ?_
  dsimp only
  refine wpAny_execs_cons (wpAny_If (wpAny_isTrue_value (callP ?_)))
  refine nmB B (G₂.good.tok _) F.g_isinstance boot_isinstance ?_
  refine args_cons (nmL hn (by rfl) (args_cons (nmB B (G₂.good.tok _) F.g_dict boot_dict (args_nil ⟨keeper_bi, ?_⟩))))
  refine isi_dict K2 dk D₂ (wpAny_truthy_bool ?_)
  simp only [if_true]
  refine wpAny_execs_cons (wpAny_For (nmL hn (by rfl) (iterD K2 dk D₂ hys fun o St W st => ?_)))
  have hI : s₂.heap.get? s₂.heap.objs.size = none := get_size _
  have hI₀ : s₀.heap.get? s₂.heap.objs.size = none := G₂.fresh _ hI
  have hkI : Keep s₂.heap (s₂.heap.push o) := Keep.push _ _
  have hLI : L ≠ s₂.heap.objs.size := ns_ne hn hI
  have hxI : x ≠ s₂.heap.objs.size := X₂.ne hI
  have hdI : dx ≠ s₂.heap.objs.size := ns_ne hd₂ hI
  have hxy : x ≠ y := (D.ne hx).symm
  have hLy : L ≠ y := (D.ne hL₀).symm
  refine for_W W r₂.h (fun i s' => ∃ m, Go s₁ t s₀ s' ∧ St i s'.heap ∧ s'.heap.Ns L m ∧ m "self" = some (.ref x) ∧ m "items" = some (.ref y) ∧ IsX w s'.heap x (.ref 74) (some dx) (b.copyTo [] (b.take i)) ∧ s'.heap.Ns dx fun _ => none)
    (fun i s' ⟨_, _, z, _⟩ => z) ?_ ?_ ⟨_, G₂.keep hkI, st, hn.keeps hkI, by rfl, by rfl, X₂.keep hkI, hd₂.keeps hkI⟩
  · rintro i s' v h' tk hi ⟨m, G', st', hn', hm, hmi, X', hd'⟩ ⟨k, m₀, u', hk, rfl⟩ st'' hs N
    have G3 := G'.but B hI₀ hs G₀ (tk := tk)
    have hn3 := hn'.extBut hs hLI
    have X3 := X'.extBut hs hxI
    have hd3 := hd'.extBut hs hdI
    refine stL hn3 fun h4 hn4 hs4 => ?_
    have G4 := G3.same B hL₀ hs4 G₀ (tk := tk + 1)
    have X4 := X3.extBut hs4.extBut hLx.symm
    have hd4 := hd3.extBut hs4.extBut hLd.symm
    have st4 := W.but st'' hs4.extBut (by simp only [List.mem_cons, List.not_mem_nil, or_false, not_or]; exact ⟨hLI, hLy⟩)
    have K4 := G4.good.kin B
    have D4 := G4.isD D
    obtain ⟨rv, hrv⟩ := get_some hk
    refine wpAny_execs_cons (wpAny_Assign_Subscript (sub_L ?_))
    refine nmL hn4 ((if_neg (by decide)).trans hmi) (nmL hn4 (if_pos rfl) ⟨dk.getL K4 D4, by simp, ?_⟩)
    refine getItem_D K4 dk D4 hrv fun u5 tk5 => ?_
    refine nmL hn4 ((if_neg (by decide)).trans hm) (nmL hn4 (if_pos rfl) ?_)
    refine setItem_X K4 F.kc X4 (by have := copy_len b (b.take i) []; simp at this; omega) fun h6 tk6 X6 hs6 => ?_
    refine wpAny_execs_nil ⟨_, G4.same B hx hs6 G₀, W.but st4 hs6.extBut (by simp only [List.mem_cons, List.not_mem_nil, or_false, not_or]; exact ⟨hxI, hxy⟩), hn4.extBut hs6.extBut hLx, (if_neg (by decide)).trans hm, (if_neg (by decide)).trans hmi, ?_, hd4.extBut hs6.extBut hne⟩
    unfold Bag.copyTo at X6 ⊢
    rw [take_succ hk, List.foldl_append]
    simp only [List.foldl_cons, List.foldl_nil, hrv, Option.getD_some]
    exact X6
  · rintro s' h' tk ⟨m, G', st', hn', hm, _, X', hd'⟩ hs
    refine wpAny_execs_nil (wpAny_execs_nil (h _ (G'.but B hI₀ hs G₀) ?_ (hd'.extBut hs hdI)))
    have := X'.extBut hs hxI
    rwa [List.take_of_length_le (Nat.le_refl _)] at this
end
end Mine
end

noncomputable section
open PySem PySem.Calls PySem.W PyProof.Rows
set_option maxRecDepth 100000
set_option maxHeartbeats 4000000
namespace Mine
/-- a Counter of the text -/
structure IsC (w : World) (h : Heap) (x : Addr) (b : Bag) : Prop where
  d : IsD w h x (.ref 74) b
  own1 : (∃ es ep, h.get? x = some ⟨.ref 74, some (x - 1), .dict es ep, #[]⟩) ∧ h.Ns (x - 1) fun _ => none
  ns : x ≠ sysModules
theorem IsC.own {w : World} {h : Heap} {x : Addr} {b : Bag} (c : IsC w h x b) : OwnNil h x 74 := let ⟨⟨es, ep, q⟩, n⟩ := c.own1; ⟨_, es, ep, q, n⟩
theorem IsC.ext {w : World} {h h' : Heap} {x : Addr} {b : Bag} (c : IsC w h x b) (e : Ext h h') : IsC w h' x b :=
  ⟨c.d.ext e, let ⟨⟨es, ep, q⟩, n⟩ := c.own1; ⟨⟨es, ep, e _ _ (isTab_dict rfl) q⟩, e.ns n⟩, c.ns⟩
theorem IsC.but {w : World} {h h' : Heap} {x a : Addr} {b : Bag} (c : IsC w h x b) (e : Heap.ExtBut a h h') (h1 : x ≠ a) (h2 : x - 1 ≠ a) : IsC w h' x b :=
  ⟨c.d.extBut e h1, let ⟨⟨es, ep, q⟩, n⟩ := c.own1; ⟨⟨es, ep, e _ _ h1 q⟩, n.extBut e h2⟩, c.ns⟩
/-- neither it nor its own dict was there -/
def Nw (h : Heap) (x : Addr) : Prop := h.get? x = none ∧ h.get? (x - 1) = none
theorem Nw.back {s₁ s s' : Shared} {t : Bool} {x : Addr} (n : Nw s'.heap x) (g : Go s₁ t s s') : Nw s.heap x := ⟨g.fresh _ n.1, g.fresh _ n.2⟩
theorem Nw.ne {h : Heap} {x a : Addr} {o : Obj} (n : Nw h x) (e : h.get? a = some o) : x ≠ a ∧ x - 1 ≠ a := ⟨fun q => (by rw [← q, n.1] at e; cases e), fun q => (by rw [← q, n.2] at e; cases e)⟩
theorem Go.isC {s₁ s s' : Shared} {t : Bool} {w : World} (x : Go s₁ t s s') {a : Addr} {b : Bag} (n : IsC w s.heap a b) : IsC w s'.heap a b := n.ext x.Ext
theorem IsC.ne {w : World} {h : Heap} {x : Addr} {b : Bag} (c : IsC w h x b) {a : Addr} (n : h.get? a = none) : x ≠ a := c.d.ne n
theorem OwnNil.extBut {h h' : Heap} {x C a : Addr} (o : OwnNil h x C) (e : Heap.ExtBut a h h') (h1 : x ≠ a) (h2 : ∀ dx m, h.Ns dx m → dx ≠ a) : OwnNil h' x C :=
  let ⟨dx, es, ep, q, n⟩ := o; ⟨dx, es, ep, e _ _ h1 q, n.extBut e (h2 _ _ n)⟩

section
variable {w : World} {A : Around} {s s₀ s₁ : Shared} {R : Result → Shared → Prop} {K : Frag} {mg mb : Str → Option Value} {n : Nat} {t : Bool}
theorem three_lt (B : Base K mg mb s₁) (G : Good s₁ s) : 3 < s.heap.objs.size := by
  obtain ⟨o, _, _, e, _⟩ := G.g B
  exact Heap.lt_size e
/-- Counter(text) -/
theorem new_str {y : Str} {u : Tok} (F : KF K) (B : Base K mg mb s₁) (G : Good s₁ s) (r : Rm A (n + 4)) (hy : y.cps.size ≤ 1000)
    (h : ∀ s' x, Go s₁ t s s' → IsC w s'.heap x ((signs y).foldl Bag.add1 []) → Nw s.heap x → R (.ok (.ret (.ref x))) s') :
    codeAny (model PG w) A (.call (.ref 74) ⟨[.str y u], []⟩) R s := by
  have X := G.kin B
  have h3 := three_lt B G
  obtain ⟨hp, g, d, tk, os⟩ := s
  refine make_D (makesD_of X F.mkc) (looks_findIn X F.c_init) (fun self => bind_fn X self F.t_init') ?_
  have GS : Go s₁ t ⟨hp, g, d, tk, os⟩ ⟨hp, g, d, tk, os⟩ := Go.start G
  have k : Keep hp ((hp.push emptyDict).push (dictInst 74 hp.objs.size)) := (Keep.push _ _).trans (Keep.push _ _)
  have hx : hp.get? (hp.objs.size + 1) = none := get_ge (Nat.le_succ _)
  have hxs : hp.objs.size + 1 ≠ sysModules := by
    show hp.objs.size + 1 ≠ 1
    have : 3 < hp.objs.size := h3
    omega
  have hg : ((hp.push emptyDict).push (dictInst 74 hp.objs.size)).get? (hp.objs.size + 1) = some (dictInst 74 hp.objs.size) := by heap_get
  have hgd : ((hp.push emptyDict).push (dictInst 74 hp.objs.size)).get? hp.objs.size = some emptyDict := Heap.get?_push_of_some _ (Heap.get?_push_size _ rfl)
  refine c_init_str (s₀ := ⟨hp, g, d, tk, os⟩) (x := hp.objs.size + 1) (dx := hp.objs.size) F B G (GS.keep k (tk := tk)) r.make hx hy (Nat.ne_of_lt (Nat.lt_succ_self _)) hxs
    ⟨#[], 0, hg, .nil⟩ ⟨_, #[], 0, hgd, rfl, fun e he => absurd he (by simp), fun _ => rfl⟩ fun s' G' X' hd' => ?_
  exact ⟨rfl, h s' _ G' ⟨X'.d, ⟨let ⟨es, ep, q, _⟩ := X'; ⟨es, ep, q⟩, hd'⟩, hxs⟩ ⟨hx, get_ge (Nat.le_refl _)⟩⟩
/-- Counter(dict), Counter(Counter) -/
theorem new_D {y : Addr} {cls : Value} {b : Bag} (F : KF K) (B : Base K mg mb s₁) (G : Good s₁ s) (r : Rm A (n + 4)) (hb : b.length ≤ 1000) (dk : DK K cls) (D : IsD w s.heap y cls b) (hys : y ≠ sysModules)
    (h : ∀ s' x, Go s₁ t s s' → IsC w s'.heap x (b.copyTo [] b) → Nw s.heap x → R (.ok (.ret (.ref x))) s') :
    codeAny (model PG w) A (.call (.ref 74) ⟨[.ref y], []⟩) R s := by
  have X := G.kin B
  have h3 := three_lt B G
  obtain ⟨hp, g, d, tk, os⟩ := s
  refine make_D (makesD_of X F.mkc) (looks_findIn X F.c_init) (fun self => bind_fn X self F.t_init') ?_
  have GS : Go s₁ t ⟨hp, g, d, tk, os⟩ ⟨hp, g, d, tk, os⟩ := Go.start G
  have k : Keep hp ((hp.push emptyDict).push (dictInst 74 hp.objs.size)) := (Keep.push _ _).trans (Keep.push _ _)
  have hx : hp.get? (hp.objs.size + 1) = none := get_ge (Nat.le_succ _)
  have hxs : hp.objs.size + 1 ≠ sysModules := by
    show hp.objs.size + 1 ≠ 1
    have : 3 < hp.objs.size := h3
    omega
  have hg : ((hp.push emptyDict).push (dictInst 74 hp.objs.size)).get? (hp.objs.size + 1) = some (dictInst 74 hp.objs.size) := by heap_get
  have hgd : ((hp.push emptyDict).push (dictInst 74 hp.objs.size)).get? hp.objs.size = some emptyDict := Heap.get?_push_of_some _ (Heap.get?_push_size _ rfl)
  refine c_init_D (s₀ := ⟨hp, g, d, tk, os⟩) (x := hp.objs.size + 1) (dx := hp.objs.size) F B G (GS.keep k (tk := tk)) r.make hx (Nat.ne_of_lt (Nat.lt_succ_self _)) hb dk D hys
    ⟨#[], 0, hg, .nil⟩ ⟨_, #[], 0, hgd, rfl, fun e he => absurd he (by simp), fun _ => rfl⟩ fun s' G' X' hd' => ?_
  exact ⟨rfl, h s' _ G' ⟨X'.d, ⟨let ⟨es, ep, q, _⟩ := X'; ⟨es, ep, q⟩, hd'⟩, hxs⟩ ⟨hx, get_ge (Nat.le_refl _)⟩⟩

theorem keepC (F : KF K) {M : Model} {h : Heap} (X : K.In h) : ∃ k, Looks M h (keeperOf (.ref 74)) k := keeper_K F.c_keep X
/-- x.copy() -/
theorem c_copy {x : Addr} {b : Bag} (F : KF K) (B : Base K mg mb s₁) (G : Good s₁ s) (r : Rm A (n + 6)) (hb : b.length ≤ 1000) (C : IsC w s.heap x b)
    (h : ∀ s' y, Go s₁ t s s' → IsC w s'.heap y (b.copyTo [] b) → Nw s.heap y → R (.ok (.ret (.ref y))) s') :
    codeAny (model PG w) A (.call (.ref 44) ⟨[.ref x], []⟩) R s := by
  refine enterP (binds := [("self", .ref x)]) F.f_copy B (Go.start (t := t) G) r (fun _ _ _ _ _ => BindsTo.of_eq rfl) (by rfl) fun s₂ L E' r₂ G₂ _ kp hL hn _ => ?_
  show wpAny _ _ (execs [_] _) _ _ _
  refine wpAny_execs_cons (wpAny_Return_some (callP ?_))
  refine nmG B G₂.good F.g_Counter ?_
  refine args_cons (nmL hn (by rfl) (args_nil ⟨keepC F (G₂.good.kin B), ?_⟩))
  refine wpAny_call (new_D (t := t) F B G₂.good r₂ hb F.kc (G₂.isD C.d) C.ns fun s' y G' c hy => ?_)
  exact h s' y (G₂.trans G') c (hy.back G₂)
end
end Mine
end

noncomputable section
open PySem PySem.Calls PySem.W PyProof.Rows
set_option maxRecDepth 100000
set_option maxHeartbeats 4000000
namespace Mine
theorem eval_DictComp1 (kx vx iter : Expr) (x : Str) (px : Pos) (ifs : List Expr) (scope : Scope) (pos : Pos) (env : Env) : eval (.DictComp kx vx [⟨.Name x px, iter, ifs, 0⟩] scope pos) env =
    comprehension (.DictComp kx vx [⟨.Name x px, iter, ifs, 0⟩] scope pos) scope env (firstIterPos [⟨.Name x px, iter, ifs, 0⟩] pos) newDict false (eval iter env) := rfl
def lo (a b : Int) : Int := if b < a then b else a
def hi (a b : Int) : Int := if b > a then b else a
def andStep (a b acc : Bag) (p : Str × Int) : Bag := match b.get p.1 with
  | some m => if 0 < lo ((a.get p.1).getD 0) m then acc.put p.1 (lo ((a.get p.1).getD 0) m) else acc
  | none => acc
def andB (a b : Bag) : Bag := a.foldl (andStep a b) []

section
variable {w : World} {A : Around} {s s₀ s₁ : Shared} {R : Result → Shared → Prop} {K : Frag} {mg mb : Str → Option Value} {n : Nat} {t : Bool}
theorem andStep_len {a b acc : Bag} {p : Str × Int} : (andStep a b acc p).length ≤ acc.length + 1 := by
  unfold andStep
  split
  · split
    · exact Bag.put_len acc
    · omega
  · omega
theorem and_len {a b : Bag} : ∀ (l : Bag) (acc : Bag), (l.foldl (andStep a b) acc).length ≤ acc.length + l.length
  | [], acc => Nat.le_refl _
  | p :: l, acc => by
    have h1 := and_len (a := a) (b := b) l (andStep a b acc p)
    have h2 := andStep_len (a := a) (b := b) (acc := acc) (p := p)
    simp only [List.foldl_cons, List.length_cons]; omega
theorem minInts {prog : Program} {E : Value → Shared → Prop} {a b : Int} {u v : Tok} {Q : Value → Shared → Prop} (hh : A.handled = none) (h : ∀ h' tk t, Keep s.heap h' → Q (.int (lo a b) t) { s with heap := h', toks := tk }) :
    wpAny (model prog w) A (call (.builtin "min") [.int a u, .int b v]) Q E s := by
  refine min_two_ints hh fun h' tk k => ?_
  unfold lo at h
  split
  · rename_i q; have := h h' tk v k; rwa [if_pos q] at this
  · rename_i q; have := h h' tk u k; rwa [if_neg q] at this
theorem maxInts {prog : Program} {E : Value → Shared → Prop} {a b : Int} {u v : Tok} {Q : Value → Shared → Prop} (hh : A.handled = none) (h : ∀ h' tk t, Keep s.heap h' → Q (.int (hi a b) t) { s with heap := h', toks := tk }) :
    wpAny (model prog w) A (call (.builtin "max") [.int a u, .int b v]) Q E s := by
  refine max_two_ints hh fun h' tk k => ?_
  unfold hi at h
  split
  · rename_i q; have := h h' tk v k; rwa [if_pos q] at this
  · rename_i q; have := h h' tk u k; rwa [if_neg q] at this

theorem c_and {x y : Addr} {a b : Bag} (F : KF K) (B : Base K mg mb s₁) (G : Good s₁ s) (r : Rm A (n + 6)) (ha : a.length ≤ 1000) (C : IsC w s.heap x a) (D : IsC w s.heap y b)
    (h : ∀ s' z, Go s₁ t s s' → IsC w s'.heap z ((andB a b).copyTo [] (andB a b)) → Nw s.heap z → R (.ok (.ret (.ref z))) s') :
    codeAny (model PG w) A (.call (.ref 49) ⟨[.ref x, .ref y], []⟩) R s := by
  refine enterP (binds := [("self", .ref x), ("other", .ref y)]) F.f_and B (Go.start (t := t) G) r (fun _ _ _ _ _ => BindsTo.of_eq rfl) (by rfl) fun s₂ L E' r₂ G₂ _ kp hL hn hc => ?_
  have K2 := G₂.good.kin B
  have C2 := G₂.isC C
  have D2 := G₂.isC D
  have c1 := (hc "self" (L + 1) (by rfl))
  have c2 := (hc "other" (L + 1 + 1) (by rfl))
  show wpAny _ _ (execs [_] _) _ _ _
  refine wpAny_execs_cons (wpAny_Return_some (callP ?_))
  refine nmG B G₂.good F.g_Counter ?_
  refine args_cons ?_
  rw [eval_DictComp1]
  refine dictC (use := none) (cl := [("self", L + 1), ("other", L + 1 + 1)]) (by rfl) (by decide) rfl (by decide) (nmC (by rfl) c1.2 (iterD K2 F.kc C2.d C2.ns fun o St W st DA CA h' tk hDA hCA hne hk hnC hD0 => ?_))
  have hI : s₂.heap.get? s₂.heap.objs.size = none := get_size _
  have hkI : Keep s₂.heap (s₂.heap.push o) := Keep.push _ _
  have hsz : (s₂.heap.push o).objs.size = s₂.heap.objs.size + 1 := Heap.size_push ..
  dsimp only at hDA hCA hk
  rw [hsz] at hDA hCA
  have hD2 : s₂.heap.get? DA = none := get_ge (by omega)
  have hC2 : s₂.heap.get? CA = none := get_ge (by omega)
  have hDI : DA ≠ s₂.heap.objs.size := by omega
  have hCI : CA ≠ s₂.heap.objs.size := by omega
  have hxD : x ≠ DA := C2.ne hD2
  have hxC : x ≠ CA := C2.ne hC2
  have GS : Go s₁ t s₂ s₂ := Go.start G₂.good
  have stay : ∀ {s' : Shared}, Go s₁ t s₂ s' → s'.heap.IsCell (L + 1) (some (.ref x)) ∧ s'.heap.IsCell (L + 1 + 1) (some (.ref y)) ∧ IsC w s'.heap x a ∧ IsC w s'.heap y b := fun g => ⟨g.cell c1.2, g.cell c2.2, g.isC C2, g.isC D2⟩
  refine dictLoop_W (c := CA) W r₂.h (by simp only [List.mem_cons, List.not_mem_nil, or_false, not_or]; exact ⟨hDI, hxD.symm⟩) (by simp only [List.mem_cons, List.not_mem_nil, or_false, not_or]; exact ⟨hCI, hxC.symm⟩) hne ha
    (fun i ys s' => Go s₁ t s₂ s' ∧ ys = (a.take i).foldl (andStep a b) [] ∧ ∃ m, s'.heap.Ns CA m) ?_ ?_ ?_ ⟨(GS.keep hkI).keep hk, rfl, _, hnC⟩ hD0 (W.ext st (Ext.of_keep hk))
  · rintro i ys s' h' tk q hq ⟨g, e, m, hm⟩ hb
    rcases hq with rfl | rfl
    · exact ⟨g.but B hI hb G₂.good, e, m, hm.extBut hb hCI⟩
    · exact ⟨g.but B hD2 hb G₂.good, e, m, hm.extBut hb hne.symm⟩
  · rintro i ys v s' hi hl ⟨k, m₀, u, hk0, rfl⟩ ⟨g, e, m, hm⟩ hD st' N
    refine stL hm fun h4 hn4 hs4 => ?_
    have g4 := g.same B hC2 hs4 G₂.good (tk := s'.toks + 1)
    have e4 : ExtB CA s'.heap h4 := .of_same hs4
    obtain ⟨z1, z2, z3, z4⟩ := stay g4
    have K4 := g4.good.kin B
    refine wpAny_tests_one (wpAny_isTrue_BoolOp (wpAny_allTrue_And_cons (wpAny_isTrue_Compare1 (nmL hn4 (if_pos rfl) (nmC (by rfl) z2 (in_D K4 F.kc z4.d z4.ns fun tk5 => wpAny_truthy_bool ?_))))))
    have g5 := g4.tok tk5
    cases hbk : b.get k with
    | none =>
      simp only [Option.isSome_none, Bool.false_eq_true, if_false]
      refine ⟨e4, g5, ?_, _, hn4⟩
      rw [take_succ hk0, List.foldl_append, ← e]
      simp only [List.foldl_cons, List.foldl_nil, andStep, hbk]
    | some mb' =>
      simp only [Option.isSome_some, if_true]
      obtain ⟨ma, hma⟩ := get_some hk0
      refine wpAny_allTrue_And_cons (wpAny_isTrue_Compare1 (callP (nmB B g5.good F.g_min boot_min ?_)))
      refine args_cons (sub_L (nmC (by rfl) z1 (nmL hn4 (if_pos rfl) ⟨F.kc.getL K4 z3.d, by simp, getItem_D K4 F.kc z3.d hma fun u6 tk6 => ?_⟩)))
      refine args_cons (sub_L (nmC (by rfl) z2 (nmL hn4 (if_pos rfl) ⟨F.kc.getL K4 z4.d, by simp, getItem_D K4 F.kc z4.d hbk fun u7 tk7 => ?_⟩)))
      refine args_nil ⟨keeper_bi, minInts r₂.h fun h8 tk8 u8 hk8 => ?_⟩
      have g8 := (g5.tok tk7).keep hk8 (tk := tk8)
      have hn8 := hn4.keeps hk8
      obtain ⟨y1, y2, y3, y4⟩ := stay g8
      have K8 := g8.good.kin B
      refine wpAny_Constant_int (gt_int (wpAny_truthy_bool ?_))
      have hst : andStep a b ys (k, m₀) = if 0 < lo ma mb' then Bag.put ys k (lo ma mb') else ys := by simp only [andStep, hbk, hma, Option.getD_some]
      by_cases hpos : 0 < lo ma mb'
      · simp only [hpos, decide_true, if_true]
        refine wpAny_allTrue_And_nil ?_
        simp only [if_true]
        refine nmL hn8 (if_pos rfl) ?_
        refine callP (nmB B (g8.good.tok _) F.g_min boot_min ?_)
        refine args_cons (sub_L (nmC (by rfl) y1 (nmL hn8 (if_pos rfl) ⟨F.kc.getL K8 y3.d, by simp, getItem_D K8 F.kc y3.d hma fun u6 tk6 => ?_⟩)))
        refine args_cons (sub_L (nmC (by rfl) y2 (nmL hn8 (if_pos rfl) ⟨F.kc.getL K8 y4.d, by simp, getItem_D K8 F.kc y4.d hbk fun u7 tk7 => ?_⟩)))
        refine args_nil ⟨keeper_bi, minInts r₂.h fun h9 tk9 u9 hk9 => ?_⟩
        refine ⟨k, _, _, _, rfl, rfl, e4.then (.of_keep (hk8.trans hk9)), (g8.tok _).keep hk9, ?_, _, hn8.keeps hk9⟩
        rw [take_succ hk0, List.foldl_append, ← e]
        simp only [List.foldl_cons, List.foldl_nil, hst, if_pos hpos]
      · simp only [hpos, decide_false, Bool.false_eq_true, if_false]
        refine ⟨e4.then (.of_keep hk8), g8.tok _, ?_, _, hn8⟩
        rw [take_succ hk0, List.foldl_append, ← e]
        simp only [List.foldl_cons, List.foldl_nil, hst, if_neg hpos]
  · rintro ys s' hl ⟨g, e, m, hm⟩ hD
    rw [List.take_of_length_le (Nat.le_refl _)] at e
    refine ⟨m, hm, fun h' hs => ?_⟩
    have g' := g.same B hC2 hs G₂.good (tk := s'.toks)
    have K' := g'.good.kin B
    have hD' : IsD w h' DA (.type "dict") ys := hD.same hs hne
    refine args_nil ⟨keepC F K', wpAny_call (new_D (t := t) F B g'.good r₂ (by omega) dkDict hD' (by show DA ≠ 1; have := three_lt B G₂.good; omega) fun s'' z g'' hz hf => ?_)⟩
    subst e
    exact h s'' z ((G₂.trans g').trans g'') hz ((hf.back g').back G₂)
end
end Mine
end

noncomputable section
open PySem PySem.Calls PySem.W PyProof.Rows
set_option maxRecDepth 100000
set_option maxHeartbeats 4000000
namespace Mine
def orA (a b : Bag) (acc : Bag) (p : Str × Int) : Bag := acc.put p.1 (hi ((a.get p.1).getD 0) ((b.get p.1).getD 0))
def orB (b : Bag) (acc : Bag) (p : Str × Int) : Bag := if (acc.get p.1).isSome then acc else acc.put p.1 ((b.get p.1).getD 0)
def orC (q : Bag) (acc : Bag) (p : Str × Int) : Bag := if 0 < (q.get p.1).getD 0 then acc.put p.1 ((q.get p.1).getD 0) else acc
def orRows (a b : Bag) : Bag := b.foldl (orB b) (a.foldl (orA a b) [])
def orB' (a b : Bag) : Bag := (orRows a b).foldl (orC (orRows a b)) []
theorem fold_len {f : Bag → Str × Int → Bag} (hf : ∀ acc p, (f acc p).length ≤ acc.length + 1) : ∀ (l acc : Bag), (l.foldl f acc).length ≤ acc.length + l.length
  | [], acc => Nat.le_refl _
  | p :: l, acc => by
    have h1 := fold_len hf l (f acc p)
    have h2 := hf acc p
    simp only [List.foldl_cons, List.length_cons]; omega
theorem orA_len (a b : Bag) (acc : Bag) (p : Str × Int) : (orA a b acc p).length ≤ acc.length + 1 := Bag.put_len acc
theorem orB_len (b : Bag) (acc : Bag) (p : Str × Int) : (orB b acc p).length ≤ acc.length + 1 := by
  unfold orB; split
  · omega
  · exact Bag.put_len acc
theorem orB_t {b acc : Bag} {k : Str} {m : Int} (h : (acc.get k).isSome = true) : orB b acc (k, m) = acc := if_pos h
theorem orB_f {b acc : Bag} {k : Str} {m : Int} (h : (acc.get k).isSome = false) : orB b acc (k, m) = acc.put k ((b.get k).getD 0) := if_neg (by rw [h]; exact Bool.false_ne_true)
theorem orC_t {q acc : Bag} {k : Str} {m v : Int} (h : q.get k = some v) (hv : 0 < v) : orC q acc (k, m) = acc.put k v := by unfold orC; rw [h]; exact if_pos hv
theorem orC_f {q acc : Bag} {k : Str} {m v : Int} (h : q.get k = some v) (hv : ¬ 0 < v) : orC q acc (k, m) = acc := by unfold orC; rw [h]; exact if_neg hv
theorem orC_len (b : Bag) (acc : Bag) (p : Str × Int) : (orC b acc p).length ≤ acc.length + 1 := by
  unfold orC; split
  · exact Bag.put_len acc
  · omega
theorem ne_add3 (L : Nat) : L ≠ L + 1 + 1 + 1 := by omega
theorem ne_add2 (L : Nat) : L + 1 + 1 ≠ L := by omega
theorem IsD.lt' {w : World} {h : Heap} {a : Addr} {cls : Value} {b : Bag} (x : IsD w h a cls b) : ∃ o, h.get? a = some o := let ⟨_, _, _, q, _⟩ := x; ⟨_, q⟩
theorem cell_ne {h : Heap} {a c : Addr} {v} (x : h.IsCell a v) (n : h.get? c = none) : a ≠ c := fun q => by obtain ⟨o, e, _⟩ := x; rw [q, n] at e; cases e
theorem cell_but {h h' : Heap} {a c : Addr} {v} (x : h.IsCell a v) (e : Heap.ExtBut c h h') (n : a ≠ c) : h'.IsCell a v := let ⟨o, q, r⟩ := x; ⟨o, e a o n q, r⟩

section
variable {w : World} {A : Around} {s s₀ s₁ : Shared} {R : Result → Shared → Prop} {K : Frag} {mg mb : Str → Option Value} {n : Nat} {t : Bool}
theorem c_or {x y : Addr} {a b : Bag} (F : KF K) (B : Base K mg mb s₁) (G : Good s₁ s) (r : Rm A (n + 6)) (ha : a.length ≤ 200) (hb : b.length ≤ 200) (C : IsC w s.heap x a) (D : IsC w s.heap y b)
    (h : ∀ s' z, Go s₁ t s s' → IsC w s'.heap z ((orB' a b).copyTo [] (orB' a b)) → Nw s.heap z → R (.ok (.ret (.ref z))) s') :
    codeAny (model PG w) A (.call (.ref 54) ⟨[.ref x, .ref y], []⟩) R s := by
  refine enterP (binds := [("self", .ref x), ("other", .ref y)]) F.f_or B (Go.start (t := t) G) r (fun _ _ _ _ _ => BindsTo.of_eq rfl) (by rfl) fun s₂ L E' r₂ G₂ _ kp hL hn hc => ?_
  have K2 := G₂.good.kin B
  have C2 := G₂.isC C
  have D2 := G₂.isC D
  have c1 := (hc "self" (L + 1) (by rfl))
  have c2 := (hc "other" (L + 1 + 1) (by rfl))
  have c3 := (hc "rows" (L + 1 + 1 + 1) (by rfl))
  show wpAny _ _ (execs [_, _, _] _) _ _ _
  refine wpAny_execs_cons (wpAny_Assign_Name ?_)
  rw [eval_DictComp1]
  refine dictC (use := none) (cl := [("self", L + 1), ("other", L + 1 + 1)]) (by rfl) (by decide) rfl (by decide) (nmC (by rfl) c1.2 (iterD K2 F.kc C2.d C2.ns fun o St W st DA CA h' tk hDA hCA hne hk hnC hD0 => ?_))
  have hI : s₂.heap.get? s₂.heap.objs.size = none := get_size _
  have hkI : Keep s₂.heap (s₂.heap.push o) := Keep.push _ _
  have hsz : (s₂.heap.push o).objs.size = s₂.heap.objs.size + 1 := Heap.size_push ..
  dsimp only at hDA hCA hk
  rw [hsz] at hDA hCA
  have hD2 : s₂.heap.get? DA = none := get_ge (by omega)
  have hC2 : s₂.heap.get? CA = none := get_ge (by omega)
  have hDI : DA ≠ s₂.heap.objs.size := by omega
  have hCI : CA ≠ s₂.heap.objs.size := by omega
  have hxD : x ≠ DA := C2.ne hD2
  have hxC : x ≠ CA := C2.ne hC2
  have hyD : y ≠ DA := D2.ne hD2
  have GS : Go s₁ t s₂ s₂ := Go.start G₂.good
  have stay : ∀ {s' : Shared}, Go s₁ t s₂ s' → s'.heap.IsCell (L + 1) (some (.ref x)) ∧ s'.heap.IsCell (L + 1 + 1) (some (.ref y)) ∧ IsC w s'.heap x a ∧ IsC w s'.heap y b := fun g => ⟨g.cell c1.2, g.cell c2.2, g.isC C2, g.isC D2⟩
  refine dictLoop_W (c := CA) W r₂.h (by simp only [List.mem_cons, List.not_mem_nil, or_false, not_or]; exact ⟨hDI, hxD.symm⟩) (by simp only [List.mem_cons, List.not_mem_nil, or_false, not_or]; exact ⟨hCI, hxC.symm⟩) hne (by omega)
    (fun i ys s' => Go s₁ t s₂ s' ∧ ys = (a.take i).foldl (orA a b) [] ∧ ∃ m, s'.heap.Ns CA m) ?_ ?_ ?_ ⟨(GS.keep hkI).keep hk, rfl, _, hnC⟩ hD0 (W.ext st (Ext.of_keep hk))
  · rintro i ys s' h' tk q hq ⟨g, e, m, hm⟩ hb
    rcases hq with rfl | rfl
    · exact ⟨g.but B hI hb G₂.good, e, m, hm.extBut hb hCI⟩
    · exact ⟨g.but B hD2 hb G₂.good, e, m, hm.extBut hb hne.symm⟩
  · rintro i ys v s' hi hl ⟨k, m₀, u, hk0, rfl⟩ ⟨g, e, m, hm⟩ hD st' N
    refine stL hm fun h4 hn4 hs4 => ?_
    have g4 := g.same B hC2 hs4 G₂.good (tk := s'.toks + 1)
    have e4 : ExtB CA s'.heap h4 := .of_same hs4
    obtain ⟨z1, z2, z3, z4⟩ := stay g4
    have K4 := g4.good.kin B
    obtain ⟨ma, hma⟩ := get_some hk0
    refine wpAny_tests_nil ?_
    simp only [if_true]
    refine nmL hn4 (if_pos rfl) (callP (nmB B g4.good F.g_max boot_max ?_))
    refine args_cons (sub_L (nmC (by rfl) z1 (nmL hn4 (if_pos rfl) ⟨F.kc.getL K4 z3.d, by simp, getItem_D K4 F.kc z3.d hma fun u6 tk6 => ?_⟩)))
    refine args_cons (callM (nmC (by rfl) z2 (method_D K4 z4.own F.c_ga canon_dict F.c_gt F.c_get (by kernel_rfl) ?_)))
    refine args_cons (nmL hn4 (if_pos rfl) (args_cons (wpAny_Constant_int (args_nil ⟨keeper_bi, ?_⟩))))
    refine dictGet_call K4 F.kc z4.d z4.ns fun rv tk7 hr u7 => ?_
    refine args_nil ⟨keeper_bi, maxInts r₂.h fun h9 tk9 u9 hk9 => ?_⟩
    subst hr
    refine ⟨k, _, _, _, rfl, rfl, e4.then (.of_keep hk9), (g4.tok _).keep hk9, ?_, _, hn4.keeps hk9⟩
    rw [take_succ hk0, List.foldl_append, ← e]
    simp only [List.foldl_cons, List.foldl_nil, orA, hma, Option.getD_some]
  rintro ys s' hl ⟨g, e, m, hm⟩ hD
  rw [List.take_of_length_le (Nat.le_refl _)] at e
  refine ⟨m, hm, fun h' hs => ?_⟩
  have g' := g.same B hC2 hs G₂.good (tk := s'.toks)
  have K' := g'.good.kin B
  have hD' : IsD w h' DA (.type "dict") ys := hD.same hs hne
  have hLn := g'.ns hn
  have hD3 : s₂.heap.get? DA = none := hD2
  have hDc : DA ≠ L + 1 + 1 + 1 := (cell_ne c3.2 hD2).symm
  have hs3 : s.heap.get? (L + 1 + 1 + 1) = none := c3.1
  have hLc : L ≠ L + 1 + 1 + 1 := ne_add3 L
  have h23 : L + 1 + 1 ≠ L + 1 + 1 + 1 := Nat.ne_of_lt (Nat.lt_succ_self _)
  have h2L : L + 1 + 1 ≠ L := ne_add2 L
  have h3L : L + 1 + 1 + 1 ≠ L := hLc.symm
  have hsD : s.heap.get? DA = none := G₂.fresh _ hD2
  -- rows is stored
  refine stC (by rfl) (g'.cell c3.2) fun h5 hc5 hs5 => ?_
  have g5 : Go s₁ t s { s' with heap := h5 } := (G₂.trans g').same B hs3 hs5 G (tk := s'.toks)
  have o5 : h5.IsCell (L + 1 + 1) (some (.ref y)) := cell_but (g'.cell c2.2) hs5.extBut h23
  have D5 : IsD w h5 DA (.type "dict") ys := hD'.same hs5 hDc
  have n5 := hLn.sameBut hs5 hLc
  have y5 : IsC w h5 y b := g5.isC D
  have K5 := g5.good.kin B
  refine wpAny_execs_cons (wpAny_For (nmC (by rfl) o5 (iterD (s := { s' with heap := h5 }) K5 F.kc y5.d y5.ns fun o' St' W' st' => ?_)))
  generalize hJI : ({ s' with heap := h5 } : Shared).heap.objs.size = II at W' ⊢
  have hI5 : h5.get? II = none := hJI ▸ get_size _
  have hkI5 : Keep h5 (h5.push o') := Keep.push _ _
  have hIs : s.heap.get? II = none := g5.fresh _ hI5
  have hLI : L ≠ II := ns_ne n5 hI5
  have hDI' : DA ≠ II := D5.ne hI5
  have hyI : y ≠ II := y5.ne hI5
  have hoI : L + 1 + 1 ≠ II := cell_ne o5 hI5
  have hrI : L + 1 + 1 + 1 ≠ II := cell_ne hc5 hI5
  have hLy : L ≠ y := (D.ne hL).symm
  have hLD : L ≠ DA := ns_ne hn hD2
  have hoD : L + 1 + 1 ≠ DA := cell_ne c2.2 hD2
  have hys : ys.length ≤ 200 := by rw [e]; have := fold_len (orA_len a b) a []; simp at this; omega
  refine for_W W' r₂.h (fun i s' => ∃ m, Go s₁ t s s' ∧ St' i s'.heap ∧ s'.heap.Ns L m ∧ s'.heap.IsCell (L + 1 + 1) (some (.ref y)) ∧ s'.heap.IsCell (L + 1 + 1 + 1) (some (.ref DA)) ∧ IsD w s'.heap DA (.type "dict") ((b.take i).foldl (orB b) ys))
    (fun i s' ⟨_, _, z, _⟩ => z) ?_ ?_ ⟨_, g5.keep hkI5, st', n5.keeps hkI5, cell_but o5 (fun c _ _ q => hkI5 _ _ q) (Nat.ne_of_lt (Nat.lt_succ_self _)), cell_but hc5 (fun c _ _ q => hkI5 _ _ q) (Nat.ne_of_lt (Nat.lt_succ_self _)), D5.ext (.of_keep hkI5)⟩
  · rintro i s6 v h7 tk7 hi ⟨m6, G6, st6, hn6, ho6, hr6, D6⟩ ⟨k, m₀, u', hk, rfl⟩ st7 hs7 N
    have G7 := G6.but B hIs hs7 G (tk := tk7)
    have n7 := hn6.extBut hs7 hLI
    have o7 := cell_but ho6 hs7 hoI
    have r7 := cell_but hr6 hs7 hrI
    have D7 := D6.extBut hs7 hDI'
    refine stL n7 fun h8 n8 hs8 => ?_
    have G8 := G7.same B hL hs8 G (tk := tk7 + 1)
    have o8 := cell_but o7 hs8.extBut h2L
    have r8 := cell_but r7 hs8.extBut h3L
    have D8 := D7.same hs8 hLD.symm
    have y8 := G8.isC D
    have K8 := G8.good.kin B
    have st8 := W'.but st7 hs8.extBut (by simp only [List.mem_cons, List.not_mem_nil, or_false, not_or]; exact ⟨hLI, hLy⟩)
    have hDs : DA ≠ sysModules := by show DA ≠ 1; have := three_lt B G₂.good; omega
    have lr : ((b.take i).foldl (orB b) ys).length ≤ 1000 := by have := fold_len (orB_len b) (b.take i) ys; rw [List.length_take] at this; omega
    refine wpAny_execs_cons (wpAny_If (wpAny_isTrue_Compare1 (nmL n8 (if_pos rfl) (nmC (by rfl) r8 ?_))))
    refine notIn_D (s := { s6 with heap := h8, toks := tk7 + 1 }) K8 dkDict D8 hDs fun tk9 => wpAny_truthy_bool ?_
    have hst : orB b ((b.take i).foldl (orB b) ys) (k, m₀) = (b.take (i + 1)).foldl (orB b) ys := by
      rw [take_succ hk, List.foldl_append]; rfl
    obtain ⟨rv, hrv⟩ := get_some hk
    cases hq : (((b.take i).foldl (orB b) ys).get k).isSome with
    | true =>
      simp only [Bool.not_true, Bool.false_eq_true, if_false]
      refine wpAny_execs_nil (wpAny_execs_nil ⟨_, G8.tok tk9, st8, n8, o8, r8, ?_⟩)
      rw [← hst, orB_t hq]; exact D8
    | false =>
      simp only [Bool.not_false, if_true]
      refine wpAny_execs_cons (wpAny_Assign_Subscript (sub_L ?_))
      refine nmC (by rfl) o8 (nmL n8 (if_pos rfl) ⟨F.kc.getL K8 y8.d, by simp, ?_⟩)
      refine getItem_D K8 F.kc y8.d hrv fun u5 tk5 => ?_
      refine nmC (by rfl) r8 (nmL n8 (if_pos rfl) ?_)
      refine setItem_D K8 dkDict D8 lr fun ha tka Da hsa => ?_
      refine wpAny_execs_nil (wpAny_execs_nil ⟨_, (G8.tok tk5).same B hsD hsa G, W'.but st8 hsa.extBut (by simp only [List.mem_cons, List.not_mem_nil, or_false, not_or]; exact ⟨hDI', hyD.symm⟩), n8.sameBut hsa hLD, cell_but o8 hsa.extBut hoD, cell_but r8 hsa.extBut hDc.symm, ?_⟩)
      rw [← hst, orB_f hq]
      simp only [hrv, Option.getD_some]
      exact Da
  rintro s6 h7 tk7 ⟨m6, G6, st6, hn6, ho6, hr6, D6⟩ hs7
  have G7 := G6.but B hIs hs7 G (tk := tk7)
  have r7 := cell_but hr6 hs7 hrI
  have D7 := D6.extBut hs7 hDI'
  rw [List.take_of_length_le (Nat.le_refl _), e] at D7
  have D7' : IsD w h7 DA (.type "dict") (orRows a b) := D7
  have lr : (orRows a b).length ≤ 1000 := by
    have := fold_len (orB_len b) b (a.foldl (orA a b) [])
    rw [e] at hys
    unfold orRows; omega
  clear D7 W W'
  generalize hs9 : ({ s6 with heap := h7, toks := tk7 } : Shared) = s9 at G7
  have r9 : s9.heap.IsCell (L + 1 + 1 + 1) (some (.ref DA)) := by rw [← hs9]; exact r7
  have D9 : IsD w s9.heap DA (.type "dict") (orRows a b) := by rw [← hs9]; exact D7'
  have K9 := G7.good.kin B
  have hDs : DA ≠ sysModules := by show DA ≠ 1; have := three_lt B G₂.good; omega
  refine wpAny_execs_cons (wpAny_Return_some (callP ?_))
  refine nmG B G7.good F.g_Counter ?_
  refine args_cons ?_
  rw [eval_DictComp1]
  refine dictC (use := none) (cl := [("rows", L + 1 + 1 + 1)]) (by rfl) (by decide) rfl (by decide) (nmC (by rfl) r9 (iterD K9 dkDict D9 hDs fun o St W st DB CB h' tk hDA hCA hne hk hnC hD0 => ?_))
  have hI : s9.heap.get? s9.heap.objs.size = none := get_size _
  have hkI : Keep s9.heap (s9.heap.push o) := Keep.push _ _
  have hsz : (s9.heap.push o).objs.size = s9.heap.objs.size + 1 := Heap.size_push ..
  dsimp only at hDA hCA hk
  rw [hsz] at hDA hCA
  have hB2 : s9.heap.get? DB = none := get_ge (by omega)
  have hC2 : s9.heap.get? CB = none := get_ge (by omega)
  have hDI : DB ≠ s9.heap.objs.size := by omega
  have hCI : CB ≠ s9.heap.objs.size := by omega
  have hxD : DA ≠ DB := D9.ne hB2
  have hxC : DA ≠ CB := D9.ne hC2
  have GS : Go s₁ t s9 s9 := Go.start G7.good
  refine dictLoop_W (c := CB) W r₂.h (by simp only [List.mem_cons, List.not_mem_nil, or_false, not_or]; exact ⟨hDI, hxD.symm⟩) (by simp only [List.mem_cons, List.not_mem_nil, or_false, not_or]; exact ⟨hCI, hxC.symm⟩) hne lr
    (fun i ys s' => Go s₁ t s9 s' ∧ ys = ((orRows a b).take i).foldl (orC (orRows a b)) [] ∧ ∃ m, s'.heap.Ns CB m) ?_ ?_ ?_ ⟨(GS.keep hkI).keep hk, rfl, _, hnC⟩ hD0 (W.ext st (Ext.of_keep hk))
  · rintro i ys s' h' tk q hq ⟨g, e, m, hm⟩ hb
    rcases hq with rfl | rfl
    · exact ⟨g.but B hI hb G7.good, e, m, hm.extBut hb hCI⟩
    · exact ⟨g.but B hB2 hb G7.good, e, m, hm.extBut hb hne.symm⟩
  · rintro i ys v s' hi hl ⟨k, m₀, u, hk0, rfl⟩ ⟨g, e, m, hm⟩ hD st' N
    refine stL hm fun h4 hn4 hs4 => ?_
    have g4 := g.same B hC2 hs4 G7.good (tk := s'.toks + 1)
    have e4 : ExtB CB s'.heap h4 := .of_same hs4
    have z1 := g4.cell r9
    have z2 := g4.isD D9
    have K4 := g4.good.kin B
    obtain ⟨ma, hma⟩ := get_some hk0
    have hst : orC (orRows a b) ys (k, m₀) = ((orRows a b).take (i + 1)).foldl (orC (orRows a b)) [] := by
      rw [take_succ hk0, List.foldl_append, ← e]; rfl
    refine wpAny_tests_one (wpAny_isTrue_Compare1 (sub_L (nmC (by rfl) z1 (nmL hn4 (if_pos rfl) ⟨dkDict.getL K4 z2, by simp, getItem_D K4 dkDict z2 hma fun u6 tk6 => ?_⟩))))
    refine wpAny_Constant_int (gt_int (wpAny_truthy_bool ?_))
    by_cases hpos : 0 < ma
    · simp only [hpos, decide_true, if_true]
      refine nmL hn4 (if_pos rfl) (sub_L (nmC (by rfl) z1 (nmL hn4 (if_pos rfl) ⟨dkDict.getL K4 z2, by simp, getItem_D K4 dkDict z2 hma fun u7 tk7 => ?_⟩)))
      refine ⟨k, _, _, _, rfl, rfl, e4, g4.tok _, ?_, _, hn4⟩
      rw [← hst, orC_t hma hpos]
    · simp only [hpos, decide_false, Bool.false_eq_true, if_false]
      refine ⟨e4, g4.tok _, ?_, _, hn4⟩
      rw [← hst, orC_f hma hpos]
  rintro ys s' hl ⟨g, e, m, hm⟩ hD
  rw [List.take_of_length_le (Nat.le_refl _)] at e
  refine ⟨m, hm, fun h' hs => ?_⟩
  have g' := g.same B hC2 hs G7.good (tk := s'.toks)
  have K' := g'.good.kin B
  have hD' : IsD w h' DB (.type "dict") ys := hD.same hs hne
  refine args_nil ⟨keepC F K', wpAny_call (new_D (t := t) F B g'.good r₂ (by omega) dkDict hD' (by show DB ≠ 1; have := three_lt B G7.good; omega) fun s'' z g'' hz hf => ?_)⟩
  subst e
  exact h s'' z ((G7.trans g').trans g'') hz ((hf.back g').back G7)
end
end Mine
end

noncomputable section
open PySem PySem.Calls PySem.W PyProof.Rows
set_option maxRecDepth 100000
set_option maxHeartbeats 4000000
namespace Mine
section
variable {w : World} {A : Around} {s s₀ s₁ : Shared} {R : Result → Shared → Prop} {K : Frag} {mg mb : Str → Option Value} {n : Nat} {t : Bool} {E : Value → Shared → Prop}
theorem IsC.type {x : Addr} {a : Bag} {M : Model} {h : Heap} (C : IsC w h x a) : Looks M h (typeOf (.ref x)) (.ref 74) := C.d.type
theorem specialC {x f : Addr} {a : Bag} {name : Str} {args : List Value} {M : Model} {Q : Option Value → Shared → Prop} (X : K.In s.heap) (C : IsC w s.heap x a)
    (hs : findIn K (.ref 74) name = some (some (.ref f))) (hf : typeIn K (.ref f) = some (.type "function")) (h : wpAny M A (call (.ref f) (.ref x :: args)) (fun v => Q (some v)) E s) :
    wpAny M A (callSpecial? (.ref x) name args) Q E s :=
  wpAny_bind (wpAny_bind (C.type.here ((looks_findIn X hs).here (wpAny_holding (wpAny_bind ((bind_fn X _ hf).here (wpAny_bind (wpAny_mono h (fun _ _ z => wpAny_pure z) fun _ _ z => z))))))))
theorem bin1_C {x y f : Addr} {a b : Bag} {nm : String} {Q : Option Value → Shared → Prop} (F : KF K) (X : K.In s.heap) (C : IsC w s.heap x a) (D : IsC w s.heap y b)
    (hs : findIn K (.ref 74) (PySem.dunder nm) = some (some (.ref f))) (hf : typeIn K (.ref f) = some (.type "function"))
    (h : wpAny (model PG w) A (call (.ref f) [.ref x, .ref y]) (fun v s' => ∃ z, v = .ref z ∧ Q (some v) s') E s) : wpAny (model PG w) A (binaryOp1 nm (.ref x) (.ref y)) Q E s := by
  obtain ⟨cd, hcd, hm⟩ := F.c_cls
  unfold binaryOp1
  refine wpAny_bind (C.type.here (wpAny_bind (D.type.here (wpAny_bind ((fills_K X hcd hm hs).here ?_)))))
  simp only [beq_self_eq_true, if_true]
  refine wpAny_bind (wpAny_pure ?_)
  simp only [Bool.and_false, Bool.false_eq_true, if_false, Bool.false_and]
  refine wpAny_bind (wpAny_pure ?_)
  simp only [Bool.false_eq_true, if_false]
  refine wpAny_bind (m := tryMethod (.ref x) _ (.ref y)) ?_
  unfold tryMethod
  refine wpAny_bind (specialC X C hs hf (wpAny_mono h (fun v s' hv => ?_) fun _ _ e => e))
  obtain ⟨z, rfl, q⟩ := hv
  exact wpAny_pure (wpAny_pure q)

theorem binOr_C {x y : Addr} {a b : Bag} {Q : Value → Shared → Prop} (F : KF K) (X : K.In s.heap) (C : IsC w s.heap x a) (D : IsC w s.heap y b)
    (h : wpAny (model PG w) A (call (.ref 54) [.ref x, .ref y]) (fun v s' => ∃ z, v = .ref z ∧ Q v s') E s) : wpAny (model PG w) A (binaryOp .BitOr (.ref x) (.ref y)) Q E s := by
  unfold binaryOp
  refine wpAny_holding (wpAny_bind (bin1_C F X C D F.c_or F.ty_or (wpAny_mono h (fun v s' hv => ?_) fun _ _ e => e)))
  obtain ⟨z, rfl, q⟩ := hv
  exact ⟨z, rfl, wpAny_pure q⟩
theorem iand_C {x y : Addr} {a b : Bag} {Q : Value → Shared → Prop} (F : KF K) (X : K.In s.heap) (C : IsC w s.heap x a) (D : IsC w s.heap y b)
    (h : wpAny (model PG w) A (call (.ref 49) [.ref x, .ref y]) (fun v s' => ∃ z, v = .ref z ∧ Q v s') E s) : wpAny (model PG w) A (inplaceOp .BitAnd (.ref x) (.ref y)) Q E s := by
  have LM := (makesD_of (M := model PG w) X F.mkc).mro
  have L1 : Looks (model PG w) s.heap (fillsInplaceSlot (.ref 74) "and" false) false := by
    unfold fillsInplaceSlot
    refine LM.andThen ?_
    rw [List.anyM_cons]
    refine Looks.andThen ((looks_findIn X F.c_iand).andThen .now) ?_
    simp only [Bool.false_eq_true, if_false]
    refine Looks.andThen ((looks_findIn (K := K) X (show findIn K (.type "dict") (dunderI "and") = some none by rfl)).andThen .now) ?_
    simp only [Bool.false_eq_true, if_false]
    refine Looks.andThen ((looks_findIn (K := K) X (show findIn K (.type "object") (dunderI "and") = some none by rfl)).andThen .now) ?_
    exact .now
  unfold inplaceOp
  refine wpAny_holding (wpAny_bind (C.type.here (wpAny_bind (L1.here ?_))))
  simp only [Bool.false_eq_true, if_false]
  refine wpAny_bind (bin1_C F X C D F.c_and F.ty_and (wpAny_mono h (fun v s' hv => ?_) fun _ _ e => e))
  obtain ⟨z, rfl, q⟩ := hv
  exact ⟨z, rfl, wpAny_pure q⟩
theorem ior_C {x y : Addr} {a b : Bag} {Q : Value → Shared → Prop} (F : KF K) (X : K.In s.heap) (C : IsC w s.heap x a) (D : IsC w s.heap y b)
    (h : wpAny (model PG w) A (call (.ref 61) [.ref x, .ref y]) (fun v s' => ∃ z, v = .ref z ∧ Q v s') E s) : wpAny (model PG w) A (inplaceOp .BitOr (.ref x) (.ref y)) Q E s := by
  have LM := (makesD_of (M := model PG w) X F.mkc).mro
  have L1 : Looks (model PG w) s.heap (fillsInplaceSlot (.ref 74) "or" false) true := by
    unfold fillsInplaceSlot
    refine LM.andThen ?_
    rw [List.anyM_cons]
    refine Looks.andThen ((looks_findIn X F.c_ior).andThen .now) ?_
    simp only [if_true]
    exact .now
  unfold inplaceOp
  refine wpAny_holding (wpAny_bind (C.type.here (wpAny_bind (L1.here ?_))))
  simp only [if_true]
  refine wpAny_bind (m := tryMethod (.ref x) _ (.ref y)) ?_
  unfold tryMethod
  refine wpAny_bind (specialC X C F.c_ior F.ty_ior (wpAny_mono h (fun v s' hv => ?_) fun _ _ e => e))
  obtain ⟨z, rfl, q⟩ := hv
  exact wpAny_pure (wpAny_bind (wpAny_rule (wpAny_pure q)))

theorem c_ior {x y : Addr} {a b : Bag} (F : KF K) (B : Base K mg mb s₁) (G : Good s₁ s) (r : Rm A (n + 7)) (ha : a.length ≤ 200) (hb : b.length ≤ 200) (C : IsC w s.heap x a) (D : IsC w s.heap y b)
    (h : ∀ s' z, Go s₁ t s s' → IsC w s'.heap z ((orB' a b).copyTo [] (orB' a b)) → Nw s.heap z → R (.ok (.ret (.ref z))) s') :
    codeAny (model PG w) A (.call (.ref 61) ⟨[.ref x, .ref y], []⟩) R s := by
  refine enterP (binds := [("self", .ref x), ("other", .ref y)]) F.f_ior B (Go.start (t := t) G) r (fun _ _ _ _ _ => BindsTo.of_eq rfl) (by rfl) fun s₂ L E' r₂ G₂ _ kp hL hn hc => ?_
  show wpAny _ _ (execs [_] _) _ _ _
  refine wpAny_execs_cons (wpAny_Return_some (wpAny_BinOp ?_))
  refine nmL hn (by rfl) (nmL hn (by rfl) ?_)
  refine binOr_C F (G₂.good.kin B) (G₂.isC C) (G₂.isC D) (wpAny_call (c_or (t := t) F B G₂.good r₂ ha hb (G₂.isC C) (G₂.isC D) fun s' z g hz hf => ?_))
  exact ⟨z, rfl, h s' z (G₂.trans g) hz (hf.back G₂)⟩
end
end Mine
end

noncomputable section
open PySem PySem.Calls PySem.W PyProof.Rows
set_option maxRecDepth 100000
set_option maxHeartbeats 4000000
namespace Mine
abbrev tupObj (vs : List Value) : Obj := { cls := .type "tuple", data := .seq vs.toArray }
theorem wp_peek1 {α : Type} {K : Frag} {M : Model} {A : Around} {E : Value → Shared → Prop} {Q : α → Shared → Prop} {s : Shared} {o : Obj} {r : Addr → α} (X : K.In s.heap)
    (q : Q (r s.heap.objs.size) { s with heap := s.heap.push o }) :
    ∀ (t : Sem α) (g : Addr → Option α), peek1 K ⟨M.prog, M.w.params⟩ t = some (o, g) → (∀ D, g D = some (r D)) → wpAny M A t Q E s := by
  intro t
  induction t with
  | rule _ k ih => intro g e hg Γ p hΓ; exact ih () g e hg Γ p hΓ
  | point _ k ih => intro g e hg Γ p hΓ; exact ih () g e hg Γ p hΓ
  | ask k ih => intro g e hg Γ p hΓ; exact ih _ g e hg Γ p hΓ
  | load a _ k ih =>
    intro g e hg Γ p hΓ
    simp only [peek1] at e
    split at e
    · rename_i ob ho; exact ⟨ob, X _ _ ho, ih ob g e hg Γ p hΓ⟩
    · cases e
  | alloc ob k _ =>
    intro g e hg
    have e : some (ob, fun D => peek K ⟨M.prog, M.w.params⟩ (k D)) = some (o, g) := e
    obtain ⟨e1, e2⟩ := Prod.mk.inj (Option.some.inj e)
    subst e1
    subst e2
    have X' : K.In (s.heap.push ob) := X.keeps fun b x hb => Heap.get?_push_of_some _ hb
    show wpAny M A (alloc ob >>= k) Q E s
    refine wpAny_bind (wpAny_alloc ?_)
    exact (Looks.of_peek (M := M) (h := s.heap.push ob) X' (hg s.heap.objs.size)).here (s := { s with heap := s.heap.push ob }) q
  | _ => intro g e; cases e

/-- entering a def that takes the rest of its arguments as a tuple -/
theorem enterS {w : World} {A : Around} {s s₀ : Shared} {s₁ : Shared} {R : Result → Shared → Prop} {K : Frag} {mg mb : Str → Option Value} {f : Addr} {qual : Str} {fd : FD} {dV : Value} {cd : Addr} {args : Args} {vs : List Value} {binds : Addr → List (Str × Value)} {n : Nat} {t : Bool}
    (kf : FnIn K f qual fd dV cd) (B : Base K mg mb s₁) (G : Go s₁ t s₀ s) (r : Rm A (n + 1))
    (hb : ∀ nm doc pm an ct S, ∃ g, peek1 K S (bindArgs (fnOf nm qual fd.params fd.body fd.scope dV .none doc pm an (.ref cd) ct) args) = some (tupObj vs, g) ∧ ∀ D, g D = some (binds D))
    (hkind : ∀ D, ((binds D).all fun y => fd.scope.names.lookup y.1 == some .local || fd.scope.names.lookup y.1 == some .cell) = true)
    (h : ∀ s₂ L D (E' : Value → Shared → Prop), Rm (A.deeper (frameEnv qual fd L f cd)) n → Go s₁ t s₀ s₂ → Go s₁ false s s₂ → Keep s.heap s₂.heap → s.heap.get? L = none → s.heap.get? D = none → D ≠ L → s.heap.objs.size ≤ D →
      s₂.heap.get? D = some (tupObj vs) → s₂.heap.Ns L (bindL (frameEnv qual fd L f cd).kindOf (binds D) fun _ => none) →
      (∀ n c, (cellsFrom (L + 1) fd.scope.names []).lookup n = some c → s.heap.get? c = none ∧ c ≠ D ∧ s₂.heap.IsCell c (bindC (frameEnv qual fd L f cd).kindOf (binds D) (fun _ => none) n)) →
      wpAny (model PG w) (A.deeper (frameEnv qual fd L f cd)) (execs fd.body (frameEnv qual fd L f cd))
        (fun fl s' => R (.ok (.ret (match fl with | .ret v => v | _ => .none))) s') E' s₂)
    (hco : fd.scope.isCoroutine = false := by rfl) (hgen : fd.scope.isGenerator = false := by rfl) (hk : fd.scope.kind = .function := by rfl) :
    codeAny (model PG w) A (.call (.ref f) args) R s := by
  have GS : Go s₁ false s s := Go.start G.good
  have hkT : Keep s.heap (s.heap.push (tupObj vs)) := Keep.push _ _
  have hsz : (s.heap.push (tupObj vs)).objs.size = s.heap.objs.size + 1 := Heap.size_push ..
  refine enter kf (G.good.kin B) (G.good.lim B) r.depth (h' := s.heap.push (tupObj vs)) (binds := binds s.heap.objs.size) (fun nm doc pm an ct M A E Q q => ?_) hkT (hkind _) (fun h₁ tk E' hn hc hkp hlt => ?_) hco hgen hk
  · obtain ⟨g, e1, e2⟩ := hb nm doc pm an ct ⟨M.prog, M.w.params⟩
    exact wp_peek1 (G.good.kin B) q _ g e1 e2
  · have hk1 := hkT.trans hkp
    have hL : s.heap.get? (s.heap.push (tupObj vs)).objs.size = none := get_ge (by rw [hsz]; exact Nat.le_succ _)
    refine h { s with heap := h₁, toks := tk } _ s.heap.objs.size E' (r.deeper _) (G.keep hk1) (GS.keep hk1) hk1 hL (get_size _) (by rw [hsz]; exact Nat.ne_of_lt (Nat.lt_succ_self _)) (Nat.le_refl _) (hkp _ _ (Heap.get?_push_size _ rfl)) hn fun n c e => ?_
    have hc1 : s.heap.objs.size < c := by
      rcases cellsFrom_ge _ _ _ e with e | e
      · rw [hsz] at e; omega
      · cases e
    refine ⟨get_ge (Nat.le_of_lt hc1), Nat.ne_of_gt hc1, hc n c e⟩

section
variable {prog : Program} {w : World}
theorem wkTup {I ax : Addr} {items : Array Value} (hne : ax ≠ I) : Wk prog w I [I, ax] items.size (fun i v => items[i]? = some v) (fun i h => h.IsTupleIter I ax i ∧ h.IsTuple ax items) := by
  refine ⟨fun A hA => Walks.tuple hA I ax hne items, ?_⟩
  rintro i h ⟨⟨o, ho, hc, _⟩, ⟨o', ho', hc', _⟩⟩ b hb
  simp at hb
  rcases hb with rfl | rfl
  · exact ⟨o, ho, isTab_cls (by rw [hc]; nofun)⟩
  · exact ⟨o', ho', isTab_cls (by rw [hc']; nofun)⟩
theorem tupIs {h : Heap} {T : Addr} {vs : List Value} (g : h.get? T = some (tupObj vs)) : h.IsTuple T vs.toArray := ⟨_, g, rfl, 0, rfl⟩
theorem tupL {M : Model} {h : Heap} {T : Addr} {vs : List Value} (g : h.get? T = some (tupObj vs)) : ∃ r, Looks M h (specialOf (.ref T) "__getitem__") (some (.builtin r)) :=
  ⟨_, ((Looks.ld g).andThen .now).andThen (Looks.of_pure PySem.F.slot_tuple_getitem.lookup)⟩
theorem seqsTail {A : Around} {E : Value → Shared → Prop} {s : Shared} {env : Env} {x : Str} {px p q pos : Pos} {k : Nat} {T : Addr} {v y : Value} {m : Str → Option Value} {Q : Value → Shared → Prop}
    (hn : s.heap.Ns env.locals m) (hv : m x = some (.ref T)) (g : s.heap.get? T = some (tupObj [v, y]))
    (h : ∀ h' tk D, Keep s.heap h' → s.heap.get? D = none → h'.get? D = some (tupObj [y]) → s.heap.objs.size ≤ D → Q (.ref D) { s with heap := h', toks := tk })
    (hk : env.scope.kind = .function := by rfl) (hl : env.kindOf x = some .local := by rfl) (hd : (x == ("__debug__" : Str)) = false := by decide) :
    wpAny (model prog w) A (eval (.Subscript (.Name x px) (.Slice (some (.Constant (.int 1) k p)) none none q) pos) env) Q E s := by
  have hk1 : ∀ o, Keep s.heap (s.heap.push o) := fun o => Keep.push _ _
  refine wpAny_Subscript_Slice (T := "tuple") PySem.F.slot_tuple_getitem.lookup (nmL hn hv (wpAny_Slice ?_) hk hl hd)
  rw [evalPart_some, evalPart_none]
  refine wpAny_Constant_int (wpAny_pure (wpAny_pure ⟨⟨_, hk1 _ _ _ g, rfl⟩, ?_⟩))
  refine getItem_tuple_from (a := 1) (items := [v, y].toArray) ⟨_, hk1 _ _ _ g, rfl, 0, rfl⟩ (Heap.IsSliceOf.new ..) (by omega) (by simp) ?_
  refine h _ _ _ ((hk1 _).trans (Keep.push _ _)) (get_ge ?_) (Heap.get?_push_size _ rfl) ?_
  · show s.heap.objs.size ≤ (s.heap.push _).objs.size
    rw [Heap.size_push]; exact Nat.le_succ _
  · show s.heap.objs.size ≤ (s.heap.push _).objs.size
    rw [Heap.size_push]; exact Nat.le_succ _
end
theorem ns_obj {h : Heap} {a : Addr} {m} (n : h.Ns a m) : ∃ o, h.get? a = some o := let ⟨o, _, _, e, _⟩ := n; ⟨o, e⟩

section
variable {w : World} {A : Around} {s s₀ s₁ : Shared} {R : Result → Shared → Prop} {K : Frag} {mg mb : Str → Option Value} {n : Nat} {t : Bool}
theorem c_inter {o x y : Addr} {a b : Bag} (F : KF K) (B : Base K mg mb s₁) (G : Good s₁ s) (r : Rm A (n + 9)) (ha : a.length ≤ 200) (C : IsC w s.heap x a) (D : IsC w s.heap y b)
    (h : ∀ s' z, Go s₁ t s s' → IsC w s'.heap z ((andB (a.copyTo [] a) b).copyTo [] (andB (a.copyTo [] a) b)) → Nw s.heap z → R (.ok (.ret (.ref z))) s') :
    codeAny (model PG w) A (.call (.ref 177) ⟨[.ref o, .ref x, .ref y], []⟩) R s := by
  refine enterS (vs := [.ref x, .ref y]) (binds := fun D => [("self", .ref o), ("sequences", .ref D)]) F.f_ic B (Go.start (t := t) G) r (fun _ _ _ _ _ _ => ⟨_, rfl, fun _ => rfl⟩) (fun _ => by rfl) fun s₂ L T E' r₂ G₂ _ kp hL hT hTL hTs gT hn hc => ?_
  show wpAny _ _ (execs [_, _, _] _) _ _ _
  have K2 := G₂.good.kin B
  have C2 := G₂.isC C
  refine wpAny_execs_cons (wpAny_Assign_Name (callM (sub_L ?_)))
  refine nmL hn (by rfl) (wpAny_Constant_int ⟨tupL gT, by simp, ?_⟩)
  refine getItem_tuple (items := [Value.ref x, Value.ref y].toArray) (j := 0) (x := .ref x) ⟨_, gT, rfl, 0, rfl⟩ (by omega) (by omega) (by rfl) (by rfl) ?_
  refine method_DF (s := { s₂ with toks := s₂.toks + 1 }) K2 C2.own F.c_ga canon_dict F.c_gt F.c_copy F.f_copy.ty ?_
  refine args_nil ⟨keeper_K F.f_copy.keep K2, ?_⟩
  refine wpAny_call (c_copy (t := t) F B (G₂.good.tok _) r₂.le.le (by omega) C2 fun s3 z0 g3 hz0 nz0 => ?_)
  have G3 := (G₂.tok _).trans g3
  have n3 := g3.ns hn
  have T3 := g3.obj (isTab_cls (by nofun)) gT
  obtain ⟨oL, eL⟩ := ns_obj hn
  have zL := nz0.ne eL
  have zT := nz0.ne gT
  refine stL n3 fun h4 n4 hs4 => ?_
  have G4 := G3.same B hL hs4 G (tk := s3.toks + 1)
  have T4 : h4.get? T = some (tupObj [.ref x, .ref y]) := hs4.extBut T _ hTL T3
  have z4 := hz0.but hs4.extBut zL.1 zL.2
  refine wpAny_execs_cons (wpAny_For (seqsTail n4 (by rfl) T4 fun h5 tk5 T' k5 nT' gT' lT' => ?_))
  refine wpAny_pyIter_tuple (tupIs gT') ?_
  have G5 := (G4.keep k5 (tk := tk5))
  have n5 := n4.keeps k5
  have z5 := z4.ext (.of_keep k5)
  have hI5 : h5.get? h5.objs.size = none := get_size _
  have hkI5 := Keep.push h5 { cls := .type "tuple_iterator", data := .fields #[.ref T', .int 0 0] }
  have hIs : s.heap.get? h5.objs.size = none := G5.fresh _ hI5
  have hLI : L ≠ h5.objs.size := ns_ne n5 hI5
  have hTI : T' ≠ h5.objs.size := fun q => by rw [q, hI5] at gT'; cases gT'
  have W := wkTup (prog := PG) (w := w) (items := [Value.ref y].toArray) hTI
  have zI : z0 ≠ h5.objs.size := z5.ne hI5
  have zI' : z0 - 1 ≠ h5.objs.size := ns_ne z5.own1.2 hI5
  have hLT' : L ≠ T' := ns_ne n4 nT'
  have hIo : ∀ {i : Nat} {h : Heap}, h.IsTupleIter h5.objs.size T' i → ∃ o, h.get? h5.objs.size = some o := fun ⟨o, e, _⟩ => ⟨o, e⟩
  refine for_W W r₂.h (fun i s' => ∃ m z bg, Go s₁ t s s' ∧ (s'.heap.IsTupleIter h5.objs.size T' i ∧ s'.heap.IsTuple T' [Value.ref y].toArray) ∧ s'.heap.Ns L m ∧ m "intersection" = some (.ref z) ∧ IsC w s'.heap z bg ∧ z ≠ h5.objs.size ∧ z - 1 ≠ h5.objs.size ∧ z ≠ L ∧ z - 1 ≠ L ∧ Nw s.heap z ∧
      bg = (if i = 0 then a.copyTo [] a else (andB (a.copyTo [] a) b).copyTo [] (andB (a.copyTo [] a) b))) (fun i s' ⟨_, _, _, _, z, _⟩ => z) ?_ ?_
    ⟨_, z0, _, G5.keep hkI5, ⟨⟨_, Heap.get?_push_size _ rfl, rfl, rfl⟩, tupIs (hkI5 _ _ gT')⟩, n5.keeps hkI5, by rfl, z5.ext (.of_keep hkI5), zI, zI', zL.1, zL.2, nz0.back (G₂.tok _), rfl⟩
  · rintro i s6 v h7 tk7 hi ⟨m, z, bg, G6, st6, n6, hm, z6, i1, i2, l1, l2, nz, hbg⟩ hv st7 hs7 N
    have hi0 : i = 0 := by have : i < 1 := hi; omega
    subst hi0
    have hv' : v = .ref y := by have : some (Value.ref y) = some v := hv; cases this; rfl
    subst hv'
    subst hbg
    have G7 := G6.but B hIs hs7 G (tk := tk7)
    have n7 := n6.extBut hs7 hLI
    have z7 := z6.but hs7 i1 i2
    refine stL n7 fun h8 n8 hs8 => ?_
    have G8 := G7.same B hL hs8 G (tk := tk7 + 1)
    have z8 := z7.but hs8.extBut l1 l2
    have D8 := G8.isC D
    have K8 := G8.good.kin B
    have st8 := W.but st7 hs8.extBut (by simp only [List.mem_cons, List.not_mem_nil, or_false, not_or]; exact ⟨hLI, hLT'⟩)
    have lcp : (a.copyTo [] a).length ≤ 1000 := by have := copy_len a a []; simp at this; omega
    refine wpAny_execs_cons (wpAny_AugAssign_Name (wpAny_loadName_local rfl rfl n8 ((if_neg (by decide)).trans hm) (nmL n8 (if_pos rfl) ?_)))
    refine iand_C (s := { s6 with heap := h8, toks := tk7 + 1 }) F K8 z8 D8 (wpAny_call (c_and (t := t) F B G8.good r₂.le.le lcp z8 D8 fun s9 z9 g9 hz9 nz9 => ⟨z9, rfl, ?_⟩))
    have n9 := g9.ns n8
    have st9 := W.ext st8 g9.Ext
    obtain ⟨oL, eL⟩ := ns_obj n8
    obtain ⟨oI, eI⟩ := hIo st8.1
    have zL9 := nz9.ne eL
    have zI9 := nz9.ne eI
    refine stL n9 fun h10 n10 hs10 => ?_
    refine wpAny_execs_nil ⟨_, z9, _, (G8.trans g9).same B hL hs10 G, W.but st9 hs10.extBut (by simp only [List.mem_cons, List.not_mem_nil, or_false, not_or]; exact ⟨hLI, hLT'⟩), n10, if_pos rfl, hz9.but hs10.extBut zL9.1 zL9.2, zI9.1, zI9.2, zL9.1, zL9.2, nz9.back G8, rfl⟩
  · rintro s6 h7 tk7 ⟨m, z, bg, G6, st6, n6, hm, z6, i1, i2, l1, l2, nz, hbg⟩ hs7
    subst hbg
    refine wpAny_execs_cons (wpAny_Return_some (nmL (n6.extBut hs7 hLI) hm ?_))
    exact h _ z (G6.but B hIs hs7 G) (z6.but hs7 i1 i2) nz
theorem c_union {o x y : Addr} {a b : Bag} (F : KF K) (B : Base K mg mb s₁) (G : Good s₁ s) (r : Rm A (n + 9)) (ha : a.length ≤ 200) (hb : b.length ≤ 200) (C : IsC w s.heap x a) (D : IsC w s.heap y b)
    (h : ∀ s' z, Go s₁ t s s' → IsC w s'.heap z ((orB' (a.copyTo [] a) b).copyTo [] (orB' (a.copyTo [] a) b)) → Nw s.heap z → R (.ok (.ret (.ref z))) s') :
    codeAny (model PG w) A (.call (.ref 184) ⟨[.ref o, .ref x, .ref y], []⟩) R s := by
  refine enterS (vs := [.ref x, .ref y]) (binds := fun D => [("self", .ref o), ("sequences", .ref D)]) F.f_uc B (Go.start (t := t) G) r (fun _ _ _ _ _ _ => ⟨_, rfl, fun _ => rfl⟩) (fun _ => by rfl) fun s₂ L T E' r₂ G₂ _ kp hL hT hTL hTs gT hn hc => ?_
  show wpAny _ _ (execs [_, _, _] _) _ _ _
  have K2 := G₂.good.kin B
  have C2 := G₂.isC C
  refine wpAny_execs_cons (wpAny_Assign_Name (callM (sub_L ?_)))
  refine nmL hn (by rfl) (wpAny_Constant_int ⟨tupL gT, by simp, ?_⟩)
  refine getItem_tuple (items := [Value.ref x, Value.ref y].toArray) (j := 0) (x := .ref x) ⟨_, gT, rfl, 0, rfl⟩ (by omega) (by omega) (by rfl) (by rfl) ?_
  refine method_DF (s := { s₂ with toks := s₂.toks + 1 }) K2 C2.own F.c_ga canon_dict F.c_gt F.c_copy F.f_copy.ty ?_
  refine args_nil ⟨keeper_K F.f_copy.keep K2, ?_⟩
  refine wpAny_call (c_copy (t := t) F B (G₂.good.tok _) r₂.le.le (by omega) C2 fun s3 z0 g3 hz0 nz0 => ?_)
  have G3 := (G₂.tok _).trans g3
  have n3 := g3.ns hn
  have T3 := g3.obj (isTab_cls (by nofun)) gT
  obtain ⟨oL, eL⟩ := ns_obj hn
  have zL := nz0.ne eL
  have zT := nz0.ne gT
  refine stL n3 fun h4 n4 hs4 => ?_
  have G4 := G3.same B hL hs4 G (tk := s3.toks + 1)
  have T4 : h4.get? T = some (tupObj [.ref x, .ref y]) := hs4.extBut T _ hTL T3
  have z4 := hz0.but hs4.extBut zL.1 zL.2
  refine wpAny_execs_cons (wpAny_For (seqsTail n4 (by rfl) T4 fun h5 tk5 T' k5 nT' gT' lT' => ?_))
  refine wpAny_pyIter_tuple (tupIs gT') ?_
  have G5 := (G4.keep k5 (tk := tk5))
  have n5 := n4.keeps k5
  have z5 := z4.ext (.of_keep k5)
  have hI5 : h5.get? h5.objs.size = none := get_size _
  have hkI5 := Keep.push h5 { cls := .type "tuple_iterator", data := .fields #[.ref T', .int 0 0] }
  have hIs : s.heap.get? h5.objs.size = none := G5.fresh _ hI5
  have hLI : L ≠ h5.objs.size := ns_ne n5 hI5
  have hTI : T' ≠ h5.objs.size := fun q => by rw [q, hI5] at gT'; cases gT'
  have W := wkTup (prog := PG) (w := w) (items := [Value.ref y].toArray) hTI
  have zI : z0 ≠ h5.objs.size := z5.ne hI5
  have zI' : z0 - 1 ≠ h5.objs.size := ns_ne z5.own1.2 hI5
  have hLT' : L ≠ T' := ns_ne n4 nT'
  have hIo : ∀ {i : Nat} {h : Heap}, h.IsTupleIter h5.objs.size T' i → ∃ o, h.get? h5.objs.size = some o := fun ⟨o, e, _⟩ => ⟨o, e⟩
  refine for_W W r₂.h (fun i s' => ∃ m z bg, Go s₁ t s s' ∧ (s'.heap.IsTupleIter h5.objs.size T' i ∧ s'.heap.IsTuple T' [Value.ref y].toArray) ∧ s'.heap.Ns L m ∧ m "union" = some (.ref z) ∧ IsC w s'.heap z bg ∧ z ≠ h5.objs.size ∧ z - 1 ≠ h5.objs.size ∧ z ≠ L ∧ z - 1 ≠ L ∧ Nw s.heap z ∧
      bg = (if i = 0 then a.copyTo [] a else (orB' (a.copyTo [] a) b).copyTo [] (orB' (a.copyTo [] a) b))) (fun i s' ⟨_, _, _, _, z, _⟩ => z) ?_ ?_
    ⟨_, z0, _, G5.keep hkI5, ⟨⟨_, Heap.get?_push_size _ rfl, rfl, rfl⟩, tupIs (hkI5 _ _ gT')⟩, n5.keeps hkI5, by rfl, z5.ext (.of_keep hkI5), zI, zI', zL.1, zL.2, nz0.back (G₂.tok _), rfl⟩
  · rintro i s6 v h7 tk7 hi ⟨m, z, bg, G6, st6, n6, hm, z6, i1, i2, l1, l2, nz, hbg⟩ hv st7 hs7 N
    have hi0 : i = 0 := by have : i < 1 := hi; omega
    subst hi0
    have hv' : v = .ref y := by have : some (Value.ref y) = some v := hv; cases this; rfl
    subst hv'
    subst hbg
    have G7 := G6.but B hIs hs7 G (tk := tk7)
    have n7 := n6.extBut hs7 hLI
    have z7 := z6.but hs7 i1 i2
    refine stL n7 fun h8 n8 hs8 => ?_
    have G8 := G7.same B hL hs8 G (tk := tk7 + 1)
    have z8 := z7.but hs8.extBut l1 l2
    have D8 := G8.isC D
    have K8 := G8.good.kin B
    have st8 := W.but st7 hs8.extBut (by simp only [List.mem_cons, List.not_mem_nil, or_false, not_or]; exact ⟨hLI, hLT'⟩)
    have lcp : (a.copyTo [] a).length ≤ 200 := by have := copy_len a a []; simp at this; omega
    refine wpAny_execs_cons (wpAny_AugAssign_Name (wpAny_loadName_local rfl rfl n8 ((if_neg (by decide)).trans hm) (nmL n8 (if_pos rfl) ?_)))
    refine ior_C (s := { s6 with heap := h8, toks := tk7 + 1 }) F K8 z8 D8 (wpAny_call (c_ior (t := t) F B G8.good r₂.le lcp hb z8 D8 fun s9 z9 g9 hz9 nz9 => ⟨z9, rfl, ?_⟩))
    have n9 := g9.ns n8
    have st9 := W.ext st8 g9.Ext
    obtain ⟨oL, eL⟩ := ns_obj n8
    obtain ⟨oI, eI⟩ := hIo st8.1
    have zL9 := nz9.ne eL
    have zI9 := nz9.ne eI
    refine stL n9 fun h10 n10 hs10 => ?_
    refine wpAny_execs_nil ⟨_, z9, _, (G8.trans g9).same B hL hs10 G, W.but st9 hs10.extBut (by simp only [List.mem_cons, List.not_mem_nil, or_false, not_or]; exact ⟨hLI, hLT'⟩), n10, if_pos rfl, hz9.but hs10.extBut zL9.1 zL9.2, zI9.1, zI9.2, zL9.1, zL9.2, nz9.back G8, rfl⟩
  · rintro s6 h7 tk7 ⟨m, z, bg, G6, st6, n6, hm, z6, i1, i2, l1, l2, nz, hbg⟩ hs7
    subst hbg
    refine wpAny_execs_cons (wpAny_Return_some (nmL (n6.extBut hs7 hLI) hm ?_))
    exact h _ z (G6.but B hIs hs7 G) (z6.but hs7 i1 i2) nz
end
end Mine
end

noncomputable section
open PySem PySem.Calls PySem.W PyProof.Rows
set_option maxRecDepth 100000
set_option maxHeartbeats 4000000
namespace Mine
def StrAt (l : List Str) (i : Nat) (v : Value) : Prop := ∃ k t, l[i]? = some k ∧ v = .str k t
def dd1 (σ : List Str) (k : Str) : List Str := if k ∈ σ then σ else σ ++ [k]
def ddp (l : List Str) : List Str := l.foldl dd1 []
theorem dd1_mem {σ : List Str} {k x : Str} : x ∈ dd1 σ k ↔ x ∈ σ ∨ x = k := by
  unfold dd1
  split
  · rename_i h
    exact ⟨.inl, fun q => q.elim id fun q => q ▸ h⟩
  · simp
theorem dd1_len {σ : List Str} {k : Str} : (dd1 σ k).length = if k ∈ σ then σ.length else σ.length + 1 := by unfold dd1; split <;> simp
theorem ddp_len : ∀ (l σ : List Str), (l.foldl dd1 σ).length ≤ σ.length + l.length
  | [], σ => Nat.le_refl _
  | k :: l, σ => by
    have h1 := ddp_len l (dd1 σ k)
    have h2 : (dd1 σ k).length ≤ σ.length + 1 := by rw [dd1_len]; split <;> omega
    simp only [List.foldl_cons, List.length_cons]; omega

section
variable {prog : Program} {w : World} {A : Around} {E : Value → Shared → Prop} {s : Shared}
abbrev HasS (prog : Program) (w : World) (h : Heap) (S : Addr) (l : List Str) : Prop := h.SetOf (PySem.strKind prog w) S (fun k => decide (k ∈ l)) l.length
theorem HasS.but {h h' : Heap} {S a : Addr} {l : List Str} (x : HasS prog w h S l) (e : Heap.ExtBut a h h') (n : S ≠ a) : HasS prog w h' S l := let ⟨o, es, ep, t, ho, r⟩ := x; ⟨o, es, ep, t, e S o n ho, r⟩
theorem set_loop {R : Result → Shared → Prop} {I S : Addr} {fp : List Addr} {l : List Str} {St : Nat → Heap → Prop} (W : Wk prog w I fp l.length (StrAt l) St) (hA : A.handled = none) (hSf : S ∉ fp) (hb : l.length + 1 < scanBound)
    (hR : ∀ s', HasS prog w s'.heap S (ddp l) → (∀ b o, b ≠ S → b ≠ I → s.heap.get? b = some o → s'.heap.get? b = some o) → s'.gens = s.gens → s'.drawn = s.drawn → s'.os = s.os → R (.ok (.ret .none)) s')
    : ∀ (k i : Nat) (s₀ : Shared), l.length - i = k → i ≤ l.length → St i s₀.heap → HasS prog w s₀.heap S ((l.take i).foldl dd1 []) →
      (∀ b o, b ≠ S → b ≠ I → s.heap.get? b = some o → s₀.heap.get? b = some o) → s₀.gens = s.gens → s₀.drawn = s.drawn → s₀.os = s.os →
      codeAny (model prog w) A (.builtin "set.update.loop" ⟨[.ref S, .ref I], []⟩) R s₀ := by
  have hSI : S ≠ I := fun q => hSf (q ▸ W.I_in)
  intro k
  induction k with
  | zero =>
    intro i s₀ hk hi st hS hkp e1 e2 e3
    have hin : i = l.length := by omega
    subst hin
    refine codeAny_builtin F.entry_set_update_loop ?_
    rw [Around.under_plainId F.plain_set_update_loop _]
    show wpAny _ A.in1 (pyNext (.ref I) >>= _) _ _ s₀
    refine wpAny_bind ((W.W A.in1 hA).done s₀ _ _ st fun h' tk hm => ?_)
    have hb : Heap.ExtBut I s₀.heap h' := fun b o hb e => hm b o (by simpa using hb) e
    refine wpAny_pure (hR _ ?_ (fun b o h1 h2 e => hb b o h2 (hkp b o h1 h2 e)) e1 e2 e3)
    have := hS.but hb hSI
    rwa [List.take_of_length_le (Nat.le_refl _)] at this
  | succ k ih =>
    intro i s₀ hk hi st hS hkp e1 e2 e3
    have hlt : i < l.length := by omega
    refine codeAny_builtin F.entry_set_update_loop ?_
    rw [Around.under_plainId F.plain_set_update_loop _]
    show wpAny _ A.in1 (pyNext (.ref I) >>= _) _ _ s₀
    refine wpAny_bind ((W.W A.in1 hA).item i s₀ _ _ hlt st fun v h' tk hv st' hm => ?_)
    have hb' : Heap.ExtBut I s₀.heap h' := fun b o hb e => hm b o (by simpa using hb) e
    obtain ⟨key, t, hkey, rfl⟩ := hv
    have hS' := hS.but hb' hSI
    show wpAny _ A.in1 (holding [Value.str key t] (setAdd S (.str key t)) >>= _) _ _ _
    refine wpAny_bind (wpAny_holding ?_)
    unfold setAdd
    refine wpAny_holding ?_
    refine wpAny_bind ((PySem.strKind prog w).pyHash (k := key) (strKind_is _ _ _ _) ?_)
    have hroom : ((l.take i).foldl dd1 []).length + 1 < scanBound := by
      have := ddp_len (l.take i) []
      rw [List.length_take] at this
      simp at this
      omega
    refine wpAny_setAddHashed_of (knd := PySem.strKind prog w) (s := { s₀ with heap := h', toks := tk + 1 }) (strKind_is _ _ _ _) rfl hS' hroom fun h2 hsb hS2 => ?_
    have hSi : HasS prog w h2 S ((l.take (i + 1)).foldl dd1 []) := by
      rw [take_succ hkey, List.foldl_append]
      refine SetOf_congr hS2 (fun k' => ?_) ?_
      · simp only [List.foldl_cons, List.foldl_nil]
        rw [Bool.eq_iff_iff]
        simp only [Bool.or_eq_true, decide_eq_true_eq, dd1_mem]
      · simp only [List.foldl_cons, List.foldl_nil, dd1_len, decide_eq_true_eq]
    refine wpAny_pure ⟨plainId_quiet F.plain_set_update_loop _, ih (i + 1) _ (by omega) hlt (W.but st' hsb.extBut hSf) hSi (fun b o h1 h2 e => hsb.extBut b o h1 (hb' b o h2 (hkp b o h1 h2 e))) e1 e2 e3⟩

theorem call_set1 {x : Value} {l : List Str} {Q : Value → Shared → Prop} (hA : A.handled = none) (hb : l.length + 1 < scanBound)
    (hset : ∀ (M : Model) (h' : Heap), Keep s.heap h' → Looks M h' (Builtin.Frozenset.isAnySet x) false)
    (hty : ∀ (M : Model) (h' : Heap), Keep s.heap h' → ∃ T, Looks M h' (typeOf x) T ∧ (T == .type "dict") = false)
    (hit : ∀ {A : Around} {E : Value → Shared → Prop} {s' : Shared} {Q : Value → Shared → Prop}, Keep s.heap s'.heap → (∀ ob St fp, Wk prog w s'.heap.objs.size fp l.length (StrAt l) St → St 0 (s'.heap.push ob) → (∀ b ∈ fp, b = s'.heap.objs.size ∨ b < s.heap.objs.size) → Q (.ref s'.heap.objs.size) { s' with heap := s'.heap.push ob }) → wpAny (model prog w) A (pyIter x) Q E s')
    (h : ∀ h' tk S, Keep s.heap h' → HasS prog w h' S (ddp l) → s.heap.get? S = none → Q (.ref S) { s with heap := h', toks := tk }) :
    wpAny (model prog w) A (call (.type "set") [x]) Q E s := by
  obtain ⟨c, tl, hmro⟩ := F.called_set.mro
  have hmade := F.called_set.made
  have hsub := F.called_set.sub
  refine wpAny_call (codeAny_of_tree ?_)
  show wpAny _ _ (callAny (.type "set") _) _ _ _
  refine wpAny_pure ⟨Code.quiet_builtin _ (by decide +kernel), codeAny_builtin F.entry_type_call ?_⟩
  rw [Around.under_plain (weight_type_call_type "set" [x] []) rfl]
  have h1 := F.called_set.notType
  have h2 := F.called_set.canCreate
  have hct := F.typeCall_set_1 x
  repeat (any_goals (first | assumption | wp_step))
  refine codeAny_mono (code_set_new_1 x (E := E) (Q₁ := fun obj s₁ => ∃ led : Bool, obj = .ref s.heap.objs.size ∧ s₁ = { s with heap := s.heap.push { cls := .type "set", dict := none, data := .set #[] 0 (.fresh 0 0 led) } }) fun led => ⟨led, rfl, rfl⟩) fun r s₁ hr => ?_
  rcases r with e | (_ | obj | _ | _) <;> first | exact hr | exact hr.elim | skip
  obtain ⟨led, rfl, rfl⟩ := hr
  have hk0 : Keep s.heap (s.heap.push { cls := .type "set", dict := none, data := .set #[] 0 (.fresh 0 0 led) }) := Keep.push _ _
  have hS : (s.heap.push { cls := .type "set", dict := none, data := .set #[] 0 (.fresh 0 0 led) }).get? s.heap.objs.size = some { cls := .type "set", dict := none, data := .set #[] 0 (.fresh 0 0 led) } := Heap.get?_push_size _ rfl
  have hsz : (s.heap.push { cls := .type "set", dict := none, data := .set #[] 0 (.fresh 0 0 led) }).objs.size = s.heap.objs.size + 1 := Heap.size_push ..
  have hT : Shared.TypeIs { s with heap := s.heap.push { cls := .type "set", dict := none, data := .set #[] 0 (.fresh 0 0 led) } } (.ref s.heap.objs.size) "set" := ⟨_, hS, rfl⟩
  have hli := F.called_set.init.lookup
  have hbi := F.called_set.init.bind (.ref s.heap.objs.size)
  repeat (any_goals (first | assumption | wp_step))
  refine codeAny_mono (codeAny_call_builtin (R := wants (fun r s₂ => r = .none ∧ ∃ h' tk, s₂ = { s with heap := h', toks := tk } ∧ HasS prog w h' s.heap.objs.size (ddp l) ∧ Keep s.heap h') E) F.called_set.init.plain F.entry_set_init (check_set_init_1 hT ?_)) fun r₂ s₂ hr₂ => ?_
  · have Ls := hset (model prog w) _ hk0
    obtain ⟨T, Lt, hne⟩ := hty (model prog w) _ hk0
    obtain ⟨hp, g, dr, tk, os⟩ := s
    dsimp only at *
    unfold Builtin.«set.__init__» noKeywords Builtin.Frozenset.updateFrom
    generalize hPI : pyIter = PI
    repeat (first | simp only [hne, Bool.false_eq_true, if_false] | lk)
    subst hPI
    refine hit (s' := ⟨hp.push { cls := .type "set", dict := none, data := .set #[] 0 (.fresh 0 0 led) }, g, dr, tk, os⟩) hk0 fun ob St fp W st hfp => ?_
    dsimp only at W st hfp ⊢
    have hSf : hp.objs.size ∉ fp := fun hm => by
      rcases hfp _ hm with q | q
      · rw [hsz] at q; exact absurd q (Nat.ne_of_lt (Nat.lt_succ_self _))
      · exact absurd q (Nat.lt_irrefl _)
    have hk2 : Keep hp ((hp.push { cls := .type "set", dict := none, data := .set #[] 0 (.fresh 0 0 led) }).push ob) := hk0.trans (Keep.push _ _)
    have fin : ∀ h' tk', HasS prog w h' hp.objs.size (ddp l) → (∀ b o, b ≠ hp.objs.size → b ≠ (hp.push { cls := .type "set", dict := none, data := .set #[] 0 (.fresh 0 0 led) }).objs.size → ((hp.push { cls := .type "set", dict := none, data := .set #[] 0 (.fresh 0 0 led) }).push ob).get? b = some o → h'.get? b = some o) →
        ∃ h'' tk'', (⟨h', g, dr, tk', os⟩ : Shared) = ⟨h'', g, dr, tk'', os⟩ ∧ HasS prog w h'' hp.objs.size (ddp l) ∧ Keep hp h'' := fun h' tk' hS' hkk => ⟨h', tk', rfl, hS', fun b o e => by
      have hb := Heap.lt_size e
      exact hkk b o (Nat.ne_of_lt hb) (by rw [hsz]; exact Nat.ne_of_lt (Nat.lt_succ_of_lt hb)) (hk2 _ _ e)⟩
    refine wpAny_bind (wpAny_runValue ?_)
    refine set_loop (A := A.in1.in1) (s := ⟨(hp.push { cls := .type "set", dict := none, data := .set #[] 0 (.fresh 0 0 led) }).push ob, g, dr, tk, os⟩) W hA hSf hb (fun s' hS' hkk e1 e2 e3 => ?_) (l.length - 0) 0 _ rfl (Nat.zero_le _) st ?_ (fun _ _ _ _ e => e) rfl rfl rfl
    · obtain ⟨h', g', d', tk', os'⟩ := s'
      dsimp only at e1 e2 e3
      subst e1; subst e2; subst e3
      exact wpAny_pure (wpAny_pure ⟨rfl, fin h' tk' hS' hkk⟩)
    · exact SetOf_congr ((setObjOf_fresh (knd := PySem.strKind prog w) led).setOf (Heap.get?_push_of_some ob hS) (by unfold scanBound; omega)) (fun _ => by simp) rfl
  · rcases r₂ with e | (_ | r | _ | _) <;> first | exact hr₂ | exact hr₂.elim | skip
    obtain ⟨rfl, h', tk, rfl, hS', hk'⟩ := hr₂
    repeat (any_goals (first | assumption | wp_step))
    exact h _ _ _ hk' hS' (get_size _)
end
end Mine
end

noncomputable section
open PySem PySem.Calls PySem.W PyProof.Rows
set_option maxRecDepth 100000
set_option maxHeartbeats 4000000
namespace Mine
theorem Wk.imp {prog : Program} {w : World} {I : Addr} {fp : List Addr} {n : Nat} {P P' : Nat → Value → Prop} {St : Nat → Heap → Prop} (W : Wk prog w I fp n P St) (h : ∀ i v, P i v → P' i v) : Wk prog w I fp n P' St :=
  ⟨fun A hA => ⟨(W.W A hA).sub, (W.W A hA).frame, fun i s Q E hi st hQ => (W.W A hA).item i s Q E hi st fun v h' tk p => hQ v h' tk (h i v p), (W.W A hA).done, (W.W A hA).self⟩, W.nt⟩
theorem sub_tuple_set : isSubtype (.type "tuple") (.type "set") = pure false := by rw [isSubtype_type]; kernel_rfl
theorem sub_tuple_frozenset : isSubtype (.type "tuple") (.type "frozenset") = pure false := by rw [isSubtype_type]; kernel_rfl

section
variable {w : World} {A : Around} {s s₀ s₁ : Shared} {R : Result → Shared → Prop} {K : Frag} {mg mb : Str → Option Value} {n : Nat} {t : Bool} {E : Value → Shared → Prop}
/-- len(set(..)) of what holds texts -/
theorem len_set {S : Addr} {l : List Str} {Q : Value → Shared → Prop} (hS : HasS PG w s.heap S l) (hl : l.length ≤ 1000) (h : ∀ u tk, Q (.int l.length u) { s with toks := tk }) :
    wpAny (model PG w) A (call (.builtin "len") [.ref S]) Q E s := by
  obtain ⟨o, es, ep, tb, ho, hex, hd, hel, hm, hb, hf, hn⟩ := hS
  refine call_len_set ho hex hd hf (by rw [hn]; omega) ?_
  rw [hn]; exact h _ _

theorem ident_len (x y : Str) : ((ddp [x, y]).length == 1) = decide (x = y) := by
  unfold ddp dd1
  by_cases h : x = y
  · subst h; simp
  · have : ¬ y = x := fun q => h q.symm
    simp [h, this]

/-- _ident, of two texts -/
theorem c_ident {x y : Str} {u v : Tok} (F : KF K) (B : Base K mg mb s₁) (G : Good s₁ s) (r : Rm A (n + 4))
    (h : ∀ s', Go s₁ t s s' → R (.ok (.ret (.bool (decide (x = y))))) s') :
    codeAny (model PG w) A (.call (.ref 157) ⟨[.str x u, .str y v], []⟩) R s := by
  refine enterS (vs := [.str x u, .str y v]) (binds := fun D => [("elements", .ref D)]) F.f_ident B (Go.start (t := t) G) r (fun _ _ _ _ _ _ => ⟨_, rfl, fun _ => rfl⟩) (fun _ => by rfl) fun s₂ L T E' r₂ G₂ _ kp hL hT hTL hTs gT hn hc => ?_
  show wpAny _ _ (execs [_] _) _ _ _
  have K2 := G₂.good.kin B
  refine wpAny_execs_cons (wpAny_Try_except (wpAny_execs_cons (wpAny_Return_some (wpAny_Compare1 ?_))))
  refine callP (nmB B G₂.good F.g_len boot_len (args_cons (callP (nmB B G₂.good F.g_set boot_set (args_cons (nmL hn (by rfl) (args_nil ⟨keeper_ty, ?_⟩)))))))
  have hT' : T < s₂.heap.objs.size := Heap.lt_size gT
  refine call_set1 (x := .ref T) (l := [x, y]) r₂.h (by unfold scanBound; simp) (fun M h' k => ?_) (fun M h' k => ⟨.type "tuple", (Looks.ld (k _ _ gT)).andThen .now, by decide⟩) (fun {A E s' Q} k hQ => ?_) fun h' tk S k hS hf => ?_
  · have LT : Looks M h' (typeOf (.ref T)) (.type "tuple") := (Looks.ld (k _ _ gT)).andThen .now
    have L1 : Looks M h' (isInstance (.ref T) (.type "set")) false := LT.andThen (Looks.of_pure sub_tuple_set)
    have L2 : Looks M h' (isInstance (.ref T) (.type "frozenset")) false := LT.andThen (Looks.of_pure sub_tuple_frozenset)
    unfold Builtin.Frozenset.isAnySet
    exact L1.andThen L2
  · refine wpAny_pyIter_tuple (tupIs (k _ _ gT)) ?_
    have hTI : T ≠ s'.heap.objs.size := Nat.ne_of_lt (Heap.lt_size (k _ _ gT))
    refine hQ _ _ _ ((wkTup (items := [Value.str x u, Value.str y v].toArray) hTI).imp fun i v' hv => ?_) ⟨⟨_, Heap.get?_push_size _ rfl, rfl, rfl⟩, tupIs (Heap.get?_push_of_some _ (k _ _ gT))⟩ fun b hb => ?_
    · match i, hv with
      | 0, hv => cases hv; exact ⟨x, u, rfl, rfl⟩
      | 1, hv => cases hv; exact ⟨y, v, rfl, rfl⟩
      | i + 2, hv => cases hv
    · simp only [List.mem_cons, List.not_mem_nil, or_false] at hb
      rcases hb with rfl | rfl
      · exact .inl rfl
      · exact .inr hT'
  · refine args_nil ⟨keeper_bi, len_set hS (by have := ddp_len [x, y] []; simp [ddp] at this ⊢; omega) fun u' tk' => ?_⟩
    refine wpAny_Constant_int (eq_int ?_)
    have e : (((ddp [x, y]).length : Int) == 1) = decide (x = y) := by
      rw [← ident_len]
      rw [Bool.eq_iff_iff]; simp only [beq_iff_eq]; omega
    rw [e]
    exact h _ (G₂.keep k)
end
end Mine
end

noncomputable section
open PySem PySem.Calls PySem.W PyProof.Rows Builtin Builtin.ObjectAttr
set_option maxRecDepth 100000
set_option maxHeartbeats 4000000
namespace Mine
/-- an object of a class of the text, and what its own dict holds -/
def IsO (h : Heap) (o C : Addr) (f : Str → Option Value) : Prop :=
  ∃ dx od, h.get? o = some (instObj C dx) ∧ h.get? dx = some od ∧ isTab od = false ∧ ∀ name, lookIn name od = some (f name)
theorem IsO.ext {h h' : Heap} {o C : Addr} {f} (x : IsO h o C f) (e : Ext h h') : IsO h' o C f :=
  let ⟨dx, od, a, b, c, d⟩ := x; ⟨dx, od, e _ _ (isTab_cls (by nofun)) a, e _ _ c b, c, d⟩
theorem IsO.inst {h : Heap} {o C : Addr} {f} (x : IsO h o C f) : ∃ dx od, InstAt h o (instObj C dx) C (some od) ∧ ∀ name, lookIn name od = some (f name) :=
  let ⟨dx, od, a, b, _, d⟩ := x; ⟨dx, od, ⟨a, rfl, rfl, b⟩, d⟩
theorem Go.isO {s₁ s s' : Shared} {t : Bool} (x : Go s₁ t s s') {o C : Addr} {f} (n : IsO s.heap o C f) : IsO s'.heap o C f := n.ext x.Ext
theorem IsO.ne {h : Heap} {o C : Addr} {f} (x : IsO h o C f) {a : Addr} (n : h.get? a = none) : o ≠ a := fun q => by obtain ⟨_, _, e, _⟩ := x; rw [q, n] at e; cases e

section
variable {w : World} {A : Around} {s s₀ s₁ : Shared} {R : Result → Shared → Prop} {K : Frag} {mg mb : Str → Option Value} {n : Nat} {t : Bool} {E : Value → Shared → Prop} {o C fm fc fi : Addr} {f : Str → Option Value}
theorem attrO {name : Str} {v : Value} {expr : Bool} {Q : Value → Shared → Prop} (kc : KC K C fm fc fi) (X : K.In s.heap) (I : IsO s.heap o C f) (hn : findIn K (.ref C) name = some none) (hf : f name = some v) (hv : handedIn v = true)
    (h : Q v { s with toks := s.toks + 1 }) : wpAny (model PG w) A (getAttr (.ref o) name expr) Q E s := by
  obtain ⟨dx, od, i, l⟩ := I.inst
  exact get_value X i kc.ga (findObj_own kc.hd hn rfl (by rw [l, hf])) hv h
theorem methO {name : Str} {m : Addr} {pl : Sem Bool} {Q : Value × List Value → Shared → Prop} (kc : KC K C fm fc fi) (X : K.In s.heap) (I : IsO s.heap o C f) (hm : findIn K (.ref C) name = some (some (.ref m))) (ht : typeIn K (.ref m) = some (.type "function"))
    (hf : f name = none) (h : Q (.ref m, [.ref o]) s) : wpAny (model PG w) A (getMethod (.ref o) name pl) Q E s := by
  obtain ⟨dx, od, i, l⟩ := I.inst
  exact method_fn X i kc.ga kc.gt hm ht (by show (lookIn name od).map (·.isSome) = _; rw [l, hf]; rfl) h
theorem handed157 : handedIn (.ref 157) = true := rfl
theorem identO {pl : Sem Bool} {Q : Value × List Value → Shared → Prop} (F : KF K) (kc : KC K C fm fc fi) (X : K.In s.heap) (I : IsO s.heap o C f) (hf : f "_ident" = none)
    (h : Q (.ref 157, []) { s with toks := s.toks + 1 }) : wpAny (model PG w) A (getMethod (.ref o) "_ident" pl) Q E s := by
  obtain ⟨dx, od, i, l⟩ := I.inst
  have hrec : ∃ rest, recIn K 159 "staticmethod" = some (.ref 157 :: rest) := F.sm_ident.elim (fun e => ⟨_, e⟩) id
  obtain ⟨rest, hrec⟩ := hrec
  refine method_usual X i kc.ga kc.gt kc.m_ident (by simp only [Option.all_some, F.sm_type, Option.any_some]; decide) ?_
  refine get_bind X i kc.ga (findObj_fn kc.hd kc.m_ident F.sm_get F.sm_takes (by decide) (by rw [l, hf])) kc.gt ?_
  exact wpAny_call (sm_get (s := { s with toks := s.toks + 1 }) X hrec (handed_on rfl h))

theorem identA {expr : Bool} {Q : Value → Shared → Prop} (F : KF K) (kc : KC K C fm fc fi) (X : K.In s.heap) (I : IsO s.heap o C f) (hf : f "_ident" = none)
    (h : Q (.ref 157) { s with toks := s.toks + 1 }) : wpAny (model PG w) A (getAttr (.ref o) "_ident" expr) Q E s := by
  obtain ⟨dx, od, i, l⟩ := I.inst
  have hrec : ∃ rest, recIn K 159 "staticmethod" = some (.ref 157 :: rest) := F.sm_ident.elim (fun e => ⟨_, e⟩) id
  obtain ⟨rest, hrec⟩ := hrec
  refine get_bind X i kc.ga (findObj_fn kc.hd kc.m_ident F.sm_get F.sm_takes (by decide) (by rw [l, hf])) kc.gt ?_
  exact wpAny_call (sm_get (s := { s with toks := s.toks + 1 }) X hrec (handed_on rfl h))
/-- a bound method -/
theorem boundO {name : Str} {m cd : Addr} {qual : Str} {fd : FD} {dV : Value} {expr : Bool} {Q : Value → Shared → Prop} (kc : KC K C fm fc fi) (X : K.In s.heap) (I : IsO s.heap o C f) (kf : FnIn K m qual fd dV cd) (hm : findIn K (.ref C) name = some (some (.ref m)))
    (hf : f name = none) (hcn : copiedNames.contains name = false) (h : Q (.ref s.heap.objs.size) { s with heap := s.heap.push (methodObj (.ref m) (.ref o)), toks := s.toks + 1 }) : wpAny (model PG w) A (getAttr (.ref o) name expr) Q E s := by
  obtain ⟨dx, od, i, l⟩ := I.inst
  refine get_bind X i kc.ga (findObj_fn kc.hd hm kf.get kf.takes hcn (by rw [l, hf])) kc.gt ?_
  exact wpAny_call (fn_get (s := { s with toks := s.toks + 1 }) X kf.ty (handed_on rfl h))
theorem keeper_meth {q m cd : Addr} {qual : Str} {fd : FD} {dV : Value} {M : Model} {h : Heap} (X : K.In h) (kf : FnIn K m qual fd dV cd) (g : h.get? q = some (methodObj (.ref m) (.ref o))) : ∃ k, Looks M h (keeperOf (.ref q)) k := by
  obtain ⟨k, _, L⟩ := keeps_M (M := M) (self := .ref o) kf.fn h ⟨g, X⟩
  exact ⟨k, L⟩
/-- getattr(self, 'as_set', False) -/
theorem getattr3 {name : Str} {v d : Value} {u : Tok} {Q : Value → Shared → Prop} (kc : KC K C fm fc fi) (X : K.In s.heap) (I : IsO s.heap o C f) (hn : findIn K (.ref C) name = some none) (hf : f name = some v) (hv : handedIn v = true) (hg : (name != ("get_source" : Str)) = true)
    (h : Q v s) : wpAny (model PG w) A (call (.builtin "getattr") [.ref o, .str name u, d]) Q E s := by
  obtain ⟨dx, od, i, l⟩ := I.inst
  refine Calls.call_function_entry KB.kind_getattr KB.plain_getattr KB.entry_getattr (by unfold argsOk; kernel_rfl) ?_
  have Lm : Looks (model PG w) s.heap (isInstance (.ref o) (.type "module")) false := i.type.andThen (looks_subIn X kc.n_mod)
  have L0 := i.type (M := model PG w)
  have L1 := looks_findIn (M := model PG w) X kc.ga
  have L2 := looks_find (M := model PG w) X i (findObj_own kc.hd hn rfl (by rw [l, hf]))
  obtain ⟨hp, g, dr, tk, os⟩ := s
  have z : ∀ (A : Around) (E : Value → Shared → Prop) (Q' : Value → Shared → Prop), Q' v ⟨hp, g, dr, tk, os⟩ → wpAny (model PG w) A (getAttrBy (.ref o) (.str name u) false) Q' E ⟨hp, g, dr, tk, os⟩ := fun A E Q' q => by
    unfold getAttrBy
    refine wpAny_holding (wpAny_bind (L0.at (wpAny_bind (L1.at ?_))))
    show wpAny _ _ (getAttrEveryday _ _ _) _ _ _
    refine wpAny_bind (wpAny_onRaise (wpAny_runValue (codeAny_builtin F.plainObj_entry_getattr_hooked ?_)))
    refine wpAny_bind (wpAny_pure (wpAny_bind (L0.at (wpAny_bind (L2.at ?_)))))
    refine wpAny_pure ?_
    show wpAny _ _ (handedOut v) _ _ _
    rw [handedOut_of hv]; exact wpAny_pure q
  have z2 : ∀ (A : Around) (E : Value → Shared → Prop) (Q' : Option Value → Shared → Prop), Q' (some v) ⟨hp, g, dr, tk, os⟩ → wpAny (model PG w) A (getAttrBy? (.ref o) (.str name u)) Q' E ⟨hp, g, dr, tk, os⟩ := fun A E Q' q => by
    unfold getAttrBy?
    exact wpAny_bind (wpAny_attempt (z _ _ _ (wpAny_pure q)))
  unfold Builtin.«getattr»
  dsimp only at *
  repeat (first | with_reducible refine z2 _ _ _ ?_ | simp only [hg, if_true] | lk)
  exact ⟨_, rfl, h⟩
end
end Mine
end

noncomputable section
open PySem PySem.Calls PySem.W PyProof.Rows Builtin Builtin.ObjectAttr
set_option maxRecDepth 100000
set_option maxHeartbeats 4000000
namespace Mine
def Bag.total (b : Bag) : Int := (b.map (·.2)).sum
theorem preSum_take (b : Bag) : ∀ i, i ≤ b.length → preSum (fun i => ((b[i]?).map (·.2)).getD 0) i = ((b.take i).map (·.2)).sum
  | 0, _ => by simp [preSum]
  | i + 1, h => by
    have hi : i < b.length := h
    have e : b[i]? = some b[i] := by simp [hi]
    rw [preSum, preSum_take b i (by omega), take_succ e, List.map_append, List.sum_append, e]
    simp
theorem preSum_total (b : Bag) : preSum (fun i => ((b[i]?).map (·.2)).getD 0) b.length = b.total := by
  rw [preSum_take b _ (Nat.le_refl _), List.take_of_length_le (Nat.le_refl _)]; rfl

section
variable {w : World} {A : Around} {s s₀ s₁ : Shared} {R : Result → Shared → Prop} {K : Frag} {mg mb : Str → Option Value} {n : Nat} {t : Bool} {E : Value → Shared → Prop} {o C fm fc fi : Addr} {f : Str → Option Value}
abbrev viewObj (d : Addr) : Obj := { cls := .type "dict_values", data := .fields #[.ref d] }
theorem values_D {d : Addr} {cls : Value} {b : Bag} {Q : Value → Shared → Prop} (X : K.In s.heap) (dk : DK K cls) (D : IsD w s.heap d cls b) (hd : d ≠ sysModules)
    (h : Q (.ref s.heap.objs.size) { s with heap := s.heap.push (viewObj d) }) : wpAny (model PG w) A (call (.builtin "dict.values") [.ref d]) Q E s := by
  have hd' : (d == sysModules) = false := by simpa using hd
  refine callBi BI.dvalues (D.type.andThen (looks_subIn X dk.sub)) (F.args_dict_values_1 _) ?_
  have Lt : Looks (model PG w) s.heap (typeOf (.ref d)) cls := D.type
  have Lo : Looks (model PG w) s.heap (isInstance ([Value.ref d].headD Value.none) (.type "collections.OrderedDict")) false := Lt.andThen (looks_subIn X dk.nod)
  obtain ⟨dd, es, ep, hdo, _⟩ := D
  obtain ⟨hp, g, dr, tk, os⟩ := s
  dsimp only at *
  unfold Builtin.«dict.values»
  rcases dk.seq with rfl | ⟨C, rfl, _⟩
  · repeat (first | simp only [hd', Bool.false_eq_true, if_false] | lk)
    exact ⟨_, rfl, h⟩
  · repeat (first | simp only [hd', Bool.false_eq_true, if_false] | lk)
    exact ⟨_, rfl, h⟩
theorem iterVals {v d : Addr} {cls : Value} {b : Bag} {Q : Value → Shared → Prop} (D : IsD w s.heap d cls b) (hv : s.heap.get? v = some (viewObj d))
    (hQ : ∀ (ob : Obj) (St : Nat → Heap → Prop), Wk PG w s.heap.objs.size [s.heap.objs.size, d] b.length (ValAt b) St → St 0 (s.heap.push ob) → Q (.ref s.heap.objs.size) { s with heap := s.heap.push ob }) :
    wpAny (model PG w) A (pyIter (.ref v)) Q E s := by
  obtain ⟨dd, es, ep, ho, c⟩ := D
  have hne : d ≠ s.heap.objs.size := Nat.ne_of_lt (Heap.lt_size ho)
  have z := hQ { cls := .type "dict_valueiterator", data := .fields #[.ref d, .int 0 0, .int es.size 0, .int ep 0] } _ (wkVals (prog := PG) (cls := cls) (ep := ep) hne c) ⟨⟨_, Heap.get?_push_size _ rfl, rfl, rfl⟩, ⟨dd, Heap.get?_push_of_some _ ho⟩⟩
  have hT : s.TypeIs (.ref v) "dict_values" := ⟨_, hv, rfl⟩
  refine wpAny_pyIter_slot hT F.slot_dict_values_iter (wpAny_call_entry F.slot_dict_values_iter hT F.entry_dict_values_iter ?_ (F.args_dict_values_iter_1 _))
  have hown : Builtin.Dict_items.ownsTuple "dict_valueiterator" = false := by decide
  have zz : ∀ s' : Shared, s' = { s with heap := s.heap.push { cls := .type "dict_valueiterator", data := .fields #[.ref d, .int 0 0, .int es.size 0, .int ep 0] } } → ∃ T' r, s'.TypeIs (.ref s.heap.objs.size) T' ∧ typeLookup (.type T') "__next__" = pure (some r) ∧ Q (.ref s.heap.objs.size) s' := fun s' e => by
    subst e
    exact ⟨"dict_valueiterator", _, ⟨_, Heap.get?_push_size _ rfl, rfl⟩, F.slot_dict_valueiterator_next.lookup, z⟩
  clear z hQ
  obtain ⟨hp, g, dr, tk, os⟩ := s
  dsimp only at *
  unfold Builtin.«dict_values.__iter__»
  repeat lk
  exact ⟨_, rfl, zz _ rfl⟩

end
/-- entering a def, plain arguments: what is kept -/
theorem enterPK {prog : Program} {w : World} {A : Around} {s s₀ : Shared} {s₁ : Shared} {R : Result → Shared → Prop} {K : Frag} {mg mb : Str → Option Value} {f : Addr} {qual : Str} {fd : FD} {dV : Value} {cd : Addr} {args : Args} {binds : List (Str × Value)} {n : Nat} {t : Bool}
    (kf : FnIn K f qual fd dV cd) (B : Base K mg mb s₁) (G : Go s₁ t s₀ s) (r : Rm A (n + 1))
    (hb : ∀ nm doc pm an ct, BindsTo s (fnOf nm qual fd.params fd.body fd.scope dV .none doc pm an (.ref cd) ct) args binds)
    (hkind : (binds.all fun y => fd.scope.names.lookup y.1 == some .local || fd.scope.names.lookup y.1 == some .cell) = true)
    (h : ∀ s₂ L (E' : Value → Shared → Prop), Rm (A.deeper (frameEnv qual fd L f cd)) n → Go s₁ t s₀ s₂ → Go s₁ false s s₂ → Keeps s s₂ → s.heap.get? L = none → s₂.heap.Ns L (bindL (frameEnv qual fd L f cd).kindOf binds fun _ => none) →
      (∀ n c, (cellsFrom (L + 1) fd.scope.names []).lookup n = some c → s.heap.get? c = none ∧ s₂.heap.IsCell c (bindC (frameEnv qual fd L f cd).kindOf binds (fun _ => none) n)) →
      wpAny (model prog w) (A.deeper (frameEnv qual fd L f cd)) (execs fd.body (frameEnv qual fd L f cd))
        (fun fl s' => R (.ok (.ret (match fl with | .ret v => v | _ => .none))) s') E' s₂)
    (hco : fd.scope.isCoroutine = false := by rfl) (hgen : fd.scope.isGenerator = false := by rfl) (hk : fd.scope.kind = .function := by rfl) :
    codeAny (model prog w) A (.call (.ref f) args) R s := by
  have GS : Go s₁ false s s := Go.start G.good
  refine enter kf (G.good.kin B) (G.good.lim B) r.depth (h' := s.heap) (fun nm doc pm an ct M A E Q q => hb nm doc pm an ct M A E Q q) (fun _ _ e => e) hkind (fun h₁ tk E' hn hc hkp hlt => ?_) hco hgen hk
  refine h { s with heap := h₁, toks := tk } _ E' (r.deeper _) (G.keep hkp) (GS.keep hkp) ⟨h₁, tk, rfl, hkp⟩ (get_size _) hn fun n c e => ⟨?_, hc n c e⟩
  have : s.heap.objs.size < c := by
    rcases cellsFrom_ge _ _ _ e with e | e
    · omega
    · cases e
  cases q : s.heap.get? c with
  | none => rfl
  | some o => exact (Nat.lt_asymm this (Heap.lt_size q)).elim
theorem keepsKeep {s s' : Shared} (k : Keeps s s') : Keep s.heap s'.heap := let ⟨_, _, e, h⟩ := k; by subst e; exact h
theorem keepsMore {s s' : Shared} (k : Keeps s s') {h' : Heap} {tk : Nat} (h : Keep s'.heap h') : Keeps s { s' with heap := h', toks := tk } := let ⟨_, _, e, q⟩ := k; by subst e; exact ⟨_, _, rfl, fun b o z => h b o (q b o z)⟩
section
variable {w : World} {A : Around} {s s₀ s₁ : Shared} {R : Result → Shared → Prop} {K : Frag} {mg mb : Str → Option Value} {n : Nat} {t : Bool} {E : Value → Shared → Prop} {o C fm fc fi : Addr} {f : Str → Option Value}
/-- what _count_counters says of a Counter -/
def cnt (sets : Bool) (b : Bag) : Int := if sets then (ddp (b.map (·.1))).length else b.total
theorem keyAt_str {b : Bag} {i : Nat} {v : Value} (h : KeyAt b i v) : StrAt (b.map (·.1)) i v := by
  obtain ⟨k, m, t, h1, rfl⟩ := h
  exact ⟨k, t, by rw [List.getElem?_map, h1]; rfl, rfl⟩
theorem c_count {x : Addr} {b : Bag} {sets : Bool} (F : KF K) (kc : KC K C fm fc fi) (B : Base K mg mb s₁) (G : Good s₁ s) (r : Rm A (n + 4)) (hb : b.length ≤ 100) (I : IsO s.heap o C f) (hf : f "as_set" = some (.bool sets)) (D : IsC w s.heap x b)
    (h : ∀ s' u, Go s₁ t s s' → Keeps s s' → R (.ok (.ret (.int (cnt sets b) u))) s') :
    codeAny (model PG w) A (.call (.ref 198) ⟨[.ref o, .ref x], []⟩) R s := by
  refine enterPK (binds := [("self", .ref o), ("counter", .ref x)]) F.f_cc B (Go.start (t := t) G) r (fun _ _ _ _ _ => BindsTo.of_eq rfl) (by rfl) fun s₂ L E' r₂ G₂ _ kp hL hn hc => ?_
  show wpAny _ _ (execs [_] _) _ _ _
  have K2 := G₂.good.kin B
  have I2 := G₂.isO I
  have D2 := G₂.isC D
  refine wpAny_execs_cons (wpAny_If (wpAny_isTrue_value (callP (nmB B G₂.good F.g_getattr boot_getattr ?_))))
  refine args_cons (nmL hn (by rfl) (args_cons (wpAny_Constant_str (args_cons (wpAny_Constant_bool (args_nil ⟨keeper_bi, ?_⟩))))))
  refine getattr3 kc K2 I2 kc.n_as_set hf rfl (by decide) (wpAny_truthy_bool ?_)
  cases sets with
  | true =>
    simp only [if_true]
    refine wpAny_execs_cons (wpAny_Return_some (callP (nmB B (G₂.good.tok _) F.g_len boot_len (args_cons (callP (nmB B (G₂.good.tok _) F.g_set boot_set (args_cons (nmL hn (by rfl) (args_nil ⟨keeper_ty, ?_⟩)))))))))
    have hx' : x < s₂.heap.objs.size := D2.d.lt
    refine call_set1 (x := .ref x) (l := b.map (·.1)) r₂.h (by rw [List.length_map]; unfold scanBound; omega) (fun M h' k => ?_) (fun M h' k => ⟨.ref 74, (D2.ext (.of_keep k)).type, by decide⟩) (fun {A E s' Q} k hQ => ?_) fun h' tk S k hS hfS => ?_
    · have D3 : IsC w h' x b := D2.ext (.of_keep k)
      have X3 : K.In h' := K2.keeps k
      have L1 : Looks M h' (isInstance (.ref x) (.type "set")) false := D3.type.andThen (looks_subIn X3 F.c_noset)
      have L2 : Looks M h' (isInstance (.ref x) (.type "frozenset")) false := D3.type.andThen (looks_subIn X3 F.c_nofset)
      unfold Builtin.Frozenset.isAnySet
      exact L1.andThen L2
    · have D3 : IsC w s'.heap x b := D2.ext (.of_keep k)
      refine iterD (K2.keeps k) F.kc D3.d D3.ns fun ob St W st => hQ ob St _ (by rw [List.length_map]; exact W.imp fun i v hv => keyAt_str hv) st fun c hc => ?_
      simp only [List.mem_cons, List.not_mem_nil, or_false] at hc
      rcases hc with rfl | rfl
      · exact .inl rfl
      · exact .inr hx'
    · refine args_nil ⟨keeper_bi, len_set hS (by have := ddp_len (b.map (·.1)) []; simp [ddp] at this ⊢; omega) fun u tk' => ?_⟩
      exact h _ u ((G₂.tok _).keep k) (keepsMore kp k)
  | false =>
    simp only [Bool.false_eq_true, if_false]
    refine wpAny_execs_cons (wpAny_Return_some (callP (nmB B (G₂.good.tok _) F.g_sum boot_sum (args_cons (callM (nmL hn (by rfl) ?_))))))
    refine method_D K2 D2.own F.c_ga canon_dict F.c_gt F.c_values (by kernel_rfl) ?_
    refine args_nil ⟨keeper_bi, values_D (s := { s₂ with toks := s₂.toks + 1 }) K2 F.kc D2.d D2.ns ?_⟩
    refine args_nil ⟨keeper_bi, ?_⟩
    have hkv : Keep s₂.heap (s₂.heap.push (viewObj x)) := Keep.push _ _
    have hvo : (s₂.heap.push (viewObj x)).get? s₂.heap.objs.size = some (viewObj x) := Heap.get?_push_size _ rfl
    have hsz : (s₂.heap.push (viewObj x)).objs.size = s₂.heap.objs.size + 1 := Heap.size_push ..
    refine call_sum_walkG (iterVals (s := ⟨s₂.heap.push (viewObj x), s₂.gens, s₂.drawn, s₂.toks + 1, s₂.os⟩) (D2.d.ext (.of_keep hkv)) hvo fun ob St W st => ?_)
    refine ⟨_, _, _, _, _, _, fun i => ((b[i]?).map (·.2)).getD 0, rfl, W.W _ r₂.h, st, fun c hc => ?_, fun i v hv => ?_, fun h' tk t' hk => ?_⟩
    · show c < ((s₂.heap.push (viewObj x)).push ob).objs.size
      rw [Heap.size_push]
      simp only [List.mem_cons, List.not_mem_nil, or_false] at hc
      rcases hc with rfl | rfl
      · exact Nat.lt_succ_self _
      · have q : c < s₂.heap.objs.size := D2.d.lt
        exact Nat.lt_succ_of_lt (hsz ▸ Nat.lt_succ_of_lt q)
    · obtain ⟨k, m, u, h1, rfl⟩ := hv
      exact ⟨u, by simp only [h1]; rfl⟩
    · rw [preSum_total]
      have hkk : Keep s₂.heap h' := fun c ob' e => by
        refine hk c ob' (fun hm => ?_) (Heap.get?_push_of_some _ (hkv _ _ e))
        simp only [List.mem_singleton] at hm
        have := Heap.lt_size e
        rw [hm, hsz] at this
        exact absurd this (Nat.not_lt.mpr (Nat.le_succ _))
      exact h _ t' (G₂.keep hkk (tk := tk)) (keepsMore kp hkk)
end
end Mine
end

noncomputable section
open PySem PySem.Calls PySem.W PyProof.Rows Builtin Builtin.ObjectAttr
set_option maxRecDepth 100000
set_option maxHeartbeats 4000000
namespace Mine
section
variable {M : Model} {A : Around} {E : Value → Shared → Prop} {s : Shared}
/-- o.m(*e) -/
theorem callMS {env : Env} {o e : Expr} {name : Str} {p apos pos pos' : Pos} {Q : Value → Shared → Prop}
    (h : wpAny M A (eval o env) (fun ov s₁ => wpAny M A (getAttr ov name true) (fun fv s₂ => wpAny M A (eval e env) (fun v s₃ => StarOf M A E v (fun vs s₄ => (∃ k, Looks M s₄.heap (keeperOf fv) k) ∧ wpAny M A (call fv vs) Q E s₄) s₃) E s₂) E s₁) E s)
    (he : eval (.Call (.Attribute o name apos) [.Starred e p] [] pos) env = (do
      let ov ← eval o env
      standAt apos.atName
      let (f, first) ← holding [ov] (do pure (← getAttr ov name true, []))
      let callPos ← pure pos'
      callWith callPos f first (backTo pos (starEach [.Starred e p] env)) (backToKw pos (keywordEach [] env))) := by rfl)
    (hs : starEach [.Starred e p] env = [(true, eval e env)] := by rfl) :
    wpAny M A (eval (.Call (.Attribute o name apos) [.Starred e p] [] pos) env) Q E s := by
  rw [he]
  refine wpAny_bind (wpAny_mono h (fun ov s₁ h₁ => wpAny_bind (wpAny_standAt (wpAny_bind (wpAny_holding (wpAny_bind (wpAny_mono h₁ (fun fx s₂ h₂ => ?_) fun _ _ x => x)))))) fun _ _ x => x)
  refine wpAny_pure (wpAny_bind (wpAny_pure ?_))
  rw [hs]
  exact callWith_tr (ks_lone h₂)
/-- f(*e) -/
theorem callFS {env : Env} {f e : Expr} {p pos : Pos} {Q : Value → Shared → Prop}
    (h : wpAny M A (eval f env) (fun fv s₁ => wpAny M A (eval e env) (fun v s₃ => StarOf M A E v (fun vs s₄ => (∃ k, Looks M s₄.heap (keeperOf fv) k) ∧ wpAny M A (call fv vs) Q E s₄) s₃) E s₁) E s)
    (he : eval (.Call f [.Starred e p] [] pos) env = (do callWith pos (← eval f env) [] (backTo pos (starEach [.Starred e p] env)) (backToKw pos (keywordEach [] env))) := by rfl)
    (hs : starEach [.Starred e p] env = [(true, eval e env)] := by rfl) :
    wpAny M A (eval (.Call f [.Starred e p] [] pos) env) Q E s := by
  rw [he]
  refine wpAny_bind (wpAny_mono h (fun fv s₁ h₁ => ?_) fun _ _ x => x)
  rw [hs]
  exact callWith_tr (ks_lone h₁)
end
section
variable {w : World} {A : Around} {E : Value → Shared → Prop} {s : Shared}
theorem starList {T : Addr} {ws : List Value} {Q : List Value → Shared → Prop} (D : s.heap.IsList T ws.toArray) (hz : ws.length ≤ sizeLine)
    (h : ∀ h', Keep s.heap h' → Q ws { s with heap := h' }) : StarOf (model PG w) A E (.ref T) Q s := by
  obtain ⟨⟨oc, od, odat, osl⟩, ho, hc, n, hd⟩ := id D
  cases hc; cases hd
  have hT' : s.TypeIs (.ref T) "list" := ⟨_, ho, rfl⟩
  have z : wpAny (model PG w) A (collect (.ref T)) Q E s :=
    wpAny_collect_seq T (.inl rfl) ho rfl rfl (fun h' hk => by have := h h' hk; simpa using this) (by rw [List.size_toArray]; exact hz)
  unfold StarOf notIterableAtAll
  exact wpAny_bind (wpAny_specialOf hT' slot_list_iter.lookup (wpAny_pure ⟨rfl, z⟩))

theorem all_loopT {I : Addr} {fp : List Addr} {n : Nat} {P : Nat → Value → Prop} {St : Nat → Heap → Prop} {R : Result → Shared → Prop} (W : Wk PG w I fp n P St) (hA : A.handled = none) (tr : Nat → Bool)
    (htr : ∀ i v (s : Shared) (Q : Bool → Shared → Prop) (E : Value → Shared → Prop), P i v → (∀ tk, Q (tr i) { s with toks := tk }) → wpAny (model PG w) A.in1 (truthy v) Q E s) : ∀ (k i : Nat) (s : Shared), n - i = k → i ≤ n → St i s.heap →
    (∀ h' tk, Heap.ExtBut I s.heap h' → R (.ok (.ret (.bool (((List.range n).drop i).all tr)))) { s with heap := h', toks := tk }) →
    codeAny (model PG w) A (.builtin "all.loop" ⟨[.ref I], []⟩) R s := by
  intro k
  induction k with
  | zero =>
    intro i s hk hi hst hR
    have hin : i = n := by omega
    subst hin
    refine codeAny_builtin F.entry_all_loop ?_
    rw [Around.under_plainId F.plain_all_loop _]
    show wpAny _ A.in1 (pyNext (.ref I) >>= _) _ _ s
    refine wpAny_bind ((W.W A.in1 hA).done s _ _ hst fun h' tk hk' => ?_)
    refine wpAny_bind (wpAny_rule (wpAny_pure ?_))
    have := hR h' tk fun b o hb e => hk' b o (by simpa using hb) e
    rw [List.drop_of_length_le (by simp)] at this
    exact this
  | succ k ih =>
    intro i s hk hi hst hR
    have hlt : i < n := by omega
    have hd : (List.range n).drop i = i :: (List.range n).drop (i + 1) := by
      rw [List.drop_eq_getElem_cons (by simpa using hlt)]; simp
    refine codeAny_builtin F.entry_all_loop ?_
    rw [Around.under_plainId F.plain_all_loop _]
    show wpAny _ A.in1 (pyNext (.ref I) >>= _) _ _ s
    refine wpAny_bind ((W.W A.in1 hA).item i s _ _ hlt hst fun v h' tk hP hst' hk' => ?_)
    have hb : Heap.ExtBut I s.heap h' := fun b o hb e => hk' b o (by simpa using hb) e
    refine wpAny_bind (wpAny_holding (htr i v _ _ _ hP fun tk2 => ?_))
    refine wpAny_bind (wpAny_letGo ?_)
    cases htb : tr i with
    | true =>
      simp only [if_true]
      refine wpAny_pure ⟨plainId_quiet F.plain_all_loop _, ih (i + 1) _ (by omega) hlt hst' fun h'' tk'' hk'' => ?_⟩
      have := hR h'' tk'' (hb.trans hk'')
      rw [hd, List.all_cons, htb, Bool.true_and] at this
      exact this
    | false =>
      simp only [Bool.false_eq_true, if_false]
      refine wpAny_bind (wpAny_rule (wpAny_pure ?_))
      have := hR h' tk2 hb
      rw [hd, List.all_cons, htb, Bool.false_and] at this
      exact this
/-- all(..) of a tuple of two texts -/
theorem all_two {T : Addr} {x y : Str} {u v : Tok} {Q : Value → Shared → Prop} (hA : A.handled = none) (g : s.heap.get? T = some (tupObj [.str x u, .str y v])) (hx : x.cps.size ≤ 1000) (hy : y.cps.size ≤ 1000)
    (h : ∀ h' tk, Keep s.heap h' → Q (.bool ((x.cps.size != 0) && (y.cps.size != 0))) { s with heap := h', toks := tk }) :
    wpAny (model PG w) A (call (.builtin "all") [.ref T]) Q E s := by
  have hTI : T ≠ s.heap.objs.size := Nat.ne_of_lt (Heap.lt_size g)
  refine call_function_tree F.kind_all F.plain_all F.entry_all (F.args_all1 _) ?_
  unfold Builtin.«all»
  refine wpAny_bind (m := oneArg "all" _) (wpAny_pure ?_)
  refine wpAny_bind (wpAny_pyIter_tuple (tupIs g) ?_)
  refine wpAny_pure ⟨plainId_quiet F.plain_all_loop _, all_loopT (wkTup (items := [Value.str x u, Value.str y v].toArray) hTI) hA (fun i => if i = 0 then x.cps.size != 0 else y.cps.size != 0) (fun i z s Q E hz q => ?_) 2 0 _ rfl (Nat.zero_le _)
    ⟨⟨_, Heap.get?_push_size _ rfl, rfl, rfl⟩, tupIs (Heap.get?_push_of_some _ g)⟩ fun h' tk hb => ?_⟩
  · match i, hz with
    | 0, hz =>
      cases hz
      refine P.truthy_str (by show ¬ ((x.cps.size : Int) ≥ 2 ^ 63); omega) ?_
      have : ((x.length : Int) != 0) = (x.cps.size != 0) := by rw [Bool.eq_iff_iff]; simp only [bne_iff_ne, ne_eq]; show ¬ ((x.cps.size : Int) = 0) ↔ _; omega
      rw [this]; exact q _
    | 1, hz =>
      cases hz
      refine P.truthy_str (by show ¬ ((y.cps.size : Int) ≥ 2 ^ 63); omega) ?_
      have : ((y.length : Int) != 0) = (y.cps.size != 0) := by rw [Bool.eq_iff_iff]; simp only [bne_iff_ne, ne_eq]; show ¬ ((y.cps.size : Int) = 0) ↔ _; omega
      rw [this]; exact q _
    | i + 2, hz => cases hz
  · have e : ((List.range 2).drop 0).all (fun i => if i = 0 then x.cps.size != 0 else y.cps.size != 0) = ((x.cps.size != 0) && (y.cps.size != 0)) := by
      simp [List.range, List.range.loop]
    have z := h h' tk fun b o eo => hb b o (Nat.ne_of_lt (Heap.lt_size eo)) (Heap.get?_push_of_some _ eo)
    rw [← e] at z
    exact z
end
end Mine
end

noncomputable section
open PySem PySem.Calls PySem.W PyProof.Rows Builtin Builtin.ObjectAttr
set_option maxRecDepth 100000
set_option maxHeartbeats 4000000
namespace Mine
/-- its maximum gives one -/
def MaxC (K : Frag) (fm : Addr) : Prop := ∀ {w : World} {A : Around} {s s₁ : Shared} {R : Result → Shared → Prop} {mg mb : Str → Option Value} {n : Nat} {t : Bool} {o a b : Value}, Base K mg mb s₁ → Good s₁ s → Rm A (n + 1) →
  (∀ s' u, Go s₁ t s s' → Keep s.heap s'.heap → R (.ok (.ret (.int 1 u))) s') → codeAny (model PG w) A (.call (.ref fm) ⟨[o, a, b], []⟩) R s
theorem maxJ {K : Frag} (F : KF K) : MaxC K 260 := fun {w A s s₁ R mg mb n t o a b} B G r h => by
  refine enterS (vs := [a, b]) (binds := fun D => [("self", o), ("sequences", .ref D)]) F.j_max B (Go.start (t := t) G) r (fun _ _ _ _ _ _ => ⟨_, rfl, fun _ => rfl⟩) (fun _ => by rfl) fun s₂ L T E' r₂ G₂ _ kp hL hT hTL hTs gT hn hc => ?_
  show wpAny _ _ (execs [_] _) _ _ _
  exact wpAny_execs_cons (wpAny_Return_some (wpAny_Constant_int (h _ _ (G₂.tok _) kp)))
theorem maxS {K : Frag} (F : KF K) : MaxC K 294 := fun {w A s s₁ R mg mb n t o a b} B G r h => by
  refine enterS (vs := [a, b]) (binds := fun D => [("self", o), ("sequences", .ref D)]) F.s_max B (Go.start (t := t) G) r (fun _ _ _ _ _ _ => ⟨_, rfl, fun _ => rfl⟩) (fun _ => by rfl) fun s₂ L T E' r₂ G₂ _ kp hL hT hTL hTs gT hn hc => ?_
  show wpAny _ _ (execs [_] _) _ _ _
  exact wpAny_execs_cons (wpAny_Return_some (wpAny_Constant_int (h _ _ (G₂.tok _) kp)))
theorem maxT {K : Frag} (F : KF K) : MaxC K 328 := fun {w A s s₁ R mg mb n t o a b} B G r h => by
  refine enterS (vs := [a, b]) (binds := fun D => [("self", o), ("sequences", .ref D)]) F.t_max B (Go.start (t := t) G) r (fun _ _ _ _ _ _ => ⟨_, rfl, fun _ => rfl⟩) (fun _ => by rfl) fun s₂ L T E' r₂ G₂ _ kp hL hT hTL hTs gT hn hc => ?_
  show wpAny _ _ (execs [_] _) _ _ _
  exact wpAny_execs_cons (wpAny_Return_some (wpAny_Constant_int (h _ _ (G₂.tok _) kp)))
theorem maxO {K : Frag} (F : KF K) : MaxC K 360 := fun {w A s s₁ R mg mb n t o a b} B G r h => by
  refine enterS (vs := [a, b]) (binds := fun D => [("self", o), ("sequences", .ref D)]) F.o_max B (Go.start (t := t) G) r (fun _ _ _ _ _ _ => ⟨_, rfl, fun _ => rfl⟩) (fun _ => by rfl) fun s₂ L T E' r₂ G₂ _ kp hL hT hTL hTs gT hn hc => ?_
  show wpAny _ _ (execs [_] _) _ _ _
  exact wpAny_execs_cons (wpAny_Return_some (wpAny_Constant_int (h _ _ (G₂.tok _) kp)))

/-- the methods' names are none of its attributes -/
def NoShadow (f : Str → Option Value) : Prop := f "quick_answer" = none ∧ f "_ident" = none ∧ f "_get_sequences" = none ∧ f "_get_counters" = none ∧ f "_intersect_counters" = none ∧ f "_union_counters" = none ∧
  f "_count_counters" = none ∧ f "distance" = none ∧ f "similarity" = none ∧ f "maximum" = none

section
variable {w : World} {A : Around} {s s₀ s₁ : Shared} {R : Result → Shared → Prop} {K : Frag} {mg mb : Str → Option Value} {n : Nat} {t : Bool} {E : Value → Shared → Prop} {o C fm fc fi cdm : Addr} {f : Str → Option Value} {qm : Str} {fdm : FD} {dvm : Value}
theorem starT {T : Addr} {ws : List Value} {Q : List Value → Shared → Prop} (g : s.heap.get? T = some (tupObj ws)) (hz : ws.length ≤ sizeLine) (h : ∀ h', Keep s.heap h' → Q ws { s with heap := h' }) : StarOf (model PG w) A E (.ref T) Q s :=
  starTup g hz h
theorem two_line {a b : Value} : [a, b].length ≤ sizeLine := by rw [sizeLine_eq]; simp

/-- quick_answer of two texts -/
inductive Quick (x y : Str) : Value → Prop
  | same (u : Tok) : x = y → Quick x y (.int 1 u)
  | empty (u : Tok) : x ≠ y → (x.cps.size = 0 ∨ y.cps.size = 0) → Quick x y (.int 0 u)
  | go : x ≠ y → x.cps.size ≠ 0 → y.cps.size ≠ 0 → Quick x y .none
theorem c_quick {x y : Str} {u v : Tok} (F : KF K) (kc : KC K C fm fc fi) (hm : MaxC K fm) (B : Base K mg mb s₁) (G : Good s₁ s) (r : Rm A (n + 6)) (I : IsO s.heap o C f) (hf : NoShadow f) (hx : x.cps.size ≤ 1000) (hy : y.cps.size ≤ 1000) (kf : FnIn K fm qm fdm dvm cdm)
    (h : ∀ s' z, Go s₁ t s s' → Quick x y z → R (.ok (.ret z)) s') :
    codeAny (model PG w) A (.call (.ref 233) ⟨[.ref o, .str x u, .str y v], []⟩) R s := by
  refine enterS (vs := [.str x u, .str y v]) (binds := fun D => [("self", .ref o), ("sequences", .ref D)]) F.f_quick B (Go.start (t := t) G) r (fun _ _ _ _ _ _ => ⟨_, rfl, fun _ => rfl⟩) (fun _ => by rfl) fun s₂ L T E' r₂ G₂ _ kp hL hT hTL hTs gT hn hc => ?_
  show wpAny _ _ (execs [_, _, _, _, _] _) _ _ _
  have K2 := G₂.good.kin B
  have I2 := G₂.isO I
  obtain ⟨h1, h2, h3, h4, h5, h6, h7, h8, h9, h10⟩ := hf
  -- if not sequences
  refine wpAny_execs_cons (wpAny_If (wpAny_isTrue_Not (wpAny_isTrue_value (nmL hn (by rfl) (truthy_tuple ⟨_, gT, rfl, 0, rfl⟩ (by simp) ?_)))))
  simp only [List.isEmpty_toArray, List.isEmpty_cons, Bool.not_false, Bool.not_true, Bool.false_eq_true, if_false]
  refine wpAny_execs_nil ?_
  -- if len(sequences) == 1
  refine wpAny_execs_cons (wpAny_If (wpAny_isTrue_Compare1 (callP (nmB B (G₂.good.tok _) F.g_len boot_len (args_cons (nmL hn (by rfl) (args_nil ⟨keeper_bi, ?_⟩)))))))
  refine len_tuple (items := [Value.str x u, Value.str y v].toArray) ⟨_, gT, rfl, 0, rfl⟩ (by simp) (wpAny_Constant_int (eq_int (wpAny_truthy_bool ?_)))
  rw [if_neg (by simp)]
  refine wpAny_execs_nil ?_
  -- if self._ident(*sequences)
  refine wpAny_execs_cons (wpAny_If (wpAny_isTrue_value (callMS (nmL hn (by rfl) ?_))))
  refine identA F kc (G₂.good.kin B) I2 h2 ?_
  refine nmL hn (by rfl) (starT gT two_line fun h6' k6 => ⟨keeper_K F.f_ident.keep (K2.keeps k6), ?_⟩)
  have G6 := (G₂.keep k6 (tk := s₂.toks + 1 + 1 + 1 + 1 + 1 + 1))
  refine wpAny_call (c_ident (t := t) F B (G₂.good.keep k6) r₂.le fun s7 g7 => wpAny_truthy_bool ?_)
  have G7 := (G₂.keep k6).trans g7
  have n7 := g7.ns (hn.keeps k6)
  have T7 := g7.obj (isTab_cls (by nofun)) (k6 _ _ gT)
  have I7 := G7.isO I
  have K7 := G7.good.kin B
  by_cases hxy : x = y
  · simp only [hxy, decide_true, if_true]
    refine wpAny_execs_cons (wpAny_Return_some (callMS (nmL n7 (by rfl) (boundO kc K7 I7 kf kc.m_max h10 (by decide) ?_))))
    have kq : Keep s7.heap (s7.heap.push (methodObj (.ref fm) (.ref o))) := Keep.push _ _
    refine nmL (n7.keeps kq) (by rfl) (starT (kq _ _ T7) two_line fun h8' k8 => ?_)
    have gq := k8 _ _ (Heap.get?_push_size (o := methodObj (.ref fm) (.ref o)) s7.heap rfl)
    refine ⟨keeper_meth (K7.keeps (kq.trans k8)) kf gq, wpAny_call (method_call gq ?_)⟩
    exact hm (t := t) B (G7.good.keep (kq.trans k8)) r₂.le fun s9 u9 g9 _ => h _ _ ((G7.keep (kq.trans k8)).trans g9) (.same u9 hxy)
  · simp only [hxy, decide_false, Bool.false_eq_true, if_false]
    refine wpAny_execs_nil ?_
    refine wpAny_execs_cons (wpAny_If (wpAny_isTrue_Not (wpAny_isTrue_value (callP (nmB B G7.good F.g_all boot_all (args_cons (nmL n7 (by rfl) (args_nil ⟨keeper_bi, ?_⟩))))))))
    refine all_two r₂.h T7 hx hy fun h8' tk8 k8 => wpAny_truthy_bool ?_
    have G8 := G7.keep k8 (tk := tk8)
    by_cases e : x.cps.size = 0 ∨ y.cps.size = 0
    · have : ((x.cps.size != 0) && (y.cps.size != 0)) = false := by
        rcases e with e | e <;> simp [e]
      simp only [this, Bool.not_false, if_true]
      exact wpAny_execs_cons (wpAny_Return_some (wpAny_Constant_int (h _ _ (G8.tok _) (.empty _ hxy e))))
    · have e1 : x.cps.size ≠ 0 := fun q => e (.inl q)
      have e2 : y.cps.size ≠ 0 := fun q => e (.inr q)
      have : ((x.cps.size != 0) && (y.cps.size != 0)) = true := by simp [e1, e2]
      simp only [this, Bool.not_true, Bool.false_eq_true, if_false]
      refine wpAny_execs_nil ?_
      exact wpAny_execs_cons (wpAny_Return_some (wpAny_Constant_none (h _ _ G8 (.go hxy e1 e2))))
end
end Mine
end

noncomputable section
open PySem PySem.Calls PySem.W PyProof.Rows Builtin Builtin.ObjectAttr
set_option maxRecDepth 100000
set_option maxHeartbeats 4000000
namespace Mine
section
variable {w : World} {A : Around} {s s' s₀ s₁ : Shared} {R : Result → Shared → Prop} {K : Frag} {mg mb : Str → Option Value} {n : Nat} {t : Bool} {E : Value → Shared → Prop}
theorem old_many {h₀ h h' : Heap} {wr : List Addr} (K : OldK h₀ h) (ha : ∀ a ∈ wr, h₀.get? a = none) (hs : ∀ b o, b ∉ wr → h.get? b = some o → h'.get? b = some o) : OldK h₀ h' := by
  have ne : ∀ b o, h₀.get? b = some o → b ∉ wr := fun b o e q => by rw [ha b q] at e; cases e
  have same : ∀ b o, h₀.get? b = some o → h'.get? b = h.get? b := fun b o e => by
    obtain ⟨o', q⟩ := K.there b o e
    rw [q]; exact hs b o' (ne b o e) q
  constructor
  · intro b o e
    have q := same b o e
    have z := K.old b o e
    unfold asItWas at z ⊢
    rw [q]
    refine z.imp id (Or.imp id ?_)
    rintro ⟨rfl, r⟩
    refine ⟨rfl, r.1, r.2.1, fun key => ?_⟩
    rw [OldK.staticOf_congr q]; exact r.2.2 key
  · intro b o e
    rw [same b o e]; exact K.there b o e
theorem TabOk.many {h h' : Heap} {c P : Addr} {pos : Pos} {wr : List Addr} (x : TabOk h c P pos) (hs : ∀ b o, b ∉ wr → h.get? b = some o → h'.get? b = some o) (hc : c ∉ wr) (hP : P ∉ wr) : TabOk h' c P pos := by
  obtain ⟨ps, y, z, r⟩ := x
  refine ⟨ps, ?_, ?_, r⟩
  · obtain ⟨o, vs, file, tf, flags, tg, inF, text, tt, op, a1, a2, a3, a4, a5, a6, a7, a8, a9, b1, b2⟩ := y
    exact ⟨o, vs, file, tf, flags, tg, inF, text, tt, op, hs _ _ hc a1, a2, a3, a4, a5, a6, a7, hs _ _ hP a8, a9, b1, b2⟩
  · obtain ⟨⟨o, vs, a, q⟩, b⟩ := z
    exact ⟨⟨o, vs, hs _ _ hc a, q⟩, hs _ _ hP b⟩
theorem Go.moved {s₅ : Shared} {wr : List Addr} {g : Nat} (x : Go s₁ t s₀ s₅) (B : Base K mg mb s₁) (G : Good s₁ s₀) (m : Moved wr (GenOnlyQ g) s₅ s') (hw : ∀ a ∈ wr, s₀.heap.get? a = none) : Go s₁ t s₀ s' := by
  have hw1 : ∀ a ∈ wr, s₁.heap.get? a = none := fun a ha => G.fresh (hw a ha)
  refine ⟨⟨?_, old_many x.good.old hw1 m.heap, m.os.trans x.good.os, fun q => (x.good.gens q).movedS m, ?_⟩, ?_, ?_⟩
  · intro b o z e
    exact m.heap b o (fun q => by rw [hw1 b q] at e; cases e) (x.good.ext b o z e)
  · intro tt ht
    have := (B.tat tt ht).ne
    exact (x.good.tabs tt ht).many m.heap (fun q => this.1 (hw1 _ q)) (fun q => this.2 (hw1 _ q))
  · intro b o z e
    exact m.heap b o (fun q => by rw [hw b q] at e; cases e) (x.ext b o z e)
  · intro b e
    by_cases q : b ∈ wr
    · exact hw b q
    · refine x.fresh b ?_
      cases q' : s₅.heap.get? b with
      | none => rfl
      | some o => rw [m.heap b o q q'] at e; cases e

/-- a generator expression's code object: made, or found -/
theorem code_step {env : Env} {c P : Addr} {pos : Pos} {qual : Str} {scope : Scope} {Q : Value → Shared → Prop} (B : Base K mg mb s₁) (G : Good s₁ s) (ht : (c, P, pos) ∈ TT) (hc : env.code = .ref c)
    (h : ∀ c' s₃, Go s₁ true s s₃ → (∃ h' tk, s₃ = { s with heap := h', toks := tk } ∧ Heap.ExtBut P s.heap h' ∧ s.heap.objs.size ≤ h'.objs.size) → Q (.ref c') s₃) :
    wpAny (model PG w) A (genexprCode env pos qual scope) Q E s := by
  obtain ⟨ps, hcode, htab, hps⟩ := G.tabs _ ht
  rcases hps with rfl | ⟨c', rfl⟩
  · refine wpAny_genexprCodeX hc hcode htab (by rfl) fun c' h' tk hx hge hlt hcode' _ htab' _ => ?_
    have hPt : isTab { cls := .none, data := .fields (#[] : Array Value) } = true := rfl
    have hPne : P ≠ cStatics := by
      intro q
      simp only [TT, List.mem_cons, List.not_mem_nil, or_false, Prod.mk.injEq] at ht
      rcases ht with ⟨_, e, _⟩ | ⟨_, e, _⟩ <;> rw [e] at q <;> exact absurd q (by decide)
    obtain ⟨ps₀, _, htab₀, _⟩ := B.tat _ ht
    refine h c' _ ⟨⟨?_, OldK.step_table G.old htab₀ htab htab' hx hPne, G.os, G.gens, ?_⟩, ?_, ?_⟩ ⟨h', tk, rfl, hx, Nat.le_trans hge (Nat.le_of_lt hlt)⟩
    · intro b o z e
      have e2 := G.ext b o z e
      exact hx b o (fun q => by rw [q, htab.2] at e2; cases e2; rw [hPt] at z; cases z) e2
    · intro t' ht'
      by_cases e : t' = (c, P, pos)
      · subst e
        exact ⟨_, hcode', htab', .inr ⟨c', rfl⟩⟩
      · refine (G.tabs t' ht').extBut hx ?_ ?_
        · intro q
          obtain ⟨ps', y', ⟨⟨o, vs, a, b, _⟩, _⟩, _⟩ := G.tabs t' ht'
          rw [q, htab.2] at a; cases a; cases b
        · intro q
          simp only [TT, List.mem_cons, List.not_mem_nil, or_false] at ht ht'
          rcases ht with e1 | e1 <;> rcases ht' with e2 | e2
          · exact e (e2.trans e1.symm)
          · rw [e2] at q; injection e1 with _ e1; injection e1 with e1 _; rw [e1] at q; exact absurd q (show ¬ ((296 : Nat) = 167) by decide)
          · rw [e2] at q; injection e1 with _ e1; injection e1 with e1 _; rw [e1] at q; exact absurd q (show ¬ ((167 : Nat) = 296) by decide)
          · exact e (e2.trans e1.symm)
    · intro b o z e
      simp only [Bool.true_and] at z
      exact hx b o (fun q => by rw [q, htab.2] at e; cases e; rw [hPt] at z; cases z) e
    · intro b e
      cases q : s.heap.get? b with
      | none => rfl
      | some o =>
        by_cases hb : b = P
        · subst hb
          have : h'.get? b = none := e
          rw [htab'.2] at this; cases this
        · have : h'.get? b = none := e
          rw [hx b o hb q] at this; cases this
  · refine wpAny_genexprCode_hit hc hcode (c' := .ref c') ?_ (h c' s (Go.start G) ⟨s.heap, s.toks, rfl, fun _ _ _ e => e, Nat.le_refl _⟩)
    simp only [codeAmong, rawInt, beq_self_eq_true, Bool.and_self, if_true]
theorem bi_step {Q : Addr → Shared → Prop} {running : Addr} (F : KF K) (B : Base K mg mb s₁) (G : Good s₁ s) (h : Q builtinsNs s) : wpAny (model PG w) A (builtinsFor mainGlobals running) Q E s := by
  obtain ⟨sl, e⟩ := F.o4
  exact wpAny_builtinsFor (G.g B) (mg_of B.kin B.g F.g_builtins) (by decide) (G.kin B _ _ e) rfl rfl rfl h
end
end Mine
end

noncomputable section
open PySem PySem.Calls PySem.W PyProof.Rows Builtin Builtin.ObjectAttr
set_option maxRecDepth 100000
set_option maxHeartbeats 4000000
namespace Mine
theorem passing_all (n : Nat) : passing (fun _ => true) n 0 = List.range n := by unfold passing; simp
theorem walksS_all {prog : Program} {w : World} {A : Around} {a : Addr} {fp wr : List Addr} {G : Array GenState → Array GenState → Prop} {n : Nat} {F : Nat → Value → Prop} {St : Nat → Shared → Prop}
    (W : WalksS prog w A a fp wr G (passing (fun _ => true) n 0).length (fun j y => ∃ i, (passing (fun _ => true) n 0)[j]? = some i ∧ F i y) St) : WalksS prog w A a fp wr G n F St := by
  rw [passing_all, List.length_range] at W
  exact ⟨W.sub, W.grefl, W.gtrans, W.frame, fun i s Q E hi hst hQ => W.item i s Q E hi hst fun v s' ⟨j, hj, hF⟩ => hQ v s' (by
    rw [List.getElem?_range hi] at hj; cases hj; exact hF), W.done, W.self⟩
section
variable {w : World} {A : Around} {s s' s₀ s₁ : Shared} {R : Result → Shared → Prop} {K : Frag} {mg mb : Str → Option Value} {E : Value → Shared → Prop}
theorem gen_eval {elt iter : Expr} {x : Str} {px pos : Pos} {scope : Scope} {cl : List (Str × Addr)} {env : Env} {c P : Addr} {Q : Value → Shared → Prop} (Fv : Nat → Value → Prop) (F : KF K) (B : Base K mg mb s₁) (G₀ : Good s₁ s₀) (ht : (c, P, pos) ∈ TT) (hc : env.code = .ref c) (hg : env.globals = mainGlobals)
    (hA : A.handled = none) (hroom : A.depth < recursionLimit) (hco : scope.isCoroutine = false) (hclos : closureFor scope env = pure cl) (hcell : ∀ y ∈ scope.names, y.2 ≠ .cell) (h0 : scope.names.lookup (".0" : Str) = some NameKind.local)
    (hx : scope.names.lookup x = some .local) (hkind : scope.kind = .function)
    (h : wpAny (model PG w) A (eval iter env) (fun xv s₁' => wpAny (model PG w) A (pyIter xv) (fun it s₂ => ∃ I fp n₀ Pi St, it = .ref I ∧ Go s₁ true s₀ s₂ ∧ s₀.heap.get? I = none ∧ Wk PG w I fp n₀ Pi St ∧ St 0 s₂.heap ∧ (∀ b ∈ fp, b < s₂.heap.objs.size ∧ b ≠ P) ∧
      (∀ (s₄ s' : Shared) (C : Addr) (code : Value) (m : Str → Option Value) i v A' E', Go s₁ true s₂ s₄ → (∀ b o, b ≠ I → s₄.heap.get? b = some o → s'.heap.get? b = some o) → A'.handled = none → A'.depth ≤ A.depth + 1 → A'.units ≤ A.units + 8 → Pi i v → s'.heap.Ns C m → m x = some v →
        wpAny (model PG w) A' (eval elt (genEnv scope cl C code builtinsNs env)) (fun y s'' => Fv i y ∧ Keeps s' s'') E' s') ∧
      (∀ a s₅ g fp' wr' St', Go s₁ true s₀ s₅ → WalksS PG w A.in4 a fp' wr' (GenOnlyQ g) n₀ Fv St' → St' 0 s₅ → (∀ b ∈ fp', b < s₅.heap.objs.size) → (∀ b ∈ wr', s₀.heap.get? b = none) → Q (.ref a) s₅)) E s₁') E s)
    (hs : ∀ x, genFold iter env x = pure x := by intro _; rfl) :
    wpAny (model PG w) A (eval (.GeneratorExp elt [⟨.Name x px, iter, [], 0⟩] scope pos) env) Q E s := by
  refine wpAny_GeneratorExp_walksQD hA hco hclos hcell h0 hx hkind hroom (wpAny_mono h (fun xv s₁' h₁ => wpAny_mono h₁ (fun it s₂ h₂ => ?_) fun _ _ e => e) fun _ _ e => e) hs
  obtain ⟨I, fp, n₀, Pi, St, rfl, G2, hI, W, st, hfp, hq, hQ⟩ := h₂
  refine ⟨G2.good.lim B, code_step B G2.good ht hc fun c' s₃ g3 hex => ?_⟩
  obtain ⟨h', tk, rfl, hx3, hsz⟩ := hex
  have G3 := G2.trans g3
  rw [hg]
  refine bi_step F B G3.good ?_
  have hIlt : I < s₂.heap.objs.size := (hfp _ W.I_in).1
  have hIc : cStatics ∉ [I] := by
    simp only [List.mem_singleton]
    intro q
    obtain ⟨mc, hn, _⟩ := G₀.lim B
    obtain ⟨o, _, _, e, _⟩ := hn
    rw [q, hI] at e; cases e
  refine ⟨I, fp, [I], n₀, Pi, St, fun _ => true, Fv, rfl, W.W, ?_, fun b hb => Nat.lt_of_lt_of_le (hfp b hb).1 hsz, G3.good.lim B, hIc, fun href hhref => ⟨?_, ?_⟩, fun a h₅ tk₅ gs hgb hag hsz₅ hk₅ Wa hat => ?_⟩
  · exact (W.W A hA).frame _ _ _ st fun b hb o e => hx3 b o (hfp b hb).2 e
  · intro A' E' i v s2 m2 _ _ _ _ _ _ _
    exact wpAny_pure ⟨rfl, ⟨s2.heap, s2.toks, rfl, fun _ _ e => e⟩⟩
  · intro A' E' i v s2 m2 e1 e2 e3 hp _ hn hm hk
    exact hq _ s2 _ _ m2 i v A' E' g3 (fun b o hb e => hk b (List.mem_range.mpr (Heap.lt_size e)) (by simpa using hb) o (hhref _ _ e)) e1 e2 e3 hp hn hm
  · have G5 : Go s₁ true s₀ { ({ s₂ with heap := h', toks := tk } : Shared) with gens := s₂.gens.push gs, toks := tk₅, heap := h₅ } :=
      ⟨⟨G3.good.ext.trans (.of_keep hk₅), G3.good.old.step_keeps hk₅, G3.good.os, fun q => (G3.good.gens q).push hgb, fun t ht => (G3.good.tabs t ht).keep hk₅⟩, fun b o z e => hk₅ b o (G3.ext b o z e), fun b e => G3.fresh b (by
        cases q : h'.get? b with
        | none => rfl
        | some o => have : h₅.get? b = none := e
                    rw [hk₅ b o q] at this; cases this)⟩
    have Wb := walksS_all Wa
    refine hQ a _ _ _ _ _ G5 Wb hat ?_ ?_
    · intro b hb
      show b < h₅.objs.size
      rw [hsz₅]
      rcases List.mem_cons.mp hb with rfl | hb
      · exact Nat.lt_succ_self _
      · rcases List.mem_cons.mp hb with rfl | hb
        · exact Nat.lt_succ_of_lt hag
        · exact Nat.lt_succ_of_lt (Nat.lt_trans (List.mem_range.mp hb) hag)
    · intro b hb
      rcases List.mem_cons.mp hb with rfl | hb
      · exact G3.fresh _ (get_size _)
      · simp only [List.mem_singleton] at hb
        subst hb; exact hI
end
end Mine
end

noncomputable section
open PySem PySem.Calls PySem.W PyProof.Rows Builtin Builtin.ObjectAttr
set_option maxRecDepth 100000
set_option maxHeartbeats 4000000
namespace Mine
section
variable {w : World} {A : Around} {s s' s₀ s₁ : Shared} {R : Result → Shared → Prop} {K : Frag} {mg mb : Str → Option Value} {n : Nat} {t : Bool} {E : Value → Shared → Prop} {o C fm fc fi : Addr} {f : Str → Option Value}
theorem isi_str_C {x : Str} {u : Tok} {Q : Value → Shared → Prop} (F : KF K) (X : K.In s.heap) (h : Q (.bool false) { s with toks := s.toks + 1 }) :
    wpAny (model PG w) A (call (.builtin "isinstance") [.str x u, .ref 74]) Q E s := by
  refine call_isinstance (S := fun _ R s => K.In s.heap ∧ R (.ok (.ret (.bool false))) { s with toks := s.toks + 1 }) (fun _ _ _ _ _ hs => isinstance_outer ?_ (by intro e; cases e)) ⟨X, h⟩
  rename_i pr' w' A' R' s'
  obtain ⟨X', hq⟩ := hs
  obtain ⟨hp, g, dr, tk, os⟩ := s'
  obtain ⟨cd, hcd, hm⟩ := F.c_cls
  have L1 : Looks (model pr' w') hp (typeOf (.ref 74)) (.type "type") := looks_typeIn X' F.c_type74
  have L2 : Looks (model pr' w') hp (isInstance (.ref 74) (.type "type")) true := L1.andThen (Looks.of_pure (by rw [isSubtype_type]; kernel_rfl))
  have L3 : Looks (model pr' w') hp (isInstance (.str x u) (.ref 74)) false := (Looks.of_pure (t := typeOf (.str x u)) (r := .type "str") rfl).andThen (looks_subIn (K := K) X' (show subIn K (.type "str") (.ref 74) = some false by rfl))
  have L4 : Looks (model pr' w') hp (isSubtype (.type "str") (.ref 74)) false := looks_subIn (K := K) X' (show subIn K (.type "str") (.ref 74) = some false by rfl)
  obtain ⟨oc, od, osl, h74⟩ : ∃ oc od osl, hp.get? 74 = some ⟨oc, od, .cls cd, osl⟩ := by
    unfold clsIn at hcd
    split at hcd
    · rename_i q; cases hcd; exact ⟨_, _, _, X' _ _ q⟩
    · cases hcd
  unfold Builtin.«isinstance.nested»
  k_delta "plainIsInstance"
  unfold isType
  repeat (first | with_reducible refine class_attr_str ?_ | lk)
  exact hq

theorem c_gs {x y : Str} {u v : Tok} (F : KF K) (kc : KC K C fm fc fi) (B : Base K mg mb s₁) (G : Good s₁ s) (r : Rm A (n + 3)) (I : IsO s.heap o C f) (hq : ∃ q, f "qval" = some (.int 1 q))
    (h : ∀ s' D, Go s₁ t s s' → s'.heap.IsList D #[.str x u, .str y v] → s.heap.get? D = none → R (.ok (.ret (.ref D))) s') :
    codeAny (model PG w) A (.call (.ref 165) ⟨[.ref o, .str x u, .str y v], []⟩) R s := by
  obtain ⟨q, hq⟩ := hq
  refine enterS (vs := [.str x u, .str y v]) (binds := fun D => [("self", .ref o), ("sequences", .ref D)]) F.f_gs B (Go.start (t := t) G) r (fun _ _ _ _ _ _ => ⟨_, rfl, fun _ => rfl⟩) (fun _ => by rfl) fun s₂ L T E' r₂ G₂ _ kp hL hT hTL hTs gT hn hc => ?_
  have K2 := G₂.good.kin B
  have I2 := G₂.isO I
  have c1 := (hc "self" (L + 1) (by rfl)).2.2
  show wpAny _ _ (execs [_, _, _] _) _ _ _
  refine wpAny_execs_cons (wpAny_If (wpAny_isTrue_Not (wpAny_isTrue_value (Attribute_any_ (nmC (by rfl) c1 (attrO kc K2 I2 kc.n_qval hq rfl (truthy_int ?_)))))))
  rw [if_neg (by simp)]
  refine wpAny_execs_nil ?_
  refine wpAny_execs_cons (wpAny_If (wpAny_isTrue_Compare1 (Attribute_any_ (nmC (by rfl) c1 (attrO (s := { s₂ with toks := s₂.toks + 1 }) kc K2 I2 kc.n_qval hq rfl (wpAny_Constant_int (eq_int (wpAny_truthy_bool ?_))))))))
  rw [if_pos (by simp)]
  refine wpAny_execs_cons (wpAny_Return_some (callP (nmB B (G₂.good.tok _) F.g_list boot_list (args_cons (nmL hn (by rfl) (args_nil ⟨keeper_ty, ?_⟩))))))
  refine call_list_seq T (.inr rfl) gT rfl rfl (fun h' c' k hD => ?_) (by rw [sizeLine_eq]; simp)
  exact h _ _ (G₂.keep k) ⟨_, hD, rfl, c', rfl⟩ (G₂.fresh _ (get_size _))

/-- _get_counters, of two texts -/
theorem c_gc {x y : Str} {u v : Tok} (F : KF K) (kc : KC K C fm fc fi) (B : Base K mg mb s₁) (G : Good s₁ s) (r : Rm A (n + 8)) (I : IsO s.heap o C f) (hf : NoShadow f) (hq : ∃ q, f "qval" = some (.int 1 q)) (hx : x.cps.size ≤ 1000) (hy : y.cps.size ≤ 1000)
    (h : ∀ s' D c1 c2, Go s₁ true s s' → s'.heap.IsList D #[.ref c1, .ref c2] → IsC w s'.heap c1 ((signs x).foldl Bag.add1 []) → IsC w s'.heap c2 ((signs y).foldl Bag.add1 []) → Nw s.heap c1 → Nw s.heap c2 → s.heap.get? D = none → R (.ok (.ret (.ref D))) s') :
    codeAny (model PG w) A (.call (.ref 170) ⟨[.ref o, .str x u, .str y v], []⟩) R s := by
  refine enterS (vs := [.str x u, .str y v]) (binds := fun D => [("self", .ref o), ("sequences", .ref D)]) F.f_gc B (Go.start (t := true) G) r (fun _ _ _ _ _ _ => ⟨_, rfl, fun _ => rfl⟩) (fun _ => by rfl) fun s₂ L T E' r₂ G₂ _ kp hL hT hTL hTs gT hn hc => ?_
  have K2 := G₂.good.kin B
  have I2 := G₂.isO I
  obtain ⟨h1, h2, h3, h4, h5, h6, h7, h8, h9, h10⟩ := hf
  show wpAny _ _ (execs [_, _] _) _ _ _
  refine wpAny_execs_cons (wpAny_If (wpAny_isTrue_value (callP (nmB B G₂.good F.g_all boot_all (args_cons ?_)))))
  have GS : Go s₁ true s₂ s₂ := Go.start G₂.good
  refine gen_eval (c := 169) (P := 167) (cl := []) (fun _ v => v = .bool false) F B G₂.good (by simp [TT]) rfl rfl r₂.h r₂.depth rfl (by rfl) (by decide) (by rfl) (by rfl) rfl (nmL hn (by rfl) (wpAny_pyIter_tuple (tupIs gT) ?_))
  have hTI : T ≠ s₂.heap.objs.size := Nat.ne_of_lt (Heap.lt_size gT)
  have hT7 : T ≠ 167 := fun q => by
    obtain ⟨ps, _, ⟨_, e⟩, _⟩ := G₂.good.tabs (169, 167, ⟨100, 15, 100, 58⟩) (by simp [TT])
    rw [q] at gT; dsimp only at e; rw [gT] at e; cases e
  have hs7 : s₂.heap.objs.size ≠ 167 := fun q => by
    obtain ⟨ps, _, ⟨_, e⟩, _⟩ := G₂.good.tabs (169, 167, ⟨100, 15, 100, 58⟩) (by simp [TT])
    dsimp only at e
    have := Heap.lt_size e
    rw [q] at this; exact Nat.lt_irrefl _ this
  refine ⟨_, _, _, _, _, rfl, GS.keep (Keep.push _ _), get_size _, wkTup (items := [Value.str x u, Value.str y v].toArray) hTI, ⟨⟨_, Heap.get?_push_size _ rfl, rfl, rfl⟩, tupIs (Heap.get?_push_of_some _ gT)⟩, fun b hb => ?_, ?_, ?_⟩
  · simp only [List.mem_cons, List.not_mem_nil, or_false] at hb
    have hsz : (s₂.heap.push { cls := .type "tuple_iterator", data := .fields #[.ref T, .int 0 0] }).objs.size = s₂.heap.objs.size + 1 := Heap.size_push ..
    rcases hb with rfl | rfl
    · exact ⟨hsz ▸ Nat.lt_succ_self _, hs7⟩
    · exact ⟨hsz ▸ Nat.lt_succ_of_lt (Heap.lt_size gT), hT7⟩
  · intro s₄ s' C' code m i v' A' E'' g4 hk e1 e2 e3 hp hn' hm
    -- the class is told by what the heap keeps
    have K' : K.In s'.heap := fun a ob e => by
      have e4 := g4.good.kin B a ob e
      refine hk a ob (fun q => ?_) e4
      have e5 := K2 a ob e
      rw [q, get_size] at e5; cases e5
    have ns' : s'.heap.Ns mainGlobals mg := (g4.good.g B).at' fun ob e => hk _ ob (fun q => by
      have := (G₂.good.g B)
      obtain ⟨_, _, _, e5, _⟩ := this
      rw [q, get_size] at e5; cases e5) e
    have nb' : s'.heap.Ns builtinsNs mb := (g4.good.b B).at' fun ob e => hk _ ob (fun q => by
      have := (G₂.good.b B)
      obtain ⟨_, _, _, e5, _⟩ := this
      rw [q, get_size] at e5; cases e5) e
    obtain ⟨str, ut, rfl⟩ : ∃ str ut, v' = .str str ut := by
      match i, hp with
      | 0, hp => cases hp; exact ⟨x, u, rfl⟩
      | 1, hp => cases hp; exact ⟨y, v, rfl⟩
      | i + 2, hp => cases hp
    refine callP (Name_function_global rfl (by rfl) (loadGlobal_builtin ns' (mg_none_of B.kin B.g F.g_isinstance) nb' ((B.bi _ (by decide)).trans boot_isinstance) ?_) (by decide))
    refine args_cons (nmL hn' hm (args_cons (Name_function_global rfl (by rfl) (loadGlobal_global ns' (mg_of B.kin B.g F.g_Counter) (args_nil ⟨keeper_bi, ?_⟩)) (by decide))))
    exact isi_str_C F K' ⟨rfl, s'.heap, _, rfl, fun _ _ e => e⟩
  · intro a s₅ g fp' wr' St' G5 W hst hfp hwr
    refine args_nil ⟨keeper_bi, ?_⟩
    have W' := W.in4_1
    refine call_all_walkS (W'.self 0 _ _ _ hst ⟨a, _, _, _, _, _, _, fun _ => false, rfl, W', hst, (fun i v s Q E hv hQ => by cases hv; exact wpAny_truthy_bool hQ), fun s6 hm => ?_⟩)
    have G6 := G5.moved B G₂.good hm hwr
    have G6' := G₂.trans G6
    have e : (List.range [Value.str x u, Value.str y v].toArray.size).all (fun _ => false) = false := by show (List.range 2).all (fun _ => false) = false; rfl
    rw [e]
    refine wpAny_truthy_bool ?_
    simp only [Bool.false_eq_true, if_false]
    refine wpAny_execs_nil ?_
    refine wpAny_execs_cons (wpAny_Return_some ?_)
    rw [eval_ListComp]
    have n6 := G6.ns hn
    have T6 := G6.obj (isTab_cls (by nofun)) gT
    have I6 := G6'.isO I
    have K6 := G6'.good.kin B
    refine listC (use := none) (cl := []) (by rfl) (by decide) rfl (by decide) (callMS (nmL n6 (by rfl) (boundO kc K6 I6 F.f_gs kc.m_gs h3 (by decide) ?_)))
    have kq : Keep s6.heap (s6.heap.push (methodObj (.ref 165) (.ref o))) := Keep.push _ _
    refine nmL (n6.keeps kq) (by rfl) (starT (kq _ _ T6) two_line fun h8' k8 => ?_)
    have gq := k8 _ _ (Heap.get?_push_size (o := methodObj (.ref 165) (.ref o)) s6.heap rfl)
    refine ⟨keeper_meth (K6.keeps (kq.trans k8)) F.f_gs gq, wpAny_call (method_call gq ?_)⟩
    have G8 := G6'.keep (kq.trans k8) (tk := s6.toks + 1)
    refine c_gs (t := true) F kc B G8.good r₂.le.le.le.le (G8.isO I) hq fun s7 LD g7 hLD nLD => ?_
    have G7 := G8.trans g7
    obtain ⟨oLD, eLD⟩ := list_lt hLD
    refine wpAny_pyIter_list hLD fun DA CA h' tk hDA hCA hne hk hnC hD0 => ?_
    have hI : s7.heap.get? s7.heap.objs.size = none := get_size _
    have hkI : Keep s7.heap (s7.heap.push { cls := .type "list_iterator", data := .fields #[.ref LD, .int 0 0] }) := Keep.push _ _
    have hsz : (s7.heap.push { cls := .type "list_iterator", data := .fields #[.ref LD, .int 0 0] }).objs.size = s7.heap.objs.size + 1 := Heap.size_push ..
    dsimp only at hDA hCA hk
    rw [hsz] at hDA hCA
    have hD2 : s7.heap.get? DA = none := get_ge (by omega)
    have hC2 : s7.heap.get? CA = none := get_ge (by omega)
    have hDI : DA ≠ s7.heap.objs.size := by omega
    have hCI : CA ≠ s7.heap.objs.size := by omega
    have hlD : LD ≠ DA := fun q => by rw [q, hD2] at eLD; cases eLD
    have hlC : LD ≠ CA := fun q => by rw [q, hC2] at eLD; cases eLD
    have hlI : LD ≠ s7.heap.objs.size := fun q => by rw [q, hI] at eLD; cases eLD
    have GT : Go s₁ true s7 s7 := Go.start G7.good
    have W7 := wkList (prog := PG) (w := w) (items := #[.str x u, .str y v]) hlI
    refine listLoop_W (c := CA) W7 r₂.h (by simp only [List.mem_cons, List.not_mem_nil, or_false, not_or]; exact ⟨hDI, hlD.symm⟩) (by simp only [List.mem_cons, List.not_mem_nil, or_false, not_or]; exact ⟨hCI, hlC.symm⟩) hne (by simp)
      (fun i ys s' => Go s₁ true s7 s' ∧ ys.length = i ∧ (∃ m, s'.heap.Ns CA m) ∧
        ∀ j v', ys[j]? = some v' → ∃ c, v' = .ref c ∧ IsC w s'.heap c ((signs (if j = 0 then x else y)).foldl Bag.add1 []) ∧ (c ≠ s7.heap.objs.size ∧ c - 1 ≠ s7.heap.objs.size) ∧ (c ≠ DA ∧ c - 1 ≠ DA) ∧ (c ≠ CA ∧ c - 1 ≠ CA) ∧ Nw s7.heap c) ?_ ?_ ?_
      ⟨(GT.keep hkI).keep hk, rfl, ⟨_, hnC⟩, fun j v' e => by simp at e⟩ hD0 ⟨⟨_, hk _ _ (Heap.get?_push_size _ rfl), rfl, rfl⟩, hLD.at fun o e => hk _ _ (hkI _ _ e)⟩
    · rintro i ys s' h' tk q hq' ⟨g, e1, ⟨m, hm⟩, e4⟩ hb
      rcases hq' with rfl | rfl
      · exact ⟨g.but B hI hb G7.good, e1, ⟨m, hm.extBut hb hCI⟩, fun j v' e => let ⟨c, a1, a2, a3, a4, a5, a6⟩ := e4 j v' e; ⟨c, a1, a2.but hb a3.1 a3.2, a3, a4, a5, a6⟩⟩
      · exact ⟨g.but B hD2 hb G7.good, e1, ⟨m, hm.extBut hb hne.symm⟩, fun j v' e => let ⟨c, a1, a2, a3, a4, a5, a6⟩ := e4 j v' e; ⟨c, a1, a2.but hb a4.1 a4.2, a3, a4, a5, a6⟩⟩
    · rintro i ys v' s' hi hl hv ⟨g, e1, ⟨m, hm⟩, e4⟩ hD st' N
      obtain ⟨uz, rfl⟩ : ∃ uz, v' = .str (if i = 0 then x else y) uz := by
        match i, hv with
        | 0, hv => cases hv; exact ⟨u, rfl⟩
        | 1, hv => cases hv; exact ⟨v, rfl⟩
        | i + 2, hv => cases hv
      refine stL hm fun h4 hn4 hs4 => ?_
      have g4 := g.same B hC2 hs4 G7.good (tk := s'.toks + 1)
      obtain ⟨oI, eI⟩ : ∃ o, h4.get? s7.heap.objs.size = some o := by
        obtain ⟨⟨o, e, _⟩, _⟩ := st'
        exact ⟨o, hs4.extBut _ _ hCI.symm e⟩
      obtain ⟨oD, eD⟩ := list_lt (hD.extBut hs4.extBut hne)
      obtain ⟨oC, eC⟩ := ns_obj hn4
      refine wpAny_tests_nil ?_
      simp only [if_true]
      refine callP (nmG B g4.good F.g_Counter (args_cons (nmL hn4 (if_pos rfl) (args_nil ⟨keepC F (g4.good.kin B), ?_⟩))))
      refine wpAny_call (new_str (t := true) F B g4.good r₂.le.le (by split <;> assumption) fun s5 z g5 hz nz => ?_)
      refine ⟨(ExtB.of_same hs4).then g5.Ext, g4.trans g5, by simp [e1], ⟨_, g5.ns hn4⟩, fun j w' e => ?_⟩
      by_cases hj : j < ys.length
      · rw [List.getElem?_append_left hj] at e
        obtain ⟨c, a1, a2, a3, a4, a5, a6⟩ := e4 j w' e
        exact ⟨c, a1, g5.isC (a2.but hs4.extBut a5.1 a5.2), a3, a4, a5, a6⟩
      · have hj' : j = i := by
          have : j < (ys ++ [Value.ref z]).length := (List.getElem?_eq_some_iff.mp e).1
          simp at this
          omega
        subst hj'
        rw [List.getElem?_append_right (by omega)] at e
        simp [e1] at e
        subst e
        exact ⟨z, rfl, hz, nz.ne eI, nz.ne eD, nz.ne eC, nz.back g4⟩
    · rintro ys s' hl ⟨g, e1, ⟨m, hm⟩, e4⟩ hD
      refine ⟨m, hm, fun h' hs => ?_⟩
      have g' := g.same B hC2 hs G7.good (tk := s'.toks)
      have hD' : h'.IsList DA ys.toArray := hD.extBut hs.extBut hne
      match ys, e1, e4, hD' with
      | [v0, v1], _, e4, hD' =>
        obtain ⟨c0, rfl, a2, _, _, a5, a6⟩ := e4 0 v0 rfl
        obtain ⟨c1, rfl, b2, _, _, b5, b6⟩ := e4 1 v1 rfl
        exact h _ DA c0 c1 (G7.trans g') hD' (a2.but hs.extBut a5.1 a5.2) (b2.but hs.extBut b5.1 b5.2) (a6.back G7) (b6.back G7) (G7.fresh _ hD2)
end
end Mine
end

noncomputable section
open PySem PySem.Calls PySem.W PyProof.Rows Builtin Builtin.ObjectAttr
set_option maxRecDepth 100000
set_option maxHeartbeats 4000000
namespace Mine
def bagOf (x : Str) : Bag := (signs x).foldl Bag.add1 []
def cp (b : Bag) : Bag := b.copyTo [] b
def interB (a b : Bag) : Bag := cp (andB (cp a) b)
def unionB (a b : Bag) : Bag := cp (orB' (cp a) b)
theorem bagOf_len (x : Str) : (bagOf x).length ≤ x.cps.size := by
  have := add1_len (signs x) []
  simp [signs] at this
  exact this
theorem cp_len (b : Bag) : (cp b).length ≤ b.length := by have := copy_len b b []; simp at this; exact this
theorem interB_len (a b : Bag) : (interB a b).length ≤ a.length := by
  have h1 := cp_len (andB (cp a) b)
  have h2 := and_len (a := cp a) (b := b) (cp a) []
  have h3 := cp_len a
  unfold interB andB at *
  simp at h2
  omega
theorem unionB_len (a b : Bag) : (unionB a b).length ≤ a.length + b.length := by
  have h1 := cp_len (orB' (cp a) b)
  have h2 := fold_len (orC_len (orRows (cp a) b)) (orRows (cp a) b) []
  have h3 := cp_len a
  have h4 := fold_len (orB_len b) b ((cp a).foldl (orA (cp a) b) [])
  have h5 := fold_len (orA_len (cp a) b) (cp a) []
  unfold unionB orB' orRows at *
  simp at h2 h5
  omega

/-- the counts of two texts -/
structure Cts (sets : Bool) (x y : Str) (c un a b : Nat) : Prop where
  inter : cnt sets (interB (bagOf x) (bagOf y)) = c
  uni : cnt sets (unionB (bagOf x) (bagOf y)) = un
  sa : cnt sets (bagOf x) = a
  sb : cnt sets (bagOf y) = b
abbrev frac (i u : Nat) : UInt64 := Float64.ofFrac false i u
inductive SimOk (x y : Str) (fl : UInt64) : Value → Prop
  | same (u : Tok) : x = y → SimOk x y fl (.int 1 u)
  | empty (u : Tok) : x ≠ y → (x.cps.size = 0 ∨ y.cps.size = 0) → SimOk x y fl (.int 0 u)
  | go (u : Tok) : x ≠ y → x.cps.size ≠ 0 → y.cps.size ≠ 0 → SimOk x y fl (.float fl u)

section
variable {w : World} {A : Around} {s s' s₀ s₁ : Shared} {R : Result → Shared → Prop} {K : Frag} {mg mb : Str → Option Value} {n : Nat} {t : Bool} {E : Value → Shared → Prop} {o C fm fc fi : Addr} {f : Str → Option Value}
theorem div_nat {i u : Nat} {p q : Tok} {Q : Value → Shared → Prop} (hu : 0 < u) (hf : Float64.isInf (frac i u) = false) (h : ∀ r tk, Q (.float (frac i u) r) { s with toks := tk }) :
    wpAny (model PG w) A (binaryOp .Div (.int i p) (.int u q)) Q E s := by
  have e1 : (decide ((i : Int) < 0) != decide ((u : Int) < 0)) = false := by
    have h1 : ¬ (i : Int) < 0 := by omega
    have h2 : ¬ (u : Int) < 0 := by omega
    simp [h1, h2]
  refine AutoIntOps.truediv_2 (by simp; omega) (by rw [e1, Int.natAbs_natCast, Int.natAbs_natCast]; rw [hf]; exact Bool.false_ne_true) ?_
  rw [e1, Int.natAbs_natCast, Int.natAbs_natCast]
  exact h _ _

theorem selfStar {env : Env} {name : Str} {m cd : Addr} {qual : Str} {fd : FD} {dV : Value} {ps pq p apos pos pos' : Pos} {v : Addr} {vs : List Value} {Q : Value → Shared → Prop} (kc : KC K C fm fc fi) (X : K.In s.heap) (I : IsO s.heap o C f) (kf : FnIn K m qual fd dV cd) (hm : findIn K (.ref C) name = some (some (.ref m)))
    (hf : f name = none) (hcn : copiedNames.contains name = false)
    (hself : ∀ {Q : Value → Shared → Prop}, Q (.ref o) s → wpAny (model PG w) A (eval (.Name "self" ps) env) Q E s)
    (hseq : ∀ {Q : Value → Shared → Prop} h' tk, Keep s.heap h' → Q (.ref v) { s with heap := h', toks := tk } → wpAny (model PG w) A (eval (.Name "sequences" pq) env) Q E { s with heap := h', toks := tk })
    (hstar : ∀ {Q : List Value → Shared → Prop} h' tk, Keep s.heap h' → (∀ h'', Keep h' h'' → Q vs { s with heap := h'', toks := tk }) → StarOf (model PG w) A E (.ref v) Q { s with heap := h', toks := tk })
    (h : ∀ h' tk, Keep s.heap h' → codeAny (model PG w) A (.call (.ref m) ⟨.ref o :: vs, []⟩) (fun r s' => match r with | .ok (.ret v) => Q v s' | .ok _ => False | .error e => E e s') { s with heap := h', toks := tk })
    (he : PySem.eval (.Call (.Attribute (.Name "self" ps) name apos) [.Starred (.Name "sequences" pq) p] [] pos) env = (do
      let ov ← PySem.eval (.Name "self" ps) env
      standAt apos.atName
      let (f, first) ← holding [ov] (do pure (← getAttr ov name true, []))
      let callPos ← pure pos'
      callWith callPos f first (backTo pos (starEach [.Starred (.Name "sequences" pq) p] env)) (backToKw pos (keywordEach [] env))) := by rfl) :
    wpAny (model PG w) A (PySem.eval (.Call (.Attribute (.Name "self" ps) name apos) [.Starred (.Name "sequences" pq) p] [] pos) env) Q E s := by
  refine callMS (hself (boundO kc X I kf hm hf hcn ?_)) he
  have kq : Keep s.heap (s.heap.push (methodObj (.ref m) (.ref o))) := Keep.push _ _
  refine hseq _ _ kq (hstar _ _ kq fun h'' k => ?_)
  have gq := k _ _ (Heap.get?_push_size (o := methodObj (.ref m) (.ref o)) s.heap rfl)
  exact ⟨keeper_meth (X.keeps (kq.trans k)) kf gq, wpAny_call (method_call gq (h _ _ (kq.trans k)))⟩
theorem starD {D : Addr} {ws : List Value} (hD : s.heap.IsList D ws.toArray) (hz : ws.length ≤ sizeLine) : ∀ {Q : List Value → Shared → Prop} h' tk, Keep s.heap h' → (∀ h'', Keep h' h'' → Q ws { s with heap := h'', toks := tk }) → StarOf (model PG w) A E (.ref D) Q { s with heap := h', toks := tk } :=
  fun h' tk k q => starList (s := { s with heap := h', toks := tk }) (hD.at fun o e => k _ _ e) hz q
theorem starTT {D : Addr} {ws : List Value} (hD : s.heap.get? D = some (tupObj ws)) (hz : ws.length ≤ sizeLine) : ∀ {Q : List Value → Shared → Prop} h' tk, Keep s.heap h' → (∀ h'', Keep h' h'' → Q ws { s with heap := h'', toks := tk }) → StarOf (model PG w) A E (.ref D) Q { s with heap := h', toks := tk } :=
  fun h' tk k q => starT (s := { s with heap := h', toks := tk }) (k _ _ hD) hz q

theorem c_jcall {x y : Str} {u v : Tok} {c un a b : Nat} {sets : Bool} (F : KF K) (kc : KC K C 260 fc fi) (B : Base K mg mb s₁) (G : Good s₁ s) (r : Rm A (n + 16)) (I : IsO s.heap o C f) (hf : NoShadow f) (hq : ∃ q, f "qval" = some (.int 1 q)) (has : f "as_set" = some (.bool sets))
    (hx : x.cps.size ≤ 50) (hy : y.cps.size ≤ 50) (hc : x ≠ y → x.cps.size ≠ 0 → y.cps.size ≠ 0 → Cts sets x y c un a b ∧ 0 < un ∧ Float64.isInf (frac c un) = false)
    (h : ∀ s' z, Go s₁ true s s' → SimOk x y (frac c un) z → R (.ok (.ret z)) s') :
    codeAny (model PG w) A (.call (.ref 267) ⟨[.ref o, .str x u, .str y v], []⟩) R s := by
  refine enterS (vs := [.str x u, .str y v]) (binds := fun D => [("self", .ref o), ("sequences", .ref D)]) F.j_call B (Go.start (t := true) G) r (fun _ _ _ _ _ _ => ⟨_, rfl, fun _ => rfl⟩) (fun _ => by rfl) fun s₂ L T E' r₂ G₂ _ kp hL hT hTL hTs gT hn hcl => ?_
  have K2 := G₂.good.kin B
  have I2 := G₂.isO I
  obtain ⟨h1, h2, h3, h4, h5, h6, h7, h8, h9, h10⟩ := id hf
  show wpAny _ _ (execs [_, _, _, _, _, _, _, _] _) _ _ _
  -- result = self.quick_answer(*sequences)
  refine wpAny_execs_cons (wpAny_Assign_Name (selfStar kc K2 I2 F.f_quick kc.m_quick h1 (by decide) (fun q => nmL hn (by rfl) q) (fun h' tk k q => nmL (hn.keeps k) (by rfl) q) (starTT gT two_line) fun h3' tk3 k3 => ?_))
  have G3 := G₂.keep k3 (tk := tk3)
  refine c_quick (t := true) F kc (maxJ F) B G3.good r₂.le.le.le.le.le.le.le.le.le (G3.isO I) hf (by omega) (by omega) F.j_max fun s4 z g4 qz => ?_
  have G4 := G3.trans g4
  have n4 := g4.ns (hn.keeps k3)
  have T4 := g4.obj (isTab_cls (by nofun)) (k3 _ _ gT)
  refine stL n4 fun h5' n5 hs5 => ?_
  have G5 := G4.same B hL hs5 G (tk := s4.toks + 1)
  have T5 : h5'.get? T = some (tupObj [.str x u, .str y v]) := hs5.extBut _ _ hTL T4
  have K5 := G5.good.kin B
  have I5 := G5.isO I
  refine wpAny_execs_cons (wpAny_If (wpAny_isTrue_Compare1 (nmL n5 (if_pos rfl) (wpAny_Constant_none ?_))))
  rcases qz with ⟨q1, e⟩ | ⟨q1, e1, e2⟩ | ⟨e1, e2, e3⟩
  · refine isnot_none_ne (by simp) (wpAny_truthy_bool ?_)
    simp only [if_true]
    exact wpAny_execs_cons (wpAny_Return_some (nmL n5 (if_pos rfl) (h _ _ G5 (.same q1 e))))
  · refine isnot_none_ne (by simp) (wpAny_truthy_bool ?_)
    simp only [if_true]
    exact wpAny_execs_cons (wpAny_Return_some (nmL n5 (if_pos rfl) (h _ _ G5 (.empty q1 e1 e2))))
  refine isnot_none_none (wpAny_truthy_bool ?_)
  simp only [Bool.false_eq_true, if_false]
  refine wpAny_execs_nil ?_
  obtain ⟨cc, hun, hinf⟩ := hc e1 e2 e3
  -- sequences = self._get_counters(*sequences)
  refine wpAny_execs_cons (wpAny_Assign_Name (selfStar (s := { s4 with heap := h5', toks := s4.toks + 1 }) kc K5 I5 F.f_gc kc.m_gc h4 (by decide) (fun q => nmL n5 (by rfl) q) (fun h' tk k q => nmL (n5.keeps k) (by rfl) q) (starTT T5 two_line) fun h6' tk6 k6 => ?_))
  have G6 := G5.keep k6 (tk := tk6)
  refine c_gc F kc B G6.good r₂.le.le.le.le.le.le.le (G6.isO I) hf hq (by omega) (by omega) fun s7 LD x1 x2 g7 hLD C1 C2 w1 w2 nLD => ?_
  have G7 := G6.trans g7
  have n7 := g7.ns (n5.keeps k6)
  obtain ⟨oL, eL⟩ := ns_obj (n5.keeps k6)
  have hLLD : LD ≠ L := fun q => by rw [q] at nLD; have := eL.symm.trans nLD; cases this
  refine stL n7 fun h8 n8 hs8 => ?_
  have G8 := G7.same B hL hs8 G (tk := s7.toks + 1)
  have D8 := hLD.extBut hs8.extBut hLLD
  have C18 := C1.but hs8.extBut (w1.ne eL).1 (w1.ne eL).2
  have C28 := C2.but hs8.extBut (w2.ne eL).1 (w2.ne eL).2
  have hL1 := w1.ne eL
  have hL2 := w2.ne eL
  -- intersection = self._intersect_counters(*sequences)
  refine wpAny_execs_cons (wpAny_Assign_Name (selfStar (s := { s7 with heap := h8, toks := s7.toks + 1 }) kc (G8.good.kin B) (G8.isO I) F.f_ic kc.m_ic h5 (by decide) (fun q => nmL n8 (by rfl) q) (fun h' tk k q => nmL (n8.keeps k) (by rfl) q) (starD (ws := [.ref x1, .ref x2]) D8 two_line) fun h9 tk9 k9 => ?_))
  have G9 := G8.keep k9 (tk := tk9)
  have l1 := bagOf_len x
  have l2 := bagOf_len y
  refine c_inter (t := true) F B G9.good r₂.le.le.le.le.le.le (by unfold bagOf at l1; omega) (C18.ext (.of_keep k9)) (C28.ext (.of_keep k9)) fun s10 z10 g10 hz10 w10 => ?_
  have G10 := G9.trans g10
  have n10 := g10.ns (n8.keeps k9)
  obtain ⟨oL8, eL8⟩ := ns_obj (n8.keeps k9)
  have D10 := g10.list (D8.at fun o e => k9 _ _ e)
  have C110 := g10.isC (C18.ext (.of_keep k9))
  have C210 := g10.isC (C28.ext (.of_keep k9))
  refine stL n10 fun h11 n11 hs11 => ?_
  have G11 := G10.same B hL hs11 G (tk := s10.toks + 1)
  have D11 := D10.extBut hs11.extBut hLLD
  have C111 := C110.but hs11.extBut hL1.1 hL1.2
  have C211 := C210.but hs11.extBut hL2.1 hL2.2
  have Z11 := hz10.but hs11.extBut (w10.ne eL8).1 (w10.ne eL8).2
  -- intersection = self._count_counters(intersection)
  refine wpAny_execs_cons (wpAny_Assign_Name (callM (nmL n11 (by rfl) (methO (s := { s10 with heap := h11, toks := s10.toks + 1 }) kc (G11.good.kin B) (G11.isO I) kc.m_cc F.f_cc.ty h7 (args_cons (nmL n11 (by rfl) (args_nil ⟨keeper_K F.f_cc.keep (G11.good.kin B), wpAny_call ?_⟩)))))))
  refine c_count (t := true) (b := interB (bagOf x) (bagOf y)) F kc B G11.good r₂.le.le.le.le.le.le.le.le.le.le.le (by have := interB_len (bagOf x) (bagOf y); omega) (G11.isO I) has Z11 fun s12 u12 g12 k12 => ?_
  rw [cc.inter]
  have G12 := G11.trans g12
  refine stL (g12.ns n11) fun h13 n13 hs13 => ?_
  have G13 := G12.same B hL hs13 G (tk := s12.toks + 1)
  have D13 := (g12.list D11).extBut hs13.extBut hLLD
  have C113 := (g12.isC C111).but hs13.extBut hL1.1 hL1.2
  have C213 := (g12.isC C211).but hs13.extBut hL2.1 hL2.2
  -- union = self._union_counters(*sequences)
  refine wpAny_execs_cons (wpAny_Assign_Name (selfStar (s := { s12 with heap := h13, toks := s12.toks + 1 }) kc (G13.good.kin B) (G13.isO I) F.f_uc kc.m_uc h6 (by decide) (fun q => nmL n13 (by rfl) q) (fun h' tk k q => nmL (n13.keeps k) (by rfl) q) (starD (ws := [.ref x1, .ref x2]) D13 two_line) fun h14 tk14 k14 => ?_))
  have G14 := G13.keep k14 (tk := tk14)
  refine c_union (t := true) F B G14.good r₂.le.le.le.le.le.le (by unfold bagOf at l1; omega) (by unfold bagOf at l2; omega) (C113.ext (.of_keep k14)) (C213.ext (.of_keep k14)) fun s15 z15 g15 hz15 w15 => ?_
  have G15 := G14.trans g15
  obtain ⟨oL14, eL14⟩ := ns_obj (n13.keeps k14)
  refine stL (g15.ns (n13.keeps k14)) fun h16 n16 hs16 => ?_
  have G16 := G15.same B hL hs16 G (tk := s15.toks + 1)
  have Z16 := hz15.but hs16.extBut (w15.ne eL14).1 (w15.ne eL14).2
  -- union = self._count_counters(union)
  refine wpAny_execs_cons (wpAny_Assign_Name (callM (nmL n16 (by rfl) (methO (s := { s15 with heap := h16, toks := s15.toks + 1 }) kc (G16.good.kin B) (G16.isO I) kc.m_cc F.f_cc.ty h7 (args_cons (nmL n16 (by rfl) (args_nil ⟨keeper_K F.f_cc.keep (G16.good.kin B), wpAny_call ?_⟩)))))))
  refine c_count (t := true) (b := unionB (bagOf x) (bagOf y)) F kc B G16.good r₂.le.le.le.le.le.le.le.le.le.le.le (by have := unionB_len (bagOf x) (bagOf y); omega) (G16.isO I) has Z16 fun s17 u17 g17 k17 => ?_
  rw [cc.uni]
  have G17 := G16.trans g17
  refine stL (g17.ns n16) fun h18 n18 hs18 => ?_
  have G18 := G17.same B hL hs18 G (tk := s17.toks + 1)
  -- return intersection / union
  refine wpAny_execs_cons (wpAny_Return_some (wpAny_BinOp (nmL n18 (by rfl) (nmL n18 (by rfl) (div_nat hun hinf fun r tk => ?_)))))
  exact h _ _ (G18.tok _) (.go _ e1 e2 e3)
end
end Mine
end

noncomputable section
open PySem PySem.Calls PySem.W PyProof.Rows Builtin Builtin.ObjectAttr
set_option maxRecDepth 100000
set_option maxHeartbeats 4000000
namespace Mine
theorem cell_keep {h h' : Heap} {a : Addr} {v} (x : h.IsCell a v) (k : Keep h h') : h'.IsCell a v := let ⟨o, q, r⟩ := x; ⟨o, k a o q, r⟩
theorem ne_add1 (L : Nat) : L + 1 ≠ L := by omega
section
variable {w : World} {A : Around} {s s' s₀ s₁ : Shared} {R : Result → Shared → Prop} {K : Frag} {mg mb : Str → Option Value} {n : Nat} {t : Bool} {E : Value → Shared → Prop} {o C fm fc fi : Addr} {f : Str → Option Value}
/-- [self._count_counters(s) for s in sequences] -/
theorem countsC {env : Env} {scope : Scope} {ps pa px pc pt pi pos : Pos} {cs D x1 x2 : Addr} {a b : Bag} {sets : Bool} {use : Option (Value → Sem Unit)} {pl : Addr → Sem Bool} {Q : Value → Shared → Prop} (F : KF K) (kc : KC K C fm fc fi) (B : Base K mg mb s₁) (G : Good s₁ s) (r : Rm A (n + 4)) (I : IsO s.heap o C f)
    (hcc : f "_count_counters" = none) (has : f "as_set" = some (.bool sets)) (hcs : s.heap.IsCell cs (some (.ref o))) (hD : s.heap.IsList D #[.ref x1, .ref x2]) (C1 : IsC w s.heap x1 a) (C2 : IsC w s.heap x2 b) (ha : a.length ≤ 100) (hb : b.length ≤ 100)
    (hclos : closureFor scope env = pure [(("self" : Str), cs)]) (hcell : ∀ y ∈ scope.names, y.2 ≠ .cell) (hkind : scope.kind = .function) (hnames : ∀ y ∈ scope.names, y.2 = .local → scope.names.lookup y.1 = some .local)
    (hks : ∀ CA, (compEnvC scope [(("self" : Str), cs)] CA env).kindOf "self" = some .cell) (hkl : ∀ CA, (compEnvC scope [(("self" : Str), cs)] CA env).kindOf "s" = some .local)
    (hseq : ∀ {Q : Value → Shared → Prop}, Q (.ref D) s → wpAny (model PG w) A (PySem.eval (.Name "sequences" pi) env) Q E s)
    (h : ∀ s' DA CA m u1 u2, Go s₁ true s s' → s'.heap.IsList DA #[.int (cnt sets a) u1, .int (cnt sets b) u2] → s'.heap.Ns CA m → s.heap.get? CA = none → s.heap.get? DA = none → DA ≠ CA → compPost (model PG w) A E use Q (.ref DA) CA (.ok .next) s')
    (he : ∀ CA, PySem.eval (.Call (.Attribute (.Name "self" ps) "_count_counters" pa) [.Name "s" px] [] pc) (compEnvC scope [(("self" : Str), cs)] CA env) = (do
      let ov ← PySem.eval (.Name "self" ps) (compEnvC scope [(("self" : Str), cs)] CA env)
      standAt pa.atName
      let (f, first) ← holding [ov] (getMethod ov "_count_counters" (pl CA))
      callWith pc f first (backTo pc (starEach [.Name "s" px] (compEnvC scope [(("self" : Str), cs)] CA env))) (backToKw pc (keywordEach [] (compEnvC scope [(("self" : Str), cs)] CA env)))) := by intro _; rfl) :
    wpAny (model PG w) A (comprehension (.ListComp (.Call (.Attribute (.Name "self" ps) "_count_counters" pa) [.Name "s" px] [] pc) [⟨.Name "s" pt, .Name "sequences" pi, [], 0⟩] scope pos) scope env (firstIterPos [⟨.Name "s" pt, .Name "sequences" pi, [], 0⟩] pos) (newList []) false (PySem.eval (.Name "sequences" pi) env) use) Q E s := by
  refine listC hclos hcell hkind hnames (hseq (wpAny_pyIter_list hD fun DA CA h' tk hDA hCA hne hk hnC hD0 => ?_))
  obtain ⟨oLD, eLD⟩ := list_lt hD
  have hI : s.heap.get? s.heap.objs.size = none := get_size _
  have hkI : Keep s.heap (s.heap.push { cls := .type "list_iterator", data := .fields #[.ref D, .int 0 0] }) := Keep.push _ _
  have hsz : (s.heap.push { cls := .type "list_iterator", data := .fields #[.ref D, .int 0 0] }).objs.size = s.heap.objs.size + 1 := Heap.size_push ..
  dsimp only at hDA hCA hk
  rw [hsz] at hDA hCA
  have hD2 : s.heap.get? DA = none := get_ge (by omega)
  have hC2 : s.heap.get? CA = none := get_ge (by omega)
  have hDI : DA ≠ s.heap.objs.size := by omega
  have hCI : CA ≠ s.heap.objs.size := by omega
  have hlD : D ≠ DA := fun q => by rw [q, hD2] at eLD; cases eLD
  have hlC : D ≠ CA := fun q => by rw [q, hC2] at eLD; cases eLD
  have hlI : D ≠ s.heap.objs.size := fun q => by rw [q, hI] at eLD; cases eLD
  have GT : Go s₁ true s s := Go.start G
  refine listLoop_W (c := CA) (wkList (prog := PG) (w := w) (items := #[.ref x1, .ref x2]) hlI) r.h (by simp only [List.mem_cons, List.not_mem_nil, or_false, not_or]; exact ⟨hDI, hlD.symm⟩) (by simp only [List.mem_cons, List.not_mem_nil, or_false, not_or]; exact ⟨hCI, hlC.symm⟩) hne (by simp)
    (fun i (ys : List Value) s' => Go s₁ true s s' ∧ ys.length = i ∧ (∃ m, s'.heap.Ns CA m) ∧ ∀ j v', ys[j]? = some v' → ∃ u, v' = Value.int (cnt sets (if j = 0 then a else b)) u) ?_ ?_ ?_
    ⟨(GT.keep hkI).keep hk, rfl, ⟨_, hnC⟩, fun j v' e => by simp at e⟩ hD0 ⟨⟨_, hk _ _ (Heap.get?_push_size _ rfl), rfl, rfl⟩, hD.at fun o e => hk _ _ (hkI _ _ e)⟩
  · rintro i ys s' h' tk q hq' ⟨g, e1, ⟨m, hm⟩, e4⟩ hb
    rcases hq' with rfl | rfl
    · exact ⟨g.but B hI hb G, e1, ⟨m, hm.extBut hb hCI⟩, e4⟩
    · exact ⟨g.but B hD2 hb G, e1, ⟨m, hm.extBut hb hne.symm⟩, e4⟩
  · rintro i ys v' s' hi hl hv ⟨g, e1, ⟨m, hm⟩, e4⟩ hDl st' N
    obtain ⟨xa, hxa, hva, hla⟩ : ∃ xa, v' = .ref xa ∧ IsC w s.heap xa (if i = 0 then a else b) ∧ (if i = 0 then a else b).length ≤ 100 := by
      match i, hv with
      | 0, hv => cases hv; exact ⟨x1, rfl, C1, ha⟩
      | 1, hv => cases hv; exact ⟨x2, rfl, C2, hb⟩
      | i + 2, hv => cases hv
    subst hxa
    refine wpAny_storeName_local (hkl _) hm (fun h4 hn4 hs4 => ?_) (by simp only [compEnvC, relabel, hkind]; rfl)
    have g4 := g.same B hC2 hs4 G (tk := s'.toks + 1)
    refine wpAny_tests_nil ?_
    simp only [if_true]
    refine callM (nmC (by rfl) (g4.cell hcs) (methO (s := { s' with heap := h4, toks := s'.toks + 1 }) kc (g4.good.kin B) (g4.isO I) kc.m_cc F.f_cc.ty hcc (args_cons (nmL hn4 (if_pos rfl) (args_nil ⟨keeper_K F.f_cc.keep (g4.good.kin B), wpAny_call ?_⟩) (by exact hkind) (hkl _)))) (by exact hkind) (hks _)) (he CA)
    refine c_count (t := true) F kc B g4.good r hla (g4.isO I) has (g4.isC hva) fun s5 u5 g5 k5 => ?_
    refine ⟨(ExtB.of_same hs4).then (.of_keep (keepsKeep k5)), g4.trans g5, by simp [e1], ⟨_, g5.ns hn4⟩, fun j w' e => ?_⟩
    by_cases hj : j < ys.length
    · rw [List.getElem?_append_left hj] at e
      exact e4 j w' e
    · have hj' : j = i := by
        have : j < (ys ++ [Value.int (cnt sets (if i = 0 then a else b)) u5]).length := (List.getElem?_eq_some_iff.mp e).1
        simp at this
        omega
      subst hj'
      rw [List.getElem?_append_right (by omega)] at e
      simp [e1] at e
      exact ⟨u5, e.symm⟩
  · rintro ys s' hl ⟨g, e1, ⟨m, hm⟩, e4⟩ hDl
    match ys, e1, e4, hDl with
    | [v0, v1], _, e4, hDl =>
      obtain ⟨u1, rfl⟩ := e4 0 v0 rfl
      obtain ⟨u2, rfl⟩ := e4 1 v1 rfl
      exact h s' DA CA m u1 u2 g hDl hm hC2 hD2 hne
theorem min_list {D : Addr} {a b : Int} {u v : Tok} {Q : Value → Shared → Prop} (hA : A.handled = none) (hD : s.heap.IsList D #[.int a u, .int b v]) (h : ∀ h' tk t, Keep s.heap h' → Q (.int (lo a b) t) { s with heap := h', toks := tk }) :
    wpAny (model PG w) A (call (.builtin "min") [.ref D]) Q E s := by
  refine min_intList (xs := #[(a, u), (b, v)]) hA (by simpa [intItems] using hD) (by simp) fun z h' tk hz k => ?_
  unfold lo at h
  by_cases hba : b < a
  · have e : argBest (fun i j => decide (numAt #[(a, u), (b, v)] i < numAt #[(a, u), (b, v)] j)) (#[(a, u), (b, v)].size - 1) = 1 := by simp [argBest, numAt, hba]
    rw [e] at hz
    have : z = .int b v := by simpa [intItems] using hz.symm
    subst this
    have z := h h' tk v k
    rwa [if_pos hba] at z
  · have e : argBest (fun i j => decide (numAt #[(a, u), (b, v)] i < numAt #[(a, u), (b, v)] j)) (#[(a, u), (b, v)].size - 1) = 0 := by simp [argBest, numAt, hba]
    rw [e] at hz
    have : z = .int a u := by simpa [intItems] using hz.symm
    subst this
    have z := h h' tk u k
    rwa [if_neg hba] at z
end
end Mine
end

noncomputable section
open PySem PySem.Calls PySem.W PyProof.Rows Builtin Builtin.ObjectAttr
set_option maxRecDepth 100000
set_option maxHeartbeats 4000000
namespace Mine
theorem lo_min (a b : Nat) : lo (a : Int) (b : Int) = ((min a b : Nat) : Int) := by
  unfold lo
  split <;> omega
theorem assignC {M : Model} {A : Around} {E : Value → Shared → Prop} {s : Shared} {env : Env} {elt iter : Expr} {x y : Str} {px py pos spos : Pos} {ifs : List Expr} {scope : Scope} {Q : Flow → Shared → Prop}
    (hsw : swapsWith (.ListComp elt [⟨.Name x px, iter, ifs, 0⟩] scope pos) (some (.Name y py)) spos.line env = pure true)
    (h : wpAny M A (comprehension (.ListComp elt [⟨.Name x px, iter, ifs, 0⟩] scope pos) scope env (firstIterPos [⟨.Name x px, iter, ifs, 0⟩] pos) (newList []) false (PySem.eval iter env) (some (assign (.Name y py) env))) (fun _ s' => Q .next s') E s) :
    wpAny M A (exec (.Assign [.Name y py] (.ListComp elt [⟨.Name x px, iter, ifs, 0⟩] scope pos) spos) env) Q E s := by
  rw [exec_Assign_Name_used _ _ _ _ hsw]
  refine wpAny_bind (wpAny_standAt (wpAny_bind ?_))
  show wpAny _ A (do let _ ← comprehension (.ListComp elt [⟨.Name x px, iter, ifs, 0⟩] scope pos) scope env _ (newList []) false (PySem.eval iter env) (some (assign (.Name y py) env))) _ _ s
  exact wpAny_bind (wpAny_mono h (fun _ s' hq => wpAny_pure (wpAny_pure hq)) fun _ _ e => e)
section
variable {w : World} {A : Around} {s s' s₀ s₁ : Shared} {R : Result → Shared → Prop} {K : Frag} {mg mb : Str → Option Value} {n : Nat} {t : Bool} {E : Value → Shared → Prop} {o C fm fc fi : Addr} {f : Str → Option Value}
theorem c_ocall {x y : Str} {u v : Tok} {c un a b : Nat} {sets : Bool} (F : KF K) (kc : KC K C 360 fc fi) (B : Base K mg mb s₁) (G : Good s₁ s) (r : Rm A (n + 16)) (I : IsO s.heap o C f) (hf : NoShadow f) (hq : ∃ q, f "qval" = some (.int 1 q)) (has : f "as_set" = some (.bool sets))
    (hx : x.cps.size ≤ 50) (hy : y.cps.size ≤ 50) (hc : x ≠ y → x.cps.size ≠ 0 → y.cps.size ≠ 0 → Cts sets x y c un a b ∧ 0 < min a b ∧ Float64.isInf (frac c (min a b)) = false)
    (h : ∀ s' z, Go s₁ true s s' → SimOk x y (frac c (min a b)) z → R (.ok (.ret z)) s') :
    codeAny (model PG w) A (.call (.ref 365) ⟨[.ref o, .str x u, .str y v], []⟩) R s := by
  refine enterS (vs := [.str x u, .str y v]) (binds := fun D => [("self", .ref o), ("sequences", .ref D)]) F.o_call B (Go.start (t := true) G) r (fun _ _ _ _ _ _ => ⟨_, rfl, fun _ => rfl⟩) (fun _ => by rfl) fun s₂ L T E' r₂ G₂ _ kp hL hT hTL hTs gT hn hcl => ?_
  have K2 := G₂.good.kin B
  have c1 := (hcl "self" (L + 1) (by rfl)).2.2
  have hLc : L + 1 ≠ L := ne_add1 L
  have I2 := G₂.isO I
  obtain ⟨h1, h2, h3, h4, h5, h6, h7, h8, h9, h10⟩ := id hf
  show wpAny _ _ (execs [_, _, _, _, _, _, _] _) _ _ _
  -- result = self.quick_answer(*sequences)
  refine wpAny_execs_cons (wpAny_Assign_Name (selfStar kc K2 I2 F.f_quick kc.m_quick h1 (by decide) (fun q => nmC (by rfl) c1 q) (fun h' tk k q => nmL (hn.keeps k) (by rfl) q) (starTT gT two_line) fun h3' tk3 k3 => ?_))
  have G3 := G₂.keep k3 (tk := tk3)
  refine c_quick (t := true) F kc (maxO F) B G3.good r₂.le.le.le.le.le.le.le.le.le (G3.isO I) hf (by omega) (by omega) F.o_max fun s4 z g4 qz => ?_
  have G4 := G3.trans g4
  have n4 := g4.ns (hn.keeps k3)
  have c4 := g4.cell (cell_keep c1 k3)
  have T4 := g4.obj (isTab_cls (by nofun)) (k3 _ _ gT)
  refine stL n4 fun h5' n5 hs5 => ?_
  have c5 := cell_but c4 hs5.extBut hLc
  have G5 := G4.same B hL hs5 G (tk := s4.toks + 1)
  have T5 : h5'.get? T = some (tupObj [.str x u, .str y v]) := hs5.extBut _ _ hTL T4
  have K5 := G5.good.kin B
  have I5 := G5.isO I
  refine wpAny_execs_cons (wpAny_If (wpAny_isTrue_Compare1 (nmL n5 (if_pos rfl) (wpAny_Constant_none ?_))))
  rcases qz with ⟨q1, e⟩ | ⟨q1, e1, e2⟩ | ⟨e1, e2, e3⟩
  · refine isnot_none_ne (by simp) (wpAny_truthy_bool ?_)
    simp only [if_true]
    exact wpAny_execs_cons (wpAny_Return_some (nmL n5 (if_pos rfl) (h _ _ G5 (.same q1 e))))
  · refine isnot_none_ne (by simp) (wpAny_truthy_bool ?_)
    simp only [if_true]
    exact wpAny_execs_cons (wpAny_Return_some (nmL n5 (if_pos rfl) (h _ _ G5 (.empty q1 e1 e2))))
  refine isnot_none_none (wpAny_truthy_bool ?_)
  simp only [Bool.false_eq_true, if_false]
  refine wpAny_execs_nil ?_
  obtain ⟨cc, hun, hinf⟩ := hc e1 e2 e3
  -- sequences = self._get_counters(*sequences)
  refine wpAny_execs_cons (wpAny_Assign_Name (selfStar (s := { s4 with heap := h5', toks := s4.toks + 1 }) kc K5 I5 F.f_gc kc.m_gc h4 (by decide) (fun q => nmC (by rfl) c5 q) (fun h' tk k q => nmL (n5.keeps k) (by rfl) q) (starTT T5 two_line) fun h6' tk6 k6 => ?_))
  have G6 := G5.keep k6 (tk := tk6)
  refine c_gc F kc B G6.good r₂.le.le.le.le.le.le.le (G6.isO I) hf hq (by omega) (by omega) fun s7 LD x1 x2 g7 hLD C1 C2 w1 w2 nLD => ?_
  have G7 := G6.trans g7
  have n7 := g7.ns (n5.keeps k6)
  have c7 := g7.cell (cell_keep c5 k6)
  obtain ⟨oL, eL⟩ := ns_obj (n5.keeps k6)
  have hLLD : LD ≠ L := fun q => by rw [q] at nLD; have := eL.symm.trans nLD; cases this
  refine stL n7 fun h8 n8 hs8 => ?_
  have c8 := cell_but c7 hs8.extBut hLc
  have G8 := G7.same B hL hs8 G (tk := s7.toks + 1)
  have D8 := hLD.extBut hs8.extBut hLLD
  have C18 := C1.but hs8.extBut (w1.ne eL).1 (w1.ne eL).2
  have C28 := C2.but hs8.extBut (w2.ne eL).1 (w2.ne eL).2
  have hL1 := w1.ne eL
  have hL2 := w2.ne eL
  -- intersection = self._intersect_counters(*sequences)
  refine wpAny_execs_cons (wpAny_Assign_Name (selfStar (s := { s7 with heap := h8, toks := s7.toks + 1 }) kc (G8.good.kin B) (G8.isO I) F.f_ic kc.m_ic h5 (by decide) (fun q => nmC (by rfl) c8 q) (fun h' tk k q => nmL (n8.keeps k) (by rfl) q) (starD (ws := [.ref x1, .ref x2]) D8 two_line) fun h9 tk9 k9 => ?_))
  have G9 := G8.keep k9 (tk := tk9)
  have l1 := bagOf_len x
  have l2 := bagOf_len y
  refine c_inter (t := true) F B G9.good r₂.le.le.le.le.le.le (by unfold bagOf at l1; omega) (C18.ext (.of_keep k9)) (C28.ext (.of_keep k9)) fun s10 z10 g10 hz10 w10 => ?_
  have G10 := G9.trans g10
  have n10 := g10.ns (n8.keeps k9)
  have c10 := g10.cell (cell_keep c8 k9)
  obtain ⟨oL8, eL8⟩ := ns_obj (n8.keeps k9)
  have D10 := g10.list (D8.at fun o e => k9 _ _ e)
  have C110 := g10.isC (C18.ext (.of_keep k9))
  have C210 := g10.isC (C28.ext (.of_keep k9))
  refine stL n10 fun h11 n11 hs11 => ?_
  have c11 := cell_but c10 hs11.extBut hLc
  have G11 := G10.same B hL hs11 G (tk := s10.toks + 1)
  have D11 := D10.extBut hs11.extBut hLLD
  have C111 := C110.but hs11.extBut hL1.1 hL1.2
  have C211 := C210.but hs11.extBut hL2.1 hL2.2
  have Z11 := hz10.but hs11.extBut (w10.ne eL8).1 (w10.ne eL8).2
  -- intersection = self._count_counters(intersection)
  refine wpAny_execs_cons (wpAny_Assign_Name (callM (nmC (by rfl) c11 (methO (s := { s10 with heap := h11, toks := s10.toks + 1 }) kc (G11.good.kin B) (G11.isO I) kc.m_cc F.f_cc.ty h7 (args_cons (nmL n11 (by rfl) (args_nil ⟨keeper_K F.f_cc.keep (G11.good.kin B), wpAny_call ?_⟩)))))))
  refine c_count (t := true) (b := interB (bagOf x) (bagOf y)) F kc B G11.good r₂.le.le.le.le.le.le.le.le.le.le.le (by have := interB_len (bagOf x) (bagOf y); omega) (G11.isO I) has Z11 fun s12 u12 g12 k12 => ?_
  rw [cc.inter]
  have G12 := G11.trans g12
  refine stL (g12.ns n11) fun h13 n13 hs13 => ?_
  have c13 := cell_but (g12.cell c11) hs13.extBut hLc
  have G13 := G12.same B hL hs13 G (tk := s12.toks + 1)
  have D13 := (g12.list D11).extBut hs13.extBut hLLD
  have C113 := (g12.isC C111).but hs13.extBut hL1.1 hL1.2
  have C213 := (g12.isC C211).but hs13.extBut hL2.1 hL2.2
  -- sequences = [self._count_counters(s) for s in sequences]
  refine wpAny_execs_cons (assignC (by rfl) ?_)
  refine countsC (s := { s12 with heap := h13, toks := s12.toks + 1 }) F kc B G13.good r₂.le.le.le.le.le.le.le.le.le.le.le (G13.isO I) h7 has c13 D13 C113 C213 (by unfold bagOf at l1; omega) (by unfold bagOf at l2; omega) (by rfl) (by decide) rfl (by decide) (by intro _; rfl) (by intro _; rfl) (fun q => nmL n13 (by rfl) q) fun s14 DA CA m14 u1 u2 g14 hDA hCA nCA nDA hne14 => ?_
  have G14 := G13.trans g14
  have n14 := g14.ns n13
  have hCL : CA ≠ L := fun q => by rw [q] at nCA; obtain ⟨_, e⟩ := ns_obj n13; dsimp only at nCA; rw [e] at nCA; cases nCA
  have hDL : DA ≠ L := fun q => by rw [q] at nDA; obtain ⟨_, e⟩ := ns_obj n13; dsimp only at nDA; rw [e] at nDA; cases nDA
  refine wpAny_assign_Name (stL n14 fun h15 n15 hs15 => ?_)
  refine ⟨m14, hCA.sameBut hs15 hCL, fun h16 hs16 => ?_⟩
  have G15 := G14.same B hL hs15 G (tk := s14.toks + 1)
  have hCs : s.heap.get? CA = none := G13.fresh _ nCA
  have G16 := G15.same B hCs hs16 G (tk := s14.toks + 1)
  have n16 := n15.sameBut hs16 hCL.symm
  have D16 := (hDA.extBut hs15.extBut hDL).extBut hs16.extBut hne14
  -- return intersection / min(sequences)
  refine wpAny_execs_cons (wpAny_Return_some (wpAny_BinOp (nmL n16 (by rfl) (callP (nmB B G16.good F.g_min boot_min (args_cons (nmL n16 (by rfl) (args_nil ⟨keeper_bi, ?_⟩))))))))
  refine min_list r₂.h D16 fun h17 tk17 u17 k17 => ?_
  have e3' : cnt sets ((signs x).foldl Bag.add1 []) = (a : Int) := cc.sa
  have e4' : cnt sets ((signs y).foldl Bag.add1 []) = (b : Int) := cc.sb
  rw [e3', e4', lo_min]
  exact div_nat hun hinf fun r tk => h _ _ ((G16.keep k17).tok _) (.go _ e1 e2 e3)
end
end Mine
end

noncomputable section
open PySem PySem.Calls PySem.W PyProof.Rows Builtin Builtin.ObjectAttr
set_option maxRecDepth 100000
set_option maxHeartbeats 4000000
namespace Mine
abbrev two : UInt64 := 0x4000000000000000
def sor (c d : Nat) : UInt64 := Float64.div (Float64.mul two (Float64.ofInt c)) (Float64.ofInt d)
def SorOk (c d : Nat) : Prop := c < 1000 ∧ d < 1000 ∧ Float64.isInf (Float64.ofInt d) = false ∧ Float64.isZero (Float64.ofInt d) = false
section
variable {w : World} {A : Around} {s s' s₀ s₁ : Shared} {R : Result → Shared → Prop} {K : Frag} {mg mb : Str → Option Value} {n : Nat} {t : Bool} {E : Value → Shared → Prop} {o C fm fc fi : Addr} {f : Str → Option Value}
theorem small_fits {c : Nat} (h : c < 1000) : ((c : Int)).natAbs < 2 ^ 1023 := by
  rw [Int.natAbs_natCast]; exact Nat.lt_trans h (by decide +kernel)
theorem sor_div {c d : Nat} {p q : Tok} {Q : Value → Shared → Prop} (hs : SorOk c d) (h : ∀ r tk, Q (.float (sor c d) r) { s with toks := tk }) :
    wpAny (model PG w) A (binaryOp .Div (.float (Float64.mul two (Float64.ofInt c)) p) (.int d q)) Q E s := by
  refine AutoFloatOpsIf.truediv_fi ?_
  rw [if_neg (by rw [hs.2.2.1]; exact Bool.false_ne_true), if_neg (by rw [hs.2.2.2]; exact Bool.false_ne_true)]
  exact h _ _
theorem sumGen {env : Env} {scope : Scope} {ps pa px pc pt pi pos : Pos} {cs D x1 x2 : Addr} {a b : Bag} {sets : Bool} {pl : Addr → Value → Sem Bool} {Q Q' : Value → Shared → Prop} (F : KF K) (kc : KC K C fm fc fi) (B : Base K mg mb s₁) (G : Good s₁ s) (r : Rm A (n + 5)) (I : IsO s.heap o C f)
    (hf : f "_count_counters" = none) (has : f "as_set" = some (.bool sets)) (hcs : s.heap.IsCell cs (some (.ref o))) (hD : s.heap.IsList D #[.ref x1, .ref x2]) (C1 : IsC w s.heap x1 a) (C2 : IsC w s.heap x2 b) (ha : a.length ≤ 100) (hb : b.length ≤ 100)
    (ht : (300, 296, pos) ∈ TT) (hc : env.code = .ref 300) (hg : env.globals = mainGlobals) (hco : scope.isCoroutine = false) (hkind : scope.kind = .function) (hclos : closureFor scope env = pure [(("self" : Str), cs)]) (hcell : ∀ y ∈ scope.names, y.2 ≠ .cell) (h0 : scope.names.lookup (".0" : Str) = some NameKind.local)
    (hx : scope.names.lookup ("s" : Str) = some .local)
    (hks : ∀ CA code, (genEnv scope [(("self" : Str), cs)] CA code builtinsNs env).kindOf "self" = some .free) (hkl : ∀ CA code, (genEnv scope [(("self" : Str), cs)] CA code builtinsNs env).kindOf "s" = some .local)
    (hseq : ∀ {Q : Value → Shared → Prop}, Q (.ref D) s → wpAny (model PG w) A (PySem.eval (.Name "sequences" pi) env) Q E s)
    (hQ : ∀ a s₅, wpAny (model PG w) A (call (.builtin "sum") [.ref a]) Q' E s₅ → Q (.ref a) s₅)
    (h : ∀ s' u, Go s₁ true s s' → Q' (.int (cnt sets a + cnt sets b) u) s')
    (he : ∀ CA code, PySem.eval (.Call (.Attribute (.Name "self" ps) "_count_counters" pa) [.Name "s" px] [] pc) (genEnv scope [(("self" : Str), cs)] CA code builtinsNs env) = (do
      let ov ← PySem.eval (.Name "self" ps) (genEnv scope [(("self" : Str), cs)] CA code builtinsNs env)
      standAt pa.atName
      let (f, first) ← holding [ov] (getMethod ov "_count_counters" (pl CA code))
      callWith pc f first (backTo pc (starEach [.Name "s" px] (genEnv scope [(("self" : Str), cs)] CA code builtinsNs env))) (backToKw pc (keywordEach [] (genEnv scope [(("self" : Str), cs)] CA code builtinsNs env)))) := by intro _ _; rfl) :
    wpAny (model PG w) A (PySem.eval (.GeneratorExp (.Call (.Attribute (.Name "self" ps) "_count_counters" pa) [.Name "s" px] [] pc) [⟨.Name "s" pt, .Name "sequences" pi, [], 0⟩] scope pos) env) Q E s := by
  refine gen_eval (fun i v => ∃ u, v = Value.int (cnt sets (if i = 0 then a else b)) u) F B G ht hc hg r.h r.depth hco hclos hcell h0 hx hkind (hseq (wpAny_pyIter_list hD ?_))
  obtain ⟨oLD, eLD⟩ := list_lt hD
  have GT : Go s₁ true s s := Go.start G
  have hI : s.heap.get? s.heap.objs.size = none := get_size _
  have hlI : D ≠ s.heap.objs.size := fun q => by rw [q, hI] at eLD; cases eLD
  have hsz : (s.heap.push { cls := .type "list_iterator", data := .fields #[.ref D, .int 0 0] }).objs.size = s.heap.objs.size + 1 := Heap.size_push ..
  have hP : ∃ ps, s.heap.get? 296 = some { cls := .none, data := .fields ps } := by
    obtain ⟨ps, _, ⟨_, e⟩, _⟩ := G.tabs _ ht
    exact ⟨ps, e⟩
  obtain ⟨tps, hP⟩ := hP
  have hD2 : D ≠ 296 := fun q => by
    obtain ⟨ob, e, c', _⟩ := hD
    rw [q, hP] at e; cases e; cases c'
  have hI2 : s.heap.objs.size ≠ 296 := fun q => by rw [← q, hI] at hP; cases hP
  refine ⟨_, _, _, _, _, rfl, GT.keep (Keep.push _ _), hI, wkList (items := #[.ref x1, .ref x2]) hlI, ⟨⟨_, Heap.get?_push_size _ rfl, rfl, rfl⟩, hD.push _⟩, fun b' hb' => ?_, ?_, ?_⟩
  · simp only [List.mem_cons, List.not_mem_nil, or_false] at hb'
    rcases hb' with rfl | rfl
    · exact ⟨hsz ▸ Nat.lt_succ_self _, hI2⟩
    · exact ⟨hsz ▸ Nat.lt_succ_of_lt (Heap.lt_size eLD), hD2⟩
  · intro s₄ s' C' code m i v' A' E'' g4 hk e1 e2 e3 hp hn' hm
    have hx4 : Ext s.heap s'.heap := fun b' ob z e => by
      refine hk b' ob (fun q => ?_) (g4.Ext b' ob z (Heap.get?_push_of_some _ e))
      rw [q, hI] at e; cases e
    have ne' : ∀ (b' : Addr) ob, s.heap.get? b' = some ob → b' ≠ s.heap.objs.size := fun b' ob e q => by rw [q, hI] at e; cases e
    have tabs' : ∀ t' ∈ TT, TabOk s'.heap t'.1 t'.2.1 t'.2.2 := fun t' ht' => by
      obtain ⟨q1, q2⟩ := (G.tabs t' ht').ne
      refine (g4.good.tabs t' ht').extBut (a := s.heap.objs.size) (fun b' ob hb' e => hk b' ob hb' e) (fun q => q1 (q ▸ hI)) (fun q => q2 (q ▸ hI))
    have lim' : s'.heap.NoLimit := let ⟨mc, hn, rr⟩ := G.lim B; ⟨mc, hx4.ns hn, rr⟩
    have B' : Base K mg mb s' := ⟨fun a' ob e => hx4 _ _ (B.notab a' ob e) (G.kin B a' ob e), B.notab, hx4.ns (G.g B), hx4.ns (G.b B), B.bi, lim', tabs'⟩
    have r' : Rm A' (n + 4) := r.any (e1.trans r.h.symm) (by omega) (by omega)
    obtain ⟨xa, hxa, hva, hla⟩ : ∃ xa, v' = .ref xa ∧ IsC w s.heap xa (if i = 0 then a else b) ∧ (if i = 0 then a else b).length ≤ 100 := by
      match i, hp with
      | 0, hv => cases hv; exact ⟨x1, rfl, C1, ha⟩
      | 1, hv => cases hv; exact ⟨x2, rfl, C2, hb⟩
      | i + 2, hv => cases hv
    subst hxa
    refine callM (nmF (by rfl) (hx4.cell hcs) (methO kc B'.kin (I.ext hx4) kc.m_cc F.f_cc.ty hf (args_cons (nmL hn' hm (args_nil ⟨keeper_K F.f_cc.keep B'.kin, wpAny_call ?_⟩) (by exact hkind) (hkl _ _)))) (by exact hkind) (hks _ _)) (he _ _)
    exact c_count (t := true) F kc B' (Good.init tabs') r' hla (I.ext hx4) has (hva.ext hx4) fun s5 u5 g5 k5 => ⟨⟨u5, rfl⟩, k5⟩
  · intro a' s₅ g fp' wr' St' G5 W hst hfp hwr
    have W' := W.in4_1
    refine hQ a' s₅ (call_sum_walkAnyS (W'.self 0 _ _ _ hst ⟨a', _, _, _, _, _, _, fun i => cnt sets (if i = 0 then a else b), rfl, W', hst, hfp, (fun i v hv => hv), fun s6 t' hm => ?_⟩))
    have e : preSum (fun i => cnt sets (if i = 0 then a else b)) (#[Value.ref x1, Value.ref x2] : Array Value).size = cnt sets a + cnt sets b := by
      show preSum (fun i => cnt sets (if i = 0 then a else b)) 2 = _
      simp [preSum]
    rw [e]
    exact h _ _ (G5.moved B G hm hwr)

theorem c_scall {x y : Str} {u v : Tok} {c un a b : Nat} {sets : Bool} (F : KF K) (kc : KC K C 294 fc fi) (B : Base K mg mb s₁) (G : Good s₁ s) (r : Rm A (n + 16)) (I : IsO s.heap o C f) (hf : NoShadow f) (hq : ∃ q, f "qval" = some (.int 1 q)) (has : f "as_set" = some (.bool sets))
    (hx : x.cps.size ≤ 50) (hy : y.cps.size ≤ 50) (hc : x ≠ y → x.cps.size ≠ 0 → y.cps.size ≠ 0 → Cts sets x y c un a b ∧ 0 < a + b ∧ SorOk c (a + b))
    (h : ∀ s' z, Go s₁ true s s' → SimOk x y (sor c (a + b)) z → R (.ok (.ret z)) s') :
    codeAny (model PG w) A (.call (.ref 301) ⟨[.ref o, .str x u, .str y v], []⟩) R s := by
  refine enterS (vs := [.str x u, .str y v]) (binds := fun D => [("self", .ref o), ("sequences", .ref D)]) F.s_call B (Go.start (t := true) G) r (fun _ _ _ _ _ _ => ⟨_, rfl, fun _ => rfl⟩) (fun _ => by rfl) fun s₂ L T E' r₂ G₂ _ kp hL hT hTL hTs gT hn hcl => ?_
  have K2 := G₂.good.kin B
  have c1 := (hcl "self" (L + 1) (by rfl)).2.2
  have hLc : L + 1 ≠ L := ne_add1 L
  have I2 := G₂.isO I
  obtain ⟨h1, h2, h3, h4, h5, h6, h7, h8, h9, h10⟩ := id hf
  show wpAny _ _ (execs [_, _, _, _, _, _, _] _) _ _ _
  -- result = self.quick_answer(*sequences)
  refine wpAny_execs_cons (wpAny_Assign_Name (selfStar kc K2 I2 F.f_quick kc.m_quick h1 (by decide) (fun q => nmC (by rfl) c1 q) (fun h' tk k q => nmL (hn.keeps k) (by rfl) q) (starTT gT two_line) fun h3' tk3 k3 => ?_))
  have G3 := G₂.keep k3 (tk := tk3)
  refine c_quick (t := true) F kc (maxS F) B G3.good r₂.le.le.le.le.le.le.le.le.le (G3.isO I) hf (by omega) (by omega) F.s_max fun s4 z g4 qz => ?_
  have G4 := G3.trans g4
  have n4 := g4.ns (hn.keeps k3)
  have c4 := g4.cell (cell_keep c1 k3)
  have T4 := g4.obj (isTab_cls (by nofun)) (k3 _ _ gT)
  refine stL n4 fun h5' n5 hs5 => ?_
  have c5 := cell_but c4 hs5.extBut hLc
  have G5 := G4.same B hL hs5 G (tk := s4.toks + 1)
  have T5 : h5'.get? T = some (tupObj [.str x u, .str y v]) := hs5.extBut _ _ hTL T4
  have K5 := G5.good.kin B
  have I5 := G5.isO I
  refine wpAny_execs_cons (wpAny_If (wpAny_isTrue_Compare1 (nmL n5 (if_pos rfl) (wpAny_Constant_none ?_))))
  rcases qz with ⟨q1, e⟩ | ⟨q1, e1, e2⟩ | ⟨e1, e2, e3⟩
  · refine isnot_none_ne (by simp) (wpAny_truthy_bool ?_)
    simp only [if_true]
    exact wpAny_execs_cons (wpAny_Return_some (nmL n5 (if_pos rfl) (h _ _ G5 (.same q1 e))))
  · refine isnot_none_ne (by simp) (wpAny_truthy_bool ?_)
    simp only [if_true]
    exact wpAny_execs_cons (wpAny_Return_some (nmL n5 (if_pos rfl) (h _ _ G5 (.empty q1 e1 e2))))
  refine isnot_none_none (wpAny_truthy_bool ?_)
  simp only [Bool.false_eq_true, if_false]
  refine wpAny_execs_nil ?_
  obtain ⟨cc, hun, hsor⟩ := hc e1 e2 e3
  -- sequences = self._get_counters(*sequences)
  refine wpAny_execs_cons (wpAny_Assign_Name (selfStar (s := { s4 with heap := h5', toks := s4.toks + 1 }) kc K5 I5 F.f_gc kc.m_gc h4 (by decide) (fun q => nmC (by rfl) c5 q) (fun h' tk k q => nmL (n5.keeps k) (by rfl) q) (starTT T5 two_line) fun h6' tk6 k6 => ?_))
  have G6 := G5.keep k6 (tk := tk6)
  refine c_gc F kc B G6.good r₂.le.le.le.le.le.le.le (G6.isO I) hf hq (by omega) (by omega) fun s7 LD x1 x2 g7 hLD C1 C2 w1 w2 nLD => ?_
  have G7 := G6.trans g7
  have n7 := g7.ns (n5.keeps k6)
  have c7 := g7.cell (cell_keep c5 k6)
  obtain ⟨oL, eL⟩ := ns_obj (n5.keeps k6)
  have hLLD : LD ≠ L := fun q => by rw [q] at nLD; have := eL.symm.trans nLD; cases this
  refine stL n7 fun h8 n8 hs8 => ?_
  have c8 := cell_but c7 hs8.extBut hLc
  have G8 := G7.same B hL hs8 G (tk := s7.toks + 1)
  have D8 := hLD.extBut hs8.extBut hLLD
  have C18 := C1.but hs8.extBut (w1.ne eL).1 (w1.ne eL).2
  have C28 := C2.but hs8.extBut (w2.ne eL).1 (w2.ne eL).2
  have hL1 := w1.ne eL
  have hL2 := w2.ne eL
  -- count = sum((self._count_counters(s) for s in sequences))
  have e3' : cnt sets ((signs x).foldl Bag.add1 []) = (a : Int) := cc.sa
  have e4' : cnt sets ((signs y).foldl Bag.add1 []) = (b : Int) := cc.sb
  have l1 := bagOf_len x
  have l2 := bagOf_len y
  have I8 := G8.isO I
  refine wpAny_execs_cons (wpAny_Assign_Name (callP (nmB B G8.good F.g_sum boot_sum (args_cons ?_))))
  refine sumGen (s := { s7 with heap := h8, toks := s7.toks + 1 }) (hf := h7) (sets := sets) F kc B G8.good (r := r₂.le.le.le.le.le.le.le.le) I8 has c8 D8 C18 C28 (by unfold bagOf at l1; omega) (by unfold bagOf at l2; omega) (by simp [TT]) rfl rfl rfl rfl (by rfl) (by decide) (by rfl) (by rfl) (by intro _ _; rfl) (by intro _ _; rfl) (fun q => nmL n8 (by rfl) q) (fun a s₅ g5 => args_nil ⟨keeper_bi, g5⟩) fun s8b u8b g8b => ?_
  rw [e3', e4']
  have G8b := G8.trans g8b
  refine stL (g8b.ns n8) fun h8c n8c hs8c => ?_
  have c8c := cell_but (g8b.cell c8) hs8c.extBut hLc
  have G8c := G8b.same B hL hs8c G (tk := s8b.toks + 1)
  have D8c := (g8b.list D8).extBut hs8c.extBut hLLD
  have C18c := (g8b.isC C18).but hs8c.extBut hL1.1 hL1.2
  have C28c := (g8b.isC C28).but hs8c.extBut hL2.1 hL2.2
  -- intersection = self._intersect_counters(*sequences)
  refine wpAny_execs_cons (wpAny_Assign_Name (selfStar (s := { s8b with heap := h8c, toks := s8b.toks + 1 }) kc (G8c.good.kin B) (G8c.isO I) F.f_ic kc.m_ic h5 (by decide) (fun q => nmC (by rfl) c8c q) (fun h' tk k q => nmL (n8c.keeps k) (by rfl) q) (starD (ws := [.ref x1, .ref x2]) D8c two_line) fun h9 tk9 k9 => ?_))
  have G9 := G8c.keep k9 (tk := tk9)
  refine c_inter (t := true) F B G9.good r₂.le.le.le.le.le.le (by unfold bagOf at l1; omega) (C18c.ext (.of_keep k9)) (C28c.ext (.of_keep k9)) fun s10 z10 g10 hz10 w10 => ?_
  have G10 := G9.trans g10
  have n10 := g10.ns (n8c.keeps k9)
  have c10 := g10.cell (cell_keep c8c k9)
  obtain ⟨oL8, eL8⟩ := ns_obj (n8c.keeps k9)
  have D10 := g10.list (D8c.at fun o e => k9 _ _ e)
  have C110 := g10.isC (C18c.ext (.of_keep k9))
  have C210 := g10.isC (C28c.ext (.of_keep k9))
  refine stL n10 fun h11 n11 hs11 => ?_
  have c11 := cell_but c10 hs11.extBut hLc
  have G11 := G10.same B hL hs11 G (tk := s10.toks + 1)
  have D11 := D10.extBut hs11.extBut hLLD
  have C111 := C110.but hs11.extBut hL1.1 hL1.2
  have C211 := C210.but hs11.extBut hL2.1 hL2.2
  have Z11 := hz10.but hs11.extBut (w10.ne eL8).1 (w10.ne eL8).2
  -- intersection = self._count_counters(intersection)
  refine wpAny_execs_cons (wpAny_Assign_Name (callM (nmC (by rfl) c11 (methO (s := { s10 with heap := h11, toks := s10.toks + 1 }) kc (G11.good.kin B) (G11.isO I) kc.m_cc F.f_cc.ty h7 (args_cons (nmL n11 (by rfl) (args_nil ⟨keeper_K F.f_cc.keep (G11.good.kin B), wpAny_call ?_⟩)))))))
  refine c_count (t := true) (b := interB (bagOf x) (bagOf y)) F kc B G11.good r₂.le.le.le.le.le.le.le.le.le.le.le (by have := interB_len (bagOf x) (bagOf y); omega) (G11.isO I) has Z11 fun s12 u12 g12 k12 => ?_
  rw [cc.inter]
  have G12 := G11.trans g12
  refine stL (g12.ns n11) fun h13 n13 hs13 => ?_
  have c13 := cell_but (g12.cell c11) hs13.extBut hLc
  have G13 := G12.same B hL hs13 G (tk := s12.toks + 1)
  have D13 := (g12.list D11).extBut hs13.extBut hLLD
  have C113 := (g12.isC C111).but hs13.extBut hL1.1 hL1.2
  have C213 := (g12.isC C211).but hs13.extBut hL2.1 hL2.2
  -- return 2.0 * intersection / count
  refine wpAny_execs_cons (wpAny_Return_some (wpAny_BinOp (wpAny_BinOp (PySem.wpAny_Constant_float (nmL n13 (by rfl) (mul_fi_fits (small_fits hsor.1) ?_))))))
  refine nmL n13 (by rfl) ?_
  have e5 : ((a : Int) + (b : Int)) = ((a + b : Nat) : Int) := by omega
  rw [e5]
  exact sor_div hsor fun r tk => h _ _ (G13.tok _) (.go _ e1 e2 e3)
end
end Mine
end

noncomputable section
open PySem PySem.Calls PySem.W PyProof.Rows Builtin Builtin.ObjectAttr
set_option maxRecDepth 100000
set_option maxHeartbeats 4000000
namespace Mine
def ZSt (z TI TO i1 i2 l1 l2 : Addr) (xs ys : Array Value) (i : Nat) (h : Heap) : Prop :=
  IsZip h z TI TO .none ∧ IsPair h TI (.ref i1) (.ref i2) ∧ (∃ a b, IsPair h TO a b) ∧ h.IsListIter i1 l1 i ∧ h.IsListIter i2 l2 i ∧ h.IsList l1 xs ∧ h.IsList l2 ys
section
variable {w : World} {A : Around} {s s' s₀ s₁ : Shared} {R : Result → Shared → Prop}
theorem for_Z {z TI TO i1 i2 l1 l2 : Addr} {xs ys : Array Value} {xa xb : Str} {pa pb pt : Pos} {kt : Nat} {body : List Stmt} {env : Env} (D : ZipApart z TI TO i1 i2 l1 l2) (hA : A.handled = none)
    (J : Nat → Shared → Prop) (hst : ∀ i s, J i s → ZSt z TI TO i1 i2 l1 l2 xs ys i s.heap)
    (step : ∀ i s x y h' tk, J i s → xs[i]? = some x → ys[i]? = some y → ZSt z TI TO i1 i2 l1 l2 xs ys (i + 1) h' → (∀ b o, b ∉ [z, TO, i1, i2] → s.heap.get? b = some o → h'.get? b = some o) → ∀ N,
      wpAny (model PG w) A (storeName env xa x) (fun _ s₂ => wpAny (model PG w) A (storeName env xb y) (fun _ s₃ => wpAny (model PG w) A (execs body env) (fun f s₄ => match f with
        | .next | .cont => J (i + 1) s₄ | .brk => R (.ok .next) s₄ | .ret v => R (.ok (.ret v)) s₄) N s₃) N s₂) N { s with heap := h', toks := tk })
    (fin : ∀ s h' tk, J (min xs.size ys.size) s → (∀ b o, b ∉ [z, TO, i1, i2] → s.heap.get? b = some o → h'.get? b = some o) → R (.ok .next) { s with heap := h', toks := tk })
    (h : J 0 s) : codeAny (model PG w) A (.forLoop (.Tuple [.Name xa pa, .Name xb pb] kt pt) (.ref z) body [] env) R s := by
  have W := WalksT.zip2 (prog := PG) (w := w) hA z TI TO i1 i2 l1 l2 D xs ys
  refine codeAny_forLoop_any (fun k s => ∃ i, i ≤ min xs.size ys.size ∧ k = min xs.size ys.size - i ∧ J i s) ?_ (min xs.size ys.size) ⟨0, Nat.zero_le _, rfl, h⟩
  rintro k s ⟨i, hi, rfl, j⟩
  by_cases e : i = min xs.size ys.size
  · subst e
    refine W.done s _ _ (hst _ _ j) fun h' tk hk => ?_
    exact wpAny_execs_nil (fin s h' tk j hk)
  · have hlt : i < min xs.size ys.size := Nat.lt_of_le_of_ne hi e
    refine W.item i s _ _ hlt (hst _ _ j) fun T vals h' tk hv hT hTup hmid hk => ?_
    obtain ⟨x, y, hx, hy, rfl⟩ := hv
    have hTw := W.apart i T h' hmid
    refine W.go _ _ _ i T _ _ _ hmid fun h2 hst2 hk2 => ?_
    have hTup2 : h2.IsTuple T #[x, y] := by
      obtain ⟨ob, e1, e2⟩ := hTup
      exact ⟨ob, hk2 T ob hTw e1, e2⟩
    refine wpAny_assign_Tuple hA hTup2 rfl rfl fun h3 hx3 => ?_
    have hx3' : Keep h2 h3 := fun b o eb => hx3 b o (Nat.ne_of_lt (Heap.lt_size eb)) eb
    have hst3 := W.frame _ _ h3 hst2 fun b _ o eb => hx3' b o eb
    show wpAny _ A (do holding [y] (assign (.Name xa pa) env x); do holding [] (assign (.Name xb pb) env y); pure ()) _ _ _
    refine wpAny_bind (wpAny_holding (wpAny_assign_Name (wpAny_mono (step i s x y h3 tk j hx hy hst3 (fun b o hb eb => hx3' b o (hk2 b o hb (hk b o hb eb))) _) (fun _ s₂ z1 => ?_) fun _ _ q => q)))
    refine wpAny_bind (wpAny_holding (wpAny_assign_Name (wpAny_mono z1 (fun _ s₃ z2 => wpAny_pure ?_) fun _ _ q => q)))
    refine wpAny_mono z2 (fun f s₄ q => ?_) fun _ _ q => q
    cases f with
    | next => exact ⟨min xs.size ys.size - (i + 1), by omega, i + 1, hlt, rfl, q⟩
    | cont => exact ⟨min xs.size ys.size - (i + 1), by omega, i + 1, hlt, rfl, q⟩
    | brk => exact q
    | ret v => exact q
end
end Mine
end

noncomputable section
open PySem PySem.Calls PySem.W PyProof.Rows Builtin Builtin.ObjectAttr
set_option maxRecDepth 100000
set_option maxHeartbeats 4000000
namespace Mine
inductive NV where
  | i (n : Int)
  | f (b : UInt64)
def NV.val : NV → Tok → Value
  | .i n, u => .int n u
  | .f b, u => .float b u
def NV.mul : NV → Int → NV
  | .i k, d => .i (k * d)
  | .f b, d => .f (Float64.mul b (Float64.ofInt d))
def NV.add : NV → NV → NV
  | .i a, .i b => .i (a + b)
  | .i a, .f b => .f (Float64.add (Float64.ofInt a) b)
  | .f a, .f b => .f (Float64.add a b)
  | .f a, .i b => .f (Float64.add a (Float64.ofInt b))
/-- the sums that Tversky makes -/
def tsum (k1 k2 : NV) (c a b : Nat) : Nat → NV
  | 0 => .i c
  | 1 => (NV.i c).add (k1.mul (a - c))
  | _ => ((NV.i c).add (k1.mul (a - c))).add (k2.mul (b - c))
inductive SameKind : NV → NV → Prop
  | i (a b : Int) : SameKind (.i a) (.i b)
  | f (a b : UInt64) : SameKind (.f a) (.f b)
/-- what it then gives -/
inductive TvOk (k1 k2 : NV) (c a b : Nat) : UInt64 → Prop
  | int (m : Nat) : tsum k1 k2 c a b 2 = .i m → 0 < m → Float64.isInf (frac c m) = false → TvOk k1 k2 c a b (frac c m)
  | flt (x : UInt64) : tsum k1 k2 c a b 2 = .f x → Float64.isZero x = false → TvOk k1 k2 c a b (Float64.div (Float64.ofInt c) x)
section
variable {w : World} {A : Around} {s s' s₀ s₁ : Shared} {R : Result → Shared → Prop} {K : Frag} {mg mb : Str → Option Value} {n : Nat} {t : Bool} {E : Value → Shared → Prop} {o C fm fc fi : Addr} {f : Str → Option Value}
theorem iadd_if {n : Int} {a : UInt64} {u t : Tok} {Q : Value → Shared → Prop} (hfit : n.natAbs < 2 ^ 1023) (h : Q (.float (Float64.add (Float64.ofInt n) a) s.toks) { s with toks := s.toks + 1 }) :
    wpAny (model PG w) A (inplaceOp .Add (.int n u) (.float a t)) Q E s := by
  unfold inplaceOp
  refine wpAny_holding ?_
  have hfi : fillsInplaceSlot (.type "int") Operator.Add.info.2 (Operator.Add == .Add) = pure false := by
    unfold fillsInplaceSlot
    show (typeLookup (.type "int") (dunderI "add") >>= fun fi => pure (fi.isSome && !isSeqSlot fi)) = pure false
    rw [F.noI_int_add]; rfl
  refine wpAny_bind (wpAny_typeOf (typeIs_int s n u) (wpAny_bind (wpAny_of_eq hfi ?_)))
  show wpAny _ A (if false = true then _ else _) Q E s
  rw [if_neg Bool.false_ne_true]
  have hm : (Made.float (Float64.add (Float64.ofInt n) a)).post Q s := h
  refine wpAny_bind (wpAny_binaryOp1_two (T := "int") (U := "float") (nm := Operator.Add.info.2) (by decide) (typeIs_int s n u) (fun s' => typeIs_float s' a t) F.fills_int_add F.fills_float_add F.sub_float_int F.slot_int_add F.slot_float_radd ?_)
  refine call_gives (Q := fun v s₁ => _) F.slot_int_add (typeIs_int s n u) F.entry_int_add (F.args_int_add_2 _ _) (AutoIntG3.int___add___int_float_0 n u a t) (.inr ⟨rfl, ?_⟩)
  exact wpAny_mono (call_gives F.slot_float_radd (typeIs_float s a t) F.entry_float_radd (F.args_float_radd_2 _ _) (AutoFloatG5.float___radd___float_int_1 a t n u (Float64.ofInt_fits hfit)) (Made.post_and (m := .float (Float64.add (Float64.ofInt n) a)) trivial hm)) (fun v s₂ hv => ⟨hv.1, wpAny_pure hv.2⟩) fun _ _ x => x
theorem nvMul {k : NV} {d : Int} {u v : Tok} {Q : Value → Shared → Prop} (hk : ∀ n, k = .i n → n.natAbs ≤ 100) (hd : d.natAbs < 1000) (h : ∀ p tk, Q ((k.mul d).val p) { s with toks := tk }) : wpAny (model PG w) A (binaryOp .Mult (k.val u) (.int d v)) Q E s := by
  cases k with
  | i n => have hn := hk n rfl; exact mul_int (h _ _)
  | f b => exact mul_fi_fits (Nat.lt_trans hd (by decide +kernel)) (h _ _)
theorem nvAdd {a b : NV} {u v : Tok} {Q : Value → Shared → Prop} (hab : (∃ x y, a = .i x ∧ b = .i y) ∨ (∃ x y, a = .i x ∧ b = .f y ∧ x.natAbs < 2 ^ 1023) ∨ (∃ x y, a = .f x ∧ b = .f y)) (h : ∀ p tk, Q ((a.add b).val p) { s with toks := tk }) :
    wpAny (model PG w) A (inplaceOp .Add (a.val u) (b.val v)) Q E s := by
  rcases hab with ⟨x, y, rfl, rfl⟩ | ⟨x, y, rfl, rfl, hx⟩ | ⟨x, y, rfl, rfl⟩
  · exact iadd_int (h _ _)
  · exact iadd_if hx (h _ _)
  · exact iadd_float (h _ _)
theorem nvDiv {k1 k2 : NV} {c a b : Nat} {fl : UInt64} {u v : Tok} {Q : Value → Shared → Prop} (hc : c < 1000) (ht : TvOk k1 k2 c a b fl) (h : ∀ p tk, Q (.float fl p) { s with toks := tk }) :
    wpAny (model PG w) A (binaryOp .Div (.int c u) ((tsum k1 k2 c a b 2).val v)) Q E s := by
  rcases ht with ⟨m, e, hm, hf⟩ | ⟨x, e, hz⟩
  · rw [e]; exact div_nat hm hf h
  · rw [e]
    refine AutoFloatOps.truediv_if_2 (Float64.ofInt_fits (small_fits hc)) (by rw [hz]; exact Bool.false_ne_true) ?_
    exact h _ _
end
end Mine
end

noncomputable section
open PySem PySem.Calls PySem.W PyProof.Rows Builtin Builtin.ObjectAttr
set_option maxRecDepth 100000
set_option maxHeartbeats 4000000
namespace Mine
/-- the weights that a Tversky holds -/
inductive KsOk (h : Heap) : Option Value → NV → NV → Prop
  | none : KsOk h (some .none) (.i 1) (.i 1)
  | list (KL : Addr) (k1 k2 : NV) (u1 u2 : Tok) : h.IsList KL #[k1.val u1, k2.val u2] → SameKind k1 k2 → (∀ n, k1 = .i n → n.natAbs ≤ 100) → (∀ n, k2 = .i n → n.natAbs ≤ 100) → KsOk h (some (.ref KL)) k1 k2
theorem KsOk.ext {h h' : Heap} {v : Option Value} {k1 k2 : NV} (x : KsOk h v k1 k2) (e : Ext h h') : KsOk h' v k1 k2 := by
  cases x with
  | none => exact .none
  | list KL _ _ u1 u2 hl a b c => exact .list KL _ _ u1 u2 (e.list hl) a b c
theorem KsOk.same {h : Heap} {v : Option Value} {k1 k2 : NV} (x : KsOk h v k1 k2) : SameKind k1 k2 ∧ (∀ n, k1 = .i n → n.natAbs ≤ 100) ∧ (∀ n, k2 = .i n → n.natAbs ≤ 100) := by
  cases x with
  | none => exact ⟨.i 1 1, fun n e => by cases e; decide, fun n e => by cases e; decide⟩
  | list KL _ _ u1 u2 hl a b c => exact ⟨a, b, c⟩
section
variable {w : World} {A : Around} {s s' s₀ s₁ : Shared} {R : Result → Shared → Prop} {K : Frag} {mg mb : Str → Option Value} {n : Nat} {t : Bool} {E : Value → Shared → Prop} {o C fm fc fi : Addr} {f : Str → Option Value}
theorem mul_one {l : Addr} {u1 u : Tok} {Q : Value → Shared → Prop} (hl : s.heap.get? l = some { cls := .type "list", data := .seq #[.int 1 u1] })
    (h : ∀ h', Keep s.heap h' → h'.IsList s.heap.objs.size #[.int 1 u1, .int 1 u1] → Q (.ref s.heap.objs.size) { s with heap := h' }) :
    wpAny (model PG w) A (binaryOp .Mult (.ref l) (.int 2 u)) Q E s := by
  refine wpAny_binaryOp_repeat_ref (T := "list") (U := "int") (by decide) ⟨_, hl, rfl⟩ (fun s' => typeIs_int s' 2 u) noFill_list_mul F.fills_int_mul F.slot_int_rmul repeat_list F.slot_int_index.lookup
    (call_meets F.slot_int_rmul (typeIs_int s 2 u) F.entry_int_rmul (F.args_int_rmul_2 _ _) (int___rmul___int_list 2 u l #[.int 1 u1] 0)
      ⟨hl, rfl, ⟨_, hl, rfl⟩, call_meets F.slot_list_mul ⟨_, hl, rfl⟩ F.entry_list_mul (F.args_list_mul_2 _ _)
        (AutoListH.list___mul___list_int_3 l #[.int 1 u1] 0 2 u (by decide) (by show ¬ (1 * 2 > (2 ^ 63 - 1) / 8); decide) (by show ¬ (Builtin.List.listTooLong (1 * 2)) = true; decide)) ⟨hl, ?_⟩⟩)
  exact h _ (Keep.push _ _) ⟨_, Heap.get?_push_size _ rfl, rfl, 0, rfl⟩
theorem sliceList {env : Env} {value : PySem.Expr} {lower upper : Option PySem.Expr} {p pos : Pos} {Q : Value → Shared → Prop}
    (h : wpAny (model PG w) A (PySem.eval value env) (fun o s₁ => wpAny (model PG w) A (evalPart lower env) (fun vl s₂ => wpAny (model PG w) A (evalPart upper env) (fun vu s₃ =>
      ∃ l items lo hi, o = .ref l ∧ s₃.heap.IsList l items ∧ items.size ≤ sizeLine ∧ IsPart vl lo ∧ IsPart vu hi ∧
        Q (.ref (s₃.heap.objs.size + 1)) { s₃ with heap := (s₃.heap.push { cls := .type "slice", data := .fields #[vl, vu, .none] }).push { cls := .type "list", data := .seq (slicePick items lo hi none) } }) E s₂) E s₁) E s) :
    wpAny (model PG w) A (PySem.eval (.Subscript value (.Slice lower upper none p) pos) env) Q E s := by
  rw [eval_Subscript]
  refine wpAny_bind (wpAny_mono h (fun o s₁ h₁ => wpAny_bind (wpAny_holding (wpAny_Slice (wpAny_mono h₁ (fun vl s₂ h₂ => wpAny_mono h₂ (fun vu s₃ h₃ => ?_) fun _ _ e => e) fun _ _ e => e)))) fun _ _ e => e)
  obtain ⟨l, items, lo, hi, rfl, hl, hsz, pl, pu, hQ⟩ := h₃
  rw [evalPart_none]
  refine wpAny_pure (wpAny_bind (wpAny_standAt (wpAny_bind ?_)))
  have hT : ({ s₃ with heap := s₃.heap.push { cls := .type "slice", data := .fields #[vl, vu, .none] } } : Shared).TypeIs (.ref l) "list" := (hl.push _).typeIs
  rw [getitemInPython_of_ne hT.not_modules]
  refine wpAny_bind (wpAny_specialOf hT list_getitem_lookup (wpAny_pure (wpAny_bind ?_)))
  show wpAny _ A (operate [_, .ref l] (getItem (.ref l) _)) _ _ _
  refine wpAny_operating (wpAny_getItem_list_slice (hl.push _) (Heap.IsSliceOf.new ..) pl pu .none (by simp) ?_ hsz)
  rw [Heap.size_push]
  exact wpAny_bind (wpAny_letTemporaryGo (wpAny_pure hQ))
theorem Go.many {s₅ : Shared} {wr : List Addr} {h' : Heap} {tk : Nat} (x : Go s₁ t s₀ s₅) (B : Base K mg mb s₁) (G : Good s₁ s₀) (m : ∀ b o, b ∉ wr → s₅.heap.get? b = some o → h'.get? b = some o) (hw : ∀ a ∈ wr, s₀.heap.get? a = none) : Go s₁ t s₀ { s₅ with heap := h', toks := tk } := by
  have hw1 : ∀ a ∈ wr, s₁.heap.get? a = none := fun a ha => G.fresh (hw a ha)
  refine ⟨⟨?_, old_many x.good.old hw1 m, x.good.os, x.good.gens, ?_⟩, ?_, ?_⟩
  · intro b o z e
    exact m b o (fun q => by rw [hw1 b q] at e; cases e) (x.good.ext b o z e)
  · intro tt ht
    have := (B.tat tt ht).ne
    exact (x.good.tabs tt ht).many m (fun q => this.1 (hw1 _ q)) (fun q => this.2 (hw1 _ q))
  · intro b o z e
    exact m b o (fun q => by rw [hw b q] at e; cases e) (x.ext b o z e)
  · intro b e
    by_cases q : b ∈ wr
    · exact hw b q
    · refine x.fresh b ?_
      cases q' : s₅.heap.get? b with
      | none => rfl
      | some o => have : h'.get? b = none := e
                  rw [m b o q q'] at this; cases this
theorem c_tcall {x y : Str} {u v : Tok} {c un a b : Nat} {sets : Bool} {k1 k2 : NV} {fl : UInt64} (F : KF K) (kc : KC K C 328 fc fi) (B : Base K mg mb s₁) (G : Good s₁ s) (r : Rm A (n + 16)) (I : IsO s.heap o C f) (hf : NoShadow f) (hq : ∃ q, f "qval" = some (.int 1 q)) (has : f "as_set" = some (.bool sets))
    (hx : x.cps.size ≤ 50) (hy : y.cps.size ≤ 50) (hc : x ≠ y → x.cps.size ≠ 0 → y.cps.size ≠ 0 → Cts sets x y c un a b ∧ TvOk k1 k2 c a b fl ∧ c ≤ a ∧ c ≤ b ∧ a < 1000 ∧ b < 1000) (hbias : f "bias" = some .none) (hks : KsOk s.heap (f "ks") k1 k2)
    (h : ∀ s' z, Go s₁ true s s' → SimOk x y fl z → R (.ok (.ret z)) s') :
    codeAny (model PG w) A (.call (.ref 333) ⟨[.ref o, .str x u, .str y v], []⟩) R s := by
  refine enterS (vs := [.str x u, .str y v]) (binds := fun D => [("self", .ref o), ("sequences", .ref D)]) F.t_call B (Go.start (t := true) G) r (fun _ _ _ _ _ _ => ⟨_, rfl, fun _ => rfl⟩) (fun _ => by rfl) fun s₂ L T E' r₂ G₂ _ kp hL hT hTL hTs gT hn hcl => ?_
  have K2 := G₂.good.kin B
  have c1 := (hcl "self" (L + 1) (by rfl)).2.2
  have hLc : L + 1 ≠ L := ne_add1 L
  have I2 := G₂.isO I
  obtain ⟨h1, h2, h3, h4, h5, h6, h7, h8, h9, h10⟩ := id hf
  show wpAny _ _ (execs [_, _, _, _, _, _, _, _, _, _, _, _, _, _, _] _) _ _ _
  -- result = self.quick_answer(*sequences)
  refine wpAny_execs_cons (wpAny_Assign_Name (selfStar kc K2 I2 F.f_quick kc.m_quick h1 (by decide) (fun q => nmC (by rfl) c1 q) (fun h' tk k q => nmL (hn.keeps k) (by rfl) q) (starTT gT two_line) fun h3' tk3 k3 => ?_))
  have G3 := G₂.keep k3 (tk := tk3)
  refine c_quick (t := true) F kc (maxT F) B G3.good r₂.le.le.le.le.le.le.le.le.le (G3.isO I) hf (by omega) (by omega) F.t_max fun s4 z g4 qz => ?_
  have G4 := G3.trans g4
  have n4 := g4.ns (hn.keeps k3)
  have c4 := g4.cell (cell_keep c1 k3)
  have T4 := g4.obj (isTab_cls (by nofun)) (k3 _ _ gT)
  refine stL n4 fun h5' n5 hs5 => ?_
  have c5 := cell_but c4 hs5.extBut hLc
  have G5 := G4.same B hL hs5 G (tk := s4.toks + 1)
  have T5 : h5'.get? T = some (tupObj [.str x u, .str y v]) := hs5.extBut _ _ hTL T4
  have K5 := G5.good.kin B
  have I5 := G5.isO I
  refine wpAny_execs_cons (wpAny_If (wpAny_isTrue_Compare1 (nmL n5 (if_pos rfl) (wpAny_Constant_none ?_))))
  rcases qz with ⟨q1, e⟩ | ⟨q1, e1, e2⟩ | ⟨e1, e2, e3⟩
  · refine isnot_none_ne (by simp) (wpAny_truthy_bool ?_)
    simp only [if_true]
    exact wpAny_execs_cons (wpAny_Return_some (nmL n5 (if_pos rfl) (h _ _ G5 (.same q1 e))))
  · refine isnot_none_ne (by simp) (wpAny_truthy_bool ?_)
    simp only [if_true]
    exact wpAny_execs_cons (wpAny_Return_some (nmL n5 (if_pos rfl) (h _ _ G5 (.empty q1 e1 e2))))
  refine isnot_none_none (wpAny_truthy_bool ?_)
  simp only [Bool.false_eq_true, if_false]
  refine wpAny_execs_nil ?_
  obtain ⟨cc, htv, hca, hcb, ha', hb'⟩ := hc e1 e2 e3
  -- sequences = self._get_counters(*sequences)
  refine wpAny_execs_cons (wpAny_Assign_Name (selfStar (s := { s4 with heap := h5', toks := s4.toks + 1 }) kc K5 I5 F.f_gc kc.m_gc h4 (by decide) (fun q => nmC (by rfl) c5 q) (fun h' tk k q => nmL (n5.keeps k) (by rfl) q) (starTT T5 two_line) fun h6' tk6 k6 => ?_))
  have G6 := G5.keep k6 (tk := tk6)
  refine c_gc F kc B G6.good r₂.le.le.le.le.le.le.le (G6.isO I) hf hq (by omega) (by omega) fun s7 LD x1 x2 g7 hLD C1 C2 w1 w2 nLD => ?_
  have G7 := G6.trans g7
  have n7 := g7.ns (n5.keeps k6)
  have c7 := g7.cell (cell_keep c5 k6)
  obtain ⟨oL, eL⟩ := ns_obj (n5.keeps k6)
  have hLLD : LD ≠ L := fun q => by rw [q] at nLD; have := eL.symm.trans nLD; cases this
  refine stL n7 fun h8 n8 hs8 => ?_
  have c8 := cell_but c7 hs8.extBut hLc
  have G8 := G7.same B hL hs8 G (tk := s7.toks + 1)
  have D8 := hLD.extBut hs8.extBut hLLD
  have C18 := C1.but hs8.extBut (w1.ne eL).1 (w1.ne eL).2
  have C28 := C2.but hs8.extBut (w2.ne eL).1 (w2.ne eL).2
  have hL1 := w1.ne eL
  have hL2 := w2.ne eL
  -- intersection = self._intersect_counters(*sequences)
  refine wpAny_execs_cons (wpAny_Assign_Name (selfStar (s := { s7 with heap := h8, toks := s7.toks + 1 }) kc (G8.good.kin B) (G8.isO I) F.f_ic kc.m_ic h5 (by decide) (fun q => nmC (by rfl) c8 q) (fun h' tk k q => nmL (n8.keeps k) (by rfl) q) (starD (ws := [.ref x1, .ref x2]) D8 two_line) fun h9 tk9 k9 => ?_))
  have G9 := G8.keep k9 (tk := tk9)
  have l1 := bagOf_len x
  have l2 := bagOf_len y
  refine c_inter (t := true) F B G9.good r₂.le.le.le.le.le.le (by unfold bagOf at l1; omega) (C18.ext (.of_keep k9)) (C28.ext (.of_keep k9)) fun s10 z10 g10 hz10 w10 => ?_
  have G10 := G9.trans g10
  have n10 := g10.ns (n8.keeps k9)
  have c10 := g10.cell (cell_keep c8 k9)
  obtain ⟨oL8, eL8⟩ := ns_obj (n8.keeps k9)
  have D10 := g10.list (D8.at fun o e => k9 _ _ e)
  have C110 := g10.isC (C18.ext (.of_keep k9))
  have C210 := g10.isC (C28.ext (.of_keep k9))
  refine stL n10 fun h11 n11 hs11 => ?_
  have c11 := cell_but c10 hs11.extBut hLc
  have G11 := G10.same B hL hs11 G (tk := s10.toks + 1)
  have D11 := D10.extBut hs11.extBut hLLD
  have C111 := C110.but hs11.extBut hL1.1 hL1.2
  have C211 := C210.but hs11.extBut hL2.1 hL2.2
  have Z11 := hz10.but hs11.extBut (w10.ne eL8).1 (w10.ne eL8).2
  -- intersection = self._count_counters(intersection)
  refine wpAny_execs_cons (wpAny_Assign_Name (callM (nmC (by rfl) c11 (methO (s := { s10 with heap := h11, toks := s10.toks + 1 }) kc (G11.good.kin B) (G11.isO I) kc.m_cc F.f_cc.ty h7 (args_cons (nmL n11 (by rfl) (args_nil ⟨keeper_K F.f_cc.keep (G11.good.kin B), wpAny_call ?_⟩)))))))
  refine c_count (t := true) (b := interB (bagOf x) (bagOf y)) F kc B G11.good r₂.le.le.le.le.le.le.le.le.le.le.le (by have := interB_len (bagOf x) (bagOf y); omega) (G11.isO I) has Z11 fun s12 u12 g12 k12 => ?_
  rw [cc.inter]
  have G12 := G11.trans g12
  refine stL (g12.ns n11) fun h13 n13 hs13 => ?_
  have c13 := cell_but (g12.cell c11) hs13.extBut hLc
  have G13 := G12.same B hL hs13 G (tk := s12.toks + 1)
  have D13 := (g12.list D11).extBut hs13.extBut hLLD
  have C113 := (g12.isC C111).but hs13.extBut hL1.1 hL1.2
  have C213 := (g12.isC C211).but hs13.extBut hL2.1 hL2.2
  -- sequences = [self._count_counters(s) for s in sequences]
  refine wpAny_execs_cons (assignC (by rfl) ?_)
  refine countsC (s := { s12 with heap := h13, toks := s12.toks + 1 }) F kc B G13.good r₂.le.le.le.le.le.le.le.le.le.le.le (G13.isO I) h7 has c13 D13 C113 C213 (by unfold bagOf at l1; omega) (by unfold bagOf at l2; omega) (by rfl) (by decide) rfl (by decide) (by intro _; rfl) (by intro _; rfl) (fun q => nmL n13 (by rfl) q) fun s14 DA CA m14 u1 u2 g14 hDA hCA nCA nDA hne14 => ?_
  have G14 := G13.trans g14
  have n14 := g14.ns n13
  have hCL : CA ≠ L := fun q => by rw [q] at nCA; obtain ⟨_, e⟩ := ns_obj n13; dsimp only at nCA; rw [e] at nCA; cases nCA
  have hDL : DA ≠ L := fun q => by rw [q] at nDA; obtain ⟨_, e⟩ := ns_obj n13; dsimp only at nDA; rw [e] at nDA; cases nDA
  refine wpAny_assign_Name (stL n14 fun h15 n15 hs15 => ?_)
  refine ⟨m14, hCA.sameBut hs15 hCL, fun h16 hs16 => ?_⟩
  have G15 := G14.same B hL hs15 G (tk := s14.toks + 1)
  have hCs : s.heap.get? CA = none := G13.fresh _ nCA
  have G16 := G15.same B hCs hs16 G (tk := s14.toks + 1)
  have n16 := n15.sameBut hs16 hCL.symm
  have D16 := (hDA.extBut hs15.extBut hDL).extBut hs16.extBut hne14
  have c16 := cell_but (cell_but (g14.cell c13) hs15.extBut hLc) hs16.extBut (fun q => by rw [← q] at nCA; obtain ⟨_, e, _⟩ := c13; dsimp only at nCA; rw [e] at nCA; cases nCA)
  have e3' : cnt sets ((signs x).foldl Bag.add1 []) = (a : Int) := cc.sa
  have e4' : cnt sets ((signs y).foldl Bag.add1 []) = (b : Int) := cc.sb
  rw [e3', e4'] at D16
  have nDAs : s.heap.get? DA = none := G13.fresh _ nDA
  have K16 := G16.good.kin B
  have I16 := G16.isO I
  have hks16 := hks.ext G16.Ext
  have hDLs : s.heap.get? DA = none := nDAs
  -- ks = ..
  refine wpAny_execs_cons (wpAny_Assign_Name (wpAny_mono (Q := fun v s17 => ∃ KD p1 p2, v = Value.ref KD ∧ Go s₁ true { s14 with heap := h16, toks := s14.toks + 1 } s17 ∧ s17.heap.IsList KD #[k1.val p1, k2.val p2] ∧ h16.get? KD = none) ?_ (fun v s17 hv => ?_) fun _ _ e => e))
  · have GK : Go s₁ true { s14 with heap := h16, toks := s14.toks + 1 } { s14 with heap := h16, toks := s14.toks + 1 } := Go.start G16.good
    generalize hfk : f "ks" = fk at hks16
    cases hks16 with
    | none =>
      refine wpAny_IfExp (wpAny_isTrue_value (Attribute_any_ (nmC (by rfl) c16 (attrO (s := { s14 with heap := h16, toks := s14.toks + 1 }) kc K16 I16 kc.n_ks hfk rfl (wpAny_pure ?_)))))
      simp only [Bool.false_eq_true, if_false]
      refine wpAny_BinOp (wpAny_List_spliced (args_cons (wpAny_Constant_int (args_nil ⟨by rw [sizeLine_eq]; simp, ?_⟩))))
      have kl : Keep h16 (h16.push { cls := .type "list", data := .seq [Value.int 1 (s14.toks + 1 + 1)].toArray }) := Keep.push _ _
      refine callP (nmB B ((GK.keep kl (tk := s14.toks + 1 + 1 + 1)).good) F.g_len boot_len (args_cons (nmL (n16.keeps kl) (by rfl) (args_nil ⟨keeper_bi, ?_⟩))))
      refine len_list (items := #[.int a u1, .int b u2]) (D16.at fun o e => kl _ _ e) (by simp) ?_
      refine mul_one (s := { s14 with heap := h16.push { cls := .type "list", data := .seq [Value.int 1 (s14.toks + 1 + 1)].toArray }, toks := _ }) (Heap.get?_push_size _ rfl) fun h17 k17 hl17 => ?_
      exact ⟨_, _, _, rfl, (GK.keep kl).keep k17, hl17, get_ge (by rw [Heap.size_push]; exact Nat.le_succ _)⟩
    | list KL _ _ v1 v2 hKL hsk b1 b2 =>
      refine wpAny_IfExp (wpAny_isTrue_value (Attribute_any_ (nmC (by rfl) c16 (attrO (s := { s14 with heap := h16, toks := s14.toks + 1 }) kc K16 I16 kc.n_ks hfk rfl (wpAny_truthy_list hKL (by simp) ?_)))))
      rw [if_pos (by simp)]
      refine sliceList (callP (nmB B (G16.good.tok _) F.g_list boot_list (args_cons (Attribute_any_ (nmC (by rfl) c16 (attrO (s := { s14 with heap := h16, toks := _ }) kc K16 I16 kc.n_ks hfk rfl (args_nil ⟨keeper_ty, ?_⟩)))))))
      obtain ⟨oK, eK, cK, nK, dK⟩ := hKL
      refine call_list_seq KL (.inl rfl) eK cK dK (fun h17 c17 k17 hl17 => ?_) (by rw [sizeLine_eq]; simp)
      rw [evalPart_none, evalPart_some]
      have G17 := (GK.keep k17 (tk := s14.toks + 1 + 1 + 1 + 1 + 1))
      refine wpAny_pure (callP (nmB B G17.good F.g_len boot_len (args_cons (nmL (n16.keeps k17) (by rfl) (args_nil ⟨keeper_bi, ?_⟩)))))
      refine len_list (items := #[.int a u1, .int b u2]) (D16.at fun o e => k17 _ _ e) (by simp) ?_
      refine ⟨_, _, none, some ((#[Value.int a u1, .int b u2] : Array Value).size : Int), rfl, ⟨_, hl17, rfl, c17, rfl⟩, by rw [sizeLine_eq]; simp, .none, .int _ _, ?_⟩
      have e22 : slicePick #[k1.val v1, k2.val v2] none (some ((#[Value.int a u1, .int b u2] : Array Value).size : Int)) none = #[k1.val v1, k2.val v2] := by
        rw [show ((#[Value.int a u1, .int b u2] : Array Value).size : Int) = ((2 : Nat) : Int) from rfl, slicePick_upto _ 2 (by simp)]; rfl
      rw [e22]
      have ks1 : ∀ o, Keep h17 (h17.push o) := fun o => Keep.push _ _
      refine ⟨_, v1, v2, rfl, (GK.keep k17).keep ((ks1 _).trans (Keep.push _ _)), ?_, ?_⟩
      · exact ⟨_, Heap.get?_push_at (by rw [Heap.size_push]) rfl, rfl, 0, rfl⟩
      · refine get_ge ?_
        have : h16.objs.size < h17.objs.size := Heap.lt_size hl17
        exact Nat.le_of_lt (Nat.lt_succ_of_lt this)
  obtain ⟨KD, p1, p2, rfl, g17, hKD, nKD⟩ := hv
  have G17 := G16.trans g17
  have n17 := g17.ns n16
  have c17 := g17.cell c16
  have D17 := g17.list D16
  have hKL : KD ≠ L := fun q => by rw [q] at nKD; obtain ⟨_, e⟩ := ns_obj n16; rw [e] at nKD; cases nKD
  refine stL n17 fun h18 n18 hs18 => ?_
  have G18 := G17.same B hL hs18 G (tk := s17.toks + 1)
  have c18 := cell_but c17 hs18.extBut hLc
  have D18 := D17.extBut hs18.extBut hDL
  have KD18 := hKD.extBut hs18.extBut hKL
  have I18 := G18.isO I
  have K18 := G18.good.kin B
  -- if len(sequences) != 2 or self.bias is None
  refine wpAny_execs_cons (wpAny_If (wpAny_isTrue_BoolOp (wpAny_allTrue_Or_cons (wpAny_isTrue_Compare1 (callP (nmB B G18.good F.g_len boot_len (args_cons (nmL n18 (by rfl) (args_nil ⟨keeper_bi, ?_⟩)))))))))
  refine len_list (items := #[.int a u1, .int b u2]) D18 (by simp) (wpAny_Constant_int (ne_int (wpAny_truthy_bool ?_)))
  rw [if_neg (by simp)]
  refine wpAny_allTrue_Or_cons (wpAny_isTrue_Compare1 (Attribute_any_ (nmC (by rfl) c18 (attrO (s := { s17 with heap := h18, toks := _ }) kc K18 I18 kc.n_bias hbias rfl (wpAny_Constant_none (is_none_none (wpAny_truthy_bool ?_)))))))
  simp only [if_true]
  -- result = intersection
  have hABk := hks.same
  refine wpAny_execs_cons (wpAny_Assign_Name (nmL n18 (by rfl) (stL n18 fun h19 n19 hs19 => ?_)))
  have G19 := fun tk => G18.same B hL hs19 G (tk := tk)
  have D19 := D18.extBut hs19.extBut hDL
  have KD19 := KD18.extBut hs19.extBut hKL
  refine wpAny_execs_cons (wpAny_For (callP (nmB B (G19 _).good F.g_zip boot_zip (args_cons (nmL n19 (by rfl) (args_cons (nmL n19 (by rfl) (args_nil ⟨keeper_ty, ?_⟩))))))))
  refine call_zip_2 KD19 D19 fun h20 hz hTI hTO hi1 hi2 _ k20 => ?_
  have G20 := fun tk => (G19 0).keep k20 (tk := tk)
  refine wpAny_pyIter_zip hz ?_
  have aK : KD < h19.objs.size := by obtain ⟨_, e, _⟩ := KD19; exact Heap.lt_size e
  have aD : DA < h19.objs.size := by obtain ⟨_, e, _⟩ := D19; exact Heap.lt_size e
  have aL : L < h19.objs.size := n19.lt
  have AP := zipApart_new aK aD
  have fr : ∀ a ∈ [h19.objs.size + 4, h19.objs.size + 3, h19.objs.size, h19.objs.size + 1], s.heap.get? a = none := by
    intro a ha
    refine (G19 0).fresh a (get_ge ?_)
    simp at ha
    rcases ha with rfl | rfl | rfl | rfl
    · exact Nat.le_add_right _ _
    · exact Nat.le_add_right _ _
    · exact Nat.le_refl _
    · exact Nat.le_add_right _ _
  have Lno : L ∉ [h19.objs.size + 4, h19.objs.size + 3, h19.objs.size, h19.objs.size + 1] := by
    simp
    refine ⟨Nat.ne_of_lt (Nat.lt_of_lt_of_le aL (Nat.le_add_right _ _)), Nat.ne_of_lt (Nat.lt_of_lt_of_le aL (Nat.le_add_right _ _)), Nat.ne_of_lt aL, Nat.ne_of_lt (Nat.lt_of_lt_of_le aL (Nat.le_add_right _ _))⟩
  have zl : ∀ a ∈ [h19.objs.size + 4, h19.objs.size + 2, h19.objs.size + 3, h19.objs.size, h19.objs.size + 1, KD, DA], a ≠ L := by
    intro a ha
    simp at ha
    rcases ha with rfl | rfl | rfl | rfl | rfl | rfl | rfl
    · exact Nat.ne_of_gt (Nat.lt_of_lt_of_le aL (Nat.le_add_right _ _))
    · exact Nat.ne_of_gt (Nat.lt_of_lt_of_le aL (Nat.le_add_right _ _))
    · exact Nat.ne_of_gt (Nat.lt_of_lt_of_le aL (Nat.le_add_right _ _))
    · exact Nat.ne_of_gt aL
    · exact Nat.ne_of_gt (Nat.lt_of_lt_of_le aL (Nat.le_add_right _ _))
    · exact hKL
    · exact hDL
  have WZ := WalksT.zip2 (prog := PG) (w := w) r₂.h (h19.objs.size + 4) (h19.objs.size + 2) (h19.objs.size + 3) h19.objs.size (h19.objs.size + 1) KD DA AP #[k1.val p1, k2.val p2] #[Value.int a u1, .int b u2]
  refine for_Z AP r₂.h (fun i s' => ∃ m ur ui, Go s₁ true s s' ∧ ZSt (h19.objs.size + 4) (h19.objs.size + 2) (h19.objs.size + 3) h19.objs.size (h19.objs.size + 1) KD DA #[k1.val p1, k2.val p2] #[Value.int a u1, .int b u2] i s'.heap ∧ s'.heap.Ns L m ∧ m "intersection" = some (.int c ui) ∧ m "result" = some ((tsum k1 k2 c a b i).val ur)) (fun i s q => by obtain ⟨_, _, _, _, z, _⟩ := q; exact z) ?_ ?_ ?_
  · rintro i s' x' y' h' tk ⟨m, ur, ui, g, st, nL, mi, mr⟩ hx' hy' st' mv N
    have nL' : h'.Ns L m := nL.at fun o e => mv L o Lno e
    have g' : Go s₁ true s { s' with heap := h', toks := tk } := g.many B G mv fr
    refine stL (s := { s' with heap := h', toks := tk }) nL' fun h1 n1 hs1 => stL n1 fun h2 n2 hs2 => ?_
    have g1 := fun tk => g'.same B hL hs1 G (tk := tk)
    have g2 := fun tk => (g1 0).same B hL hs2 G (tk := tk)
    have st1 := WZ.frame _ _ h1 st' fun q hq o e => hs1.extBut q o (zl q hq) e
    have st2 := WZ.frame _ _ h2 st1 fun q hq o e => hs2.extBut q o (zl q hq) e
    have key : ∃ k d pk pd, x' = NV.val k pk ∧ y' = .int d pd ∧ (∀ n, k = .i n → n.natAbs ≤ 100) ∧ (d - (c : Int)).natAbs < 1000 ∧ (tsum k1 k2 c a b i).add (k.mul (d - (c : Int))) = tsum k1 k2 c a b (i + 1) ∧
        ((∃ x y, tsum k1 k2 c a b i = .i x ∧ k.mul (d - (c : Int)) = .i y) ∨ (∃ x y, tsum k1 k2 c a b i = .i x ∧ k.mul (d - (c : Int)) = .f y ∧ x.natAbs < 2 ^ 1023) ∨ (∃ x y, tsum k1 k2 c a b i = .f x ∧ k.mul (d - (c : Int)) = .f y)) := by
      obtain ⟨sk, b1, b2⟩ := hABk
      rcases i with _ | _ | i
      · simp at hx' hy'; subst hx'; subst hy'
        refine ⟨k1, a, p1, u1, rfl, rfl, b1, by omega, rfl, ?_⟩
        cases sk with
        | i q1 q2 => exact .inl ⟨_, _, rfl, rfl⟩
        | f q1 q2 => exact .inr (.inl ⟨_, _, rfl, rfl, by rw [Int.natAbs_natCast]; exact Nat.lt_trans (show c < 1000 by omega) (by decide +kernel)⟩)
      · simp at hx' hy'; subst hx'; subst hy'
        refine ⟨k2, b, p2, u2, rfl, rfl, b2, by omega, rfl, ?_⟩
        cases sk with
        | i q1 q2 => exact .inl ⟨_, _, rfl, rfl⟩
        | f q1 q2 => exact .inr (.inr ⟨_, _, rfl, rfl⟩)
      · simp at hx'
    obtain ⟨k, d, pk, pd, rfl, rfl, hk, hd, hsum, hkind⟩ := key
    refine wpAny_execs_cons (wpAny_AugAssign_Name (wpAny_loadName_local rfl rfl n2 (by show m "result" = _; exact mr) (wpAny_BinOp (nmL n2 (by rfl) (wpAny_BinOp (nmL n2 (by rfl) (nmL n2 (by show m "intersection" = _; exact mi) (sub_int (nvMul hk hd fun pp tk1 => nvAdd hkind fun pp2 tk2 => ?_)))))))))
    rw [hsum]
    refine stL n2 fun h3 n3 hs3 => wpAny_execs_nil ?_
    refine ⟨_, pp2, ui, (g2 0).same B hL hs3 G, WZ.frame _ _ h3 st2 fun q hq o e => hs3.extBut q o (zl q hq) e, n3, mi, if_pos rfl⟩
  · rintro s' h' tk ⟨m, ur, ui, g, st, nL, mi, mr⟩ mv
    have nL' : h'.Ns L m := nL.at fun o e => mv L o Lno e
    have g' : ∀ tk, Go s₁ true s { s' with heap := h', toks := tk } := fun tk => g.many B G mv fr
    refine wpAny_execs_cons (wpAny_Return_some (wpAny_BinOp (nmL (s := { s' with heap := h', toks := tk }) nL' mi (nmL nL' mr (nvDiv (by omega) htv fun pp tk => ?_)))))
    exact h _ _ (g' _) (.go _ e1 e2 e3)
  · exact ⟨_, _, _, G20 _, ⟨hz, hTI, ⟨_, _, hTO⟩, hi1, hi2, KD19.at fun o e => k20 _ _ e, D19.at fun o e => k20 _ _ e⟩, n19.keeps k20, by rfl, by rfl⟩
end
end Mine
end

noncomputable section
open PySem PySem.Calls PySem.W PyProof.Rows Builtin Builtin.ObjectAttr
set_option maxRecDepth 100000
set_option maxHeartbeats 4000000
namespace Mine
/-- what a call of the object gives, in every state behind this one -/
def CallOk (w : World) (s₁ s : Shared) (fc o : Addr) (k : Nat) (x y : Str) (fl : UInt64) : Prop :=
  ∀ (A : Around) (s' : Shared) (R : Result → Shared → Prop) (u v : Tok), Go s₁ true s s' → Rm A k → (∀ s'' z, Go s₁ true s' s'' → SimOk x y fl z → R (.ok (.ret z)) s'') →
    codeAny (model PG w) A (.call (.ref fc) ⟨[.ref o, .str x u, .str y v], []⟩) R s'
/-- what its distance gives -/
inductive DistOk (x y : Str) (fl : UInt64) : Value → Prop
  | same (u : Tok) : x = y → DistOk x y fl (.int 0 u)
  | empty (u : Tok) : x ≠ y → (x.cps.size = 0 ∨ y.cps.size = 0) → DistOk x y fl (.int 1 u)
  | go (u : Tok) : x ≠ y → x.cps.size ≠ 0 → y.cps.size ≠ 0 → DistOk x y fl (.float (Float64.sub (Float64.ofInt 1) fl) u)
section
variable {w : World} {A : Around} {s s' s₀ s₁ : Shared} {R : Result → Shared → Prop} {K : Frag} {mg mb : Str → Option Value} {n k : Nat} {t : Bool} {E : Value → Shared → Prop} {o C fm fc fi cdm cdc : Addr} {f : Str → Option Value} {qm qc : Str} {fdm fdc : FD} {dvm dvc : Value}
theorem CallOk.go {x y : Str} {fl : UInt64} (c : CallOk w s₁ s fc o k x y fl) (g : Go s₁ true s s') : CallOk w s₁ s' fc o k x y fl :=
  fun A s'' R u v g' r h => c A s'' R u v (g.trans g') r h
theorem c_sim {x y : Str} {u v : Tok} {fl : UInt64} (F : KF K) (kc : KC K C fm fc fi) (kf : FnIn K fc qc fdc dvc cdc) (B : Base K mg mb s₁) (G : Good s₁ s) (r : Rm A (k + 1)) (I : IsO s.heap o C f) (c : CallOk w s₁ s fc o k x y fl)
    (h : ∀ s' z, Go s₁ true s s' → SimOk x y fl z → R (.ok (.ret z)) s') :
    codeAny (model PG w) A (.call (.ref 226) ⟨[.ref o, .str x u, .str y v], []⟩) R s := by
  refine enterS (vs := [.str x u, .str y v]) (binds := fun D => [("self", .ref o), ("sequences", .ref D)]) F.f_sim B (Go.start (t := true) G) r (fun _ _ _ _ _ _ => ⟨_, rfl, fun _ => rfl⟩) (fun _ => by rfl) fun s₂ L T E' r₂ G₂ _ kp hL hT hTL hTs gT hn hcl => ?_
  have K2 := G₂.good.kin B
  have I2 := G₂.isO I
  show wpAny _ _ (execs [_] _) _ _ _
  refine wpAny_execs_cons (wpAny_Return_some (callFS (nmL hn (by rfl) (nmL hn (by rfl) (starT gT two_line fun h3 k3 => ?_)))))
  have G3 := fun tk => G₂.keep k3 (tk := tk)
  obtain ⟨dx, od, i, l⟩ := (G3 0).isO I |>.inst
  refine ⟨keeper_inst i rfl, wpAny_call (kco_code ((G3 0).good.kin B) i rfl kc.m_call (by unfold isFn; rw [kf.ty]; rfl) kf.fn ?_)⟩
  exact c _ _ _ _ _ (G3 _) r₂ fun s'' z g hz => h _ _ ((G3 _).trans g) hz
theorem c_dist {x y : Str} {u v : Tok} {fl : UInt64} (F : KF K) (kc : KC K C fm fc fi) (hm : MaxC K fm) (km : FnIn K fm qm fdm dvm cdm) (kf : FnIn K fc qc fdc dvc cdc) (B : Base K mg mb s₁) (G : Good s₁ s) (r : Rm A (k + 3)) (I : IsO s.heap o C f) (hf : NoShadow f) (c : CallOk w s₁ s fc o k x y fl)
    (h : ∀ s' z, Go s₁ true s s' → DistOk x y fl z → R (.ok (.ret z)) s') :
    codeAny (model PG w) A (.call (.ref 219) ⟨[.ref o, .str x u, .str y v], []⟩) R s := by
  refine enterS (vs := [.str x u, .str y v]) (binds := fun D => [("self", .ref o), ("sequences", .ref D)]) F.f_dist B (Go.start (t := true) G) r (fun _ _ _ _ _ _ => ⟨_, rfl, fun _ => rfl⟩) (fun _ => by rfl) fun s₂ L T E' r₂ G₂ _ kp hL hT hTL hTs gT hn hcl => ?_
  have K2 := G₂.good.kin B
  have I2 := G₂.isO I
  obtain ⟨h1, h2, h3, h4, h5, h6, h7, h8, h9, h10⟩ := id hf
  show wpAny _ _ (execs [_] _) _ _ _
  refine wpAny_execs_cons (wpAny_Return_some (wpAny_BinOp (selfStar kc K2 I2 km kc.m_max h10 (by decide) (fun q => nmL hn (by rfl) q) (fun h' tk k q => nmL (hn.keeps k) (by rfl) q) (starTT gT two_line) fun h3 tk3 k3 => ?_)))
  have G3 := G₂.keep k3 (tk := tk3)
  refine hm (t := true) B G3.good r₂.le fun s4 u4 g4 k4 => ?_
  have G4 := G3.trans g4
  have kk := k3.trans k4
  refine selfStar kc (G4.good.kin B) (G4.isO I) F.f_sim kc.m_sim h9 (by decide) (fun q => nmL (hn.keeps kk) (by rfl) q) (fun h' tk k q => nmL (hn.keeps (kk.trans k)) (by rfl) q) (starTT (kk _ _ gT) two_line) fun h5 tk5 k5 => ?_
  have G5 := G4.keep k5 (tk := tk5)
  refine c_sim F kc kf B G5.good r₂.le (G5.isO I) (c.go G5) fun s6 z g6 hz => ?_
  have G6 := G5.trans g6
  rcases hz with ⟨u6, e⟩ | ⟨u6, e, e'⟩ | ⟨u6, e, e1, e2⟩
  · exact sub_int (h _ _ (G6.tok _) (.same _ e))
  · exact sub_int (h _ _ (G6.tok _) (.empty _ e e'))
  · exact sub_if_fits (by decide +kernel) (h _ _ (G6.tok _) (.go _ e e1 e2))
end
end Mine
end

noncomputable section
open PySem PySem.Calls PySem.W PyProof.Rows Builtin Builtin.ObjectAttr
set_option maxRecDepth 100000
set_option maxHeartbeats 4000000
namespace Mine
/-- what making an object asks more of its class -/
structure KS (K : Frag) (C : Addr) : Prop where
  sa : findIn K (.ref C) "__setattr__" = some (some (.builtin "object.__setattr__"))
  n_ext : findIn K (.ref C) "external" = some none
structure KG (K : Frag) : Prop where
  gJ : nsIn K mainGlobals "Jaccard" = some (some (.ref 270))
  gS : nsIn K mainGlobals "Sorensen" = some (some (.ref 304))
  gT : nsIn K mainGlobals "Tversky" = some (some (.ref 336))
  gO : nsIn K mainGlobals "Overlap" = some (some (.ref 368))
  dJ : ∃ oc od u n sl, K.lookup 246 = some ⟨oc, od, .seq #[.int 1 u, .bool false, .bool true] n, sl⟩
  dS : ∃ oc od u n sl, K.lookup 280 = some ⟨oc, od, .seq #[.int 1 u, .bool false, .bool true] n, sl⟩
  dO : ∃ oc od u n sl, K.lookup 346 = some ⟨oc, od, .seq #[.int 1 u, .bool false, .bool true] n, sl⟩
  dT : ∃ oc od u n sl, K.lookup 314 = some ⟨oc, od, .seq #[.int 1 u, .none, .none, .bool false, .bool true] n, sl⟩
section
variable {M : Model} {A : Around} {E : Value → Shared → Prop} {s : Shared}
/-- a call, keywords alone -/
theorem callKw {env : Env} {f : Expr} {kws : List Keyword} {pos : Pos} {Q : Value → Shared → Prop}
    (h : wpAny M A (eval f env) (fun fv s₁ => wpAny M A (evalAll ((backToKw pos (keywordEach kws env)).map (·.2))) (fun ks s₂ => (∃ k, Looks M s₂.heap (keeperOf fv) k) ∧ wpAny M A (call fv [] (((backToKw pos (keywordEach kws env)).filterMap (·.1)).zip ks)) Q E s₂) E s₁) E s)
    (hall : (backToKw pos (keywordEach kws env)).all (·.1.isSome) = true := by rfl)
    (he : eval (.Call f [] kws pos) env = (do callWith pos (← eval f env) [] (backTo pos (starEach [] env)) (backToKw pos (keywordEach kws env))) := by rfl) :
    wpAny M A (eval (.Call f [] kws pos) env) Q E s := by
  rw [he]
  exact wpAny_bind (wpAny_mono h (fun fv s₁ h₁ => callWith_tr (evalArgs_kw2_nil hall h₁)) fun _ _ x => x)
end
theorem taker_none {K : Frag} {C : Addr} {name : Str} (e : findIn K (.ref C) name = some none) : takerIn K C name = some none := by unfold takerIn; rw [e]; rfl
/-- what a list of entries holds -/
def esGet (es : List DictEntry) (name : Str) : Option Value := (es.find? (·.key.isStr name)).map (·.val)
theorem getL_of {es : List DictEntry} (h : es.any (·.refKey) = false) (name : Str) : getL name es = some (esGet es name) := by
  unfold getL esGet
  cases es.find? (·.key.isStr name) with
  | some e => rfl
  | none => rw [h]; rfl
theorem isO_new {h : Heap} {x dx C : Addr} {es : List DictEntry} {n : Nat} (e1 : h.get? x = some (instObj C dx)) (e2 : h.get? dx = some (dictOf es n)) (hr : es.any (·.refKey) = false) : IsO h x C (esGet es) :=
  ⟨dx, _, e1, e2, isTab_cls (by nofun), fun name => (lookIn_dict name es n).trans (getL_of hr name)⟩

theorem putB {name : Str} {hsh : Int} {key v : Value} : ∀ {es : List DictEntry} {m : Nat}, es.length ≤ m → (putL name hsh key v es).length ≤ m + 1
  | [], m, _ => by simp [putL]
  | e :: r, m, h => by
    unfold putL
    split
    · simp at h ⊢; omega
    · simp at h ⊢
      have := putB (name := name) (hsh := hsh) (key := key) (v := v) (es := r) (m := m - 1) (by omega)
      omega

section
variable {w : World} {A : Around} {s s' s₀ s₁ : Shared} {R : Result → Shared → Prop} {K : Frag} {mg mb : Str → Option Value} {n k : Nat} {t : Bool} {E : Value → Shared → Prop}
theorem new_J (F : KF K) (D : KG K) {fm fc : Addr} (kc : KC K 270 fm fc 253) (ks : KS K 270) (B : Base K mg mb s₁) (G : Good s₁ s) (r : Rm A (n + 2)) {sets : Bool}
    (h : ∀ s' x f q, Go s₁ true s s' → Keep s.heap s'.heap → IsO s'.heap x 270 f → NoShadow f → f "qval" = some (.int 1 q) → f "as_set" = some (.bool sets) → R (.ok (.ret (.ref x))) s') :
    codeAny (model PG w) A (.call (.ref 270) ⟨[], [("as_set", .bool sets)]⟩) R s := by
  have X := G.kin B
  have lim := G.lim B
  have GS : Go s₁ true s s := Go.start G
  obtain ⟨hp, g, d, tk, os⟩ := s
  dsimp only at X lim
  refine make_core (makes_of X kc.mk_) (looks_findIn X kc.m_init) (fun self => bind_fn X self F.j_init.ty) (.inl rfl) ?_
  obtain ⟨oc, od, q, nn, sl, hdf⟩ := D.dJ
  have kp : Keep hp ((hp.push emptyDict).push (instObj 270 hp.objs.size)) := (Keep.push _ _).trans (Keep.push _ _)
  have X' := X.keeps kp
  have gx : ((hp.push emptyDict).push (instObj 270 hp.objs.size)).get? (hp.objs.size + 1) = some (instObj 270 hp.objs.size) := by heap_get
  have gd : ((hp.push emptyDict).push (instObj 270 hp.objs.size)).get? hp.objs.size = some emptyDict := by heap_get
  refine enter (s := ⟨(hp.push emptyDict).push (instObj 270 hp.objs.size), g, d, tk, os⟩) F.j_init X' (lim.keeps kp) (r.make (C := 270) (vals := [])).depth (h' := (hp.push emptyDict).push (instObj 270 hp.objs.size))
    (binds := [("self", .ref (hp.objs.size + 1)), ("qval", .int 1 q), ("as_set", .bool sets), ("external", .bool true)])
    (fun nm doc pm an ct M A E Q qq => (binds_K (s := ⟨(hp.push emptyDict).push (instObj 270 hp.objs.size), g, d, tk, os⟩) X' rfl hdf rfl rfl rfl : BindsTo _ _ _ _) M A E Q qq) (Keep.refl _) (by rfl) fun h₁ tk1 E' hn _ k1 hlt => ?_
  show wpAny _ _ (execs [_, _, _] _) _ _ _
  have F0 : Fr hp ((hp.push emptyDict).push (instObj 270 hp.objs.size)).objs.size h₁ _ := ⟨hn, kp.trans k1, by rw [Heap.size_push, Heap.size_push]; exact Nat.le_add_right _ 2⟩
  have N0 : News hp ((hp.push emptyDict).push (instObj 270 hp.objs.size)).objs.size h₁ [(hp.objs.size + 1, instObj 270 hp.objs.size), (hp.objs.size, dictOf [] 0)] := by
    intro p hp'
    simp only [List.mem_cons, List.not_mem_nil, or_false] at hp'
    rcases hp' with rfl | rfl
    · exact ⟨k1 _ _ gx, Nat.ne_of_lt (Heap.lt_size gx), get_ge (Nat.le_add_right _ 1)⟩
    · exact ⟨k1 _ _ gd, Nat.ne_of_lt (Heap.lt_size gd), get_size _⟩
  have hne : ∀ p ∈ ([] : List (Addr × Obj)), p.1 ≠ hp.objs.size := fun _ h => nomatch h
  have hx1 : hp.objs.size + 1 ≠ hp.objs.size := Nat.succ_ne_self _
  refine wpAny_execs_cons (plainObj_wpAny_Assign_Attribute (nmL F0.ns (by rfl) (nmL F0.ns (by rfl) (set_dict (s := ⟨h₁, g, d, tk1, os⟩) F0 X N0 (InstAt.of_news N0 (.head _) (.tail _ (.head _))) rfl ks.sa kc.only (taker_none kc.n_qval) kc.hd rfl rfl (.tail hx1 (.head hne)) (Nat.le_trans (putB (Nat.zero_le 0)) (by decide)) fun h2 F2 N2 => ?_))))
  refine wpAny_execs_cons (plainObj_wpAny_Assign_Attribute (nmL F2.ns (by rfl) (nmL F2.ns (by rfl) (set_dict (s := ⟨h2, g, d, tk1 + 2, os⟩) F2 X N2 (InstAt.of_news N2 (.head _) (.tail _ (.head _))) rfl ks.sa kc.only (taker_none kc.n_as_set) kc.hd rfl rfl (.tail hx1 (.head hne)) (Nat.le_trans (putB (putB (Nat.zero_le 0))) (by decide)) fun h3 F3 N3 => ?_))))
  refine wpAny_execs_cons (plainObj_wpAny_Assign_Attribute (nmL F3.ns (by rfl) (nmL F3.ns (by rfl) (set_dict (s := ⟨h3, g, d, tk1 + 2 + 2, os⟩) F3 X N3 (InstAt.of_news N3 (.head _) (.tail _ (.head _))) rfl ks.sa kc.only (taker_none ks.n_ext) kc.hd rfl rfl (.tail hx1 (.head hne)) (Nat.le_trans (putB (putB (putB (Nat.zero_le 0)))) (by decide)) fun h4 F4 N4 => ?_))))
  refine wpAny_execs_nil ⟨rfl, ?_⟩
  have kk : Keep hp h4 := F4.keep
  exact h _ _ _ q (GS.keep (h' := h4) kk) kk (isO_new (N4 _ (.head _)).1 (N4 _ (.tail _ (.head _))).1 (by rfl)) ⟨by rfl, by rfl, by rfl, by rfl, by rfl, by rfl, by rfl, by rfl, by rfl, by rfl⟩ (by rfl) (by rfl)
theorem new_S (F : KF K) (D : KG K) {fm fc : Addr} (kc : KC K 304 fm fc 287) (ks : KS K 304) (B : Base K mg mb s₁) (G : Good s₁ s) (r : Rm A (n + 2)) {sets : Bool}
    (h : ∀ s' x f q, Go s₁ true s s' → Keep s.heap s'.heap → IsO s'.heap x 304 f → NoShadow f → f "qval" = some (.int 1 q) → f "as_set" = some (.bool sets) → R (.ok (.ret (.ref x))) s') :
    codeAny (model PG w) A (.call (.ref 304) ⟨[], [("as_set", .bool sets)]⟩) R s := by
  have X := G.kin B
  have lim := G.lim B
  have GS : Go s₁ true s s := Go.start G
  obtain ⟨hp, g, d, tk, os⟩ := s
  dsimp only at X lim
  refine make_core (makes_of X kc.mk_) (looks_findIn X kc.m_init) (fun self => bind_fn X self F.s_init.ty) (.inl rfl) ?_
  obtain ⟨oc, od, q, nn, sl, hdf⟩ := D.dS
  have kp : Keep hp ((hp.push emptyDict).push (instObj 304 hp.objs.size)) := (Keep.push _ _).trans (Keep.push _ _)
  have X' := X.keeps kp
  have gx : ((hp.push emptyDict).push (instObj 304 hp.objs.size)).get? (hp.objs.size + 1) = some (instObj 304 hp.objs.size) := by heap_get
  have gd : ((hp.push emptyDict).push (instObj 304 hp.objs.size)).get? hp.objs.size = some emptyDict := by heap_get
  refine enter (s := ⟨(hp.push emptyDict).push (instObj 304 hp.objs.size), g, d, tk, os⟩) F.s_init X' (lim.keeps kp) (r.make (C := 304) (vals := [])).depth (h' := (hp.push emptyDict).push (instObj 304 hp.objs.size))
    (binds := [("self", .ref (hp.objs.size + 1)), ("qval", .int 1 q), ("as_set", .bool sets), ("external", .bool true)])
    (fun nm doc pm an ct M A E Q qq => (binds_K (s := ⟨(hp.push emptyDict).push (instObj 304 hp.objs.size), g, d, tk, os⟩) X' rfl hdf rfl rfl rfl : BindsTo _ _ _ _) M A E Q qq) (Keep.refl _) (by rfl) fun h₁ tk1 E' hn _ k1 hlt => ?_
  show wpAny _ _ (execs [_, _, _] _) _ _ _
  have F0 : Fr hp ((hp.push emptyDict).push (instObj 304 hp.objs.size)).objs.size h₁ _ := ⟨hn, kp.trans k1, by rw [Heap.size_push, Heap.size_push]; exact Nat.le_add_right _ 2⟩
  have N0 : News hp ((hp.push emptyDict).push (instObj 304 hp.objs.size)).objs.size h₁ [(hp.objs.size + 1, instObj 304 hp.objs.size), (hp.objs.size, dictOf [] 0)] := by
    intro p hp'
    simp only [List.mem_cons, List.not_mem_nil, or_false] at hp'
    rcases hp' with rfl | rfl
    · exact ⟨k1 _ _ gx, Nat.ne_of_lt (Heap.lt_size gx), get_ge (Nat.le_add_right _ 1)⟩
    · exact ⟨k1 _ _ gd, Nat.ne_of_lt (Heap.lt_size gd), get_size _⟩
  have hne : ∀ p ∈ ([] : List (Addr × Obj)), p.1 ≠ hp.objs.size := fun _ h => nomatch h
  have hx1 : hp.objs.size + 1 ≠ hp.objs.size := Nat.succ_ne_self _
  refine wpAny_execs_cons (plainObj_wpAny_Assign_Attribute (nmL F0.ns (by rfl) (nmL F0.ns (by rfl) (set_dict (s := ⟨h₁, g, d, tk1, os⟩) F0 X N0 (InstAt.of_news N0 (.head _) (.tail _ (.head _))) rfl ks.sa kc.only (taker_none kc.n_qval) kc.hd rfl rfl (.tail hx1 (.head hne)) (Nat.le_trans (putB (Nat.zero_le 0)) (by decide)) fun h2 F2 N2 => ?_))))
  refine wpAny_execs_cons (plainObj_wpAny_Assign_Attribute (nmL F2.ns (by rfl) (nmL F2.ns (by rfl) (set_dict (s := ⟨h2, g, d, tk1 + 2, os⟩) F2 X N2 (InstAt.of_news N2 (.head _) (.tail _ (.head _))) rfl ks.sa kc.only (taker_none kc.n_as_set) kc.hd rfl rfl (.tail hx1 (.head hne)) (Nat.le_trans (putB (putB (Nat.zero_le 0))) (by decide)) fun h3 F3 N3 => ?_))))
  refine wpAny_execs_cons (plainObj_wpAny_Assign_Attribute (nmL F3.ns (by rfl) (nmL F3.ns (by rfl) (set_dict (s := ⟨h3, g, d, tk1 + 2 + 2, os⟩) F3 X N3 (InstAt.of_news N3 (.head _) (.tail _ (.head _))) rfl ks.sa kc.only (taker_none ks.n_ext) kc.hd rfl rfl (.tail hx1 (.head hne)) (Nat.le_trans (putB (putB (putB (Nat.zero_le 0)))) (by decide)) fun h4 F4 N4 => ?_))))
  refine wpAny_execs_nil ⟨rfl, ?_⟩
  have kk : Keep hp h4 := F4.keep
  exact h _ _ _ q (GS.keep (h' := h4) kk) kk (isO_new (N4 _ (.head _)).1 (N4 _ (.tail _ (.head _))).1 (by rfl)) ⟨by rfl, by rfl, by rfl, by rfl, by rfl, by rfl, by rfl, by rfl, by rfl, by rfl⟩ (by rfl) (by rfl)
theorem new_O (F : KF K) (D : KG K) {fm fc : Addr} (kc : KC K 368 fm fc 353) (ks : KS K 368) (B : Base K mg mb s₁) (G : Good s₁ s) (r : Rm A (n + 2)) {sets : Bool}
    (h : ∀ s' x f q, Go s₁ true s s' → Keep s.heap s'.heap → IsO s'.heap x 368 f → NoShadow f → f "qval" = some (.int 1 q) → f "as_set" = some (.bool sets) → R (.ok (.ret (.ref x))) s') :
    codeAny (model PG w) A (.call (.ref 368) ⟨[], [("as_set", .bool sets)]⟩) R s := by
  have X := G.kin B
  have lim := G.lim B
  have GS : Go s₁ true s s := Go.start G
  obtain ⟨hp, g, d, tk, os⟩ := s
  dsimp only at X lim
  refine make_core (makes_of X kc.mk_) (looks_findIn X kc.m_init) (fun self => bind_fn X self F.o_init.ty) (.inl rfl) ?_
  obtain ⟨oc, od, q, nn, sl, hdf⟩ := D.dO
  have kp : Keep hp ((hp.push emptyDict).push (instObj 368 hp.objs.size)) := (Keep.push _ _).trans (Keep.push _ _)
  have X' := X.keeps kp
  have gx : ((hp.push emptyDict).push (instObj 368 hp.objs.size)).get? (hp.objs.size + 1) = some (instObj 368 hp.objs.size) := by heap_get
  have gd : ((hp.push emptyDict).push (instObj 368 hp.objs.size)).get? hp.objs.size = some emptyDict := by heap_get
  refine enter (s := ⟨(hp.push emptyDict).push (instObj 368 hp.objs.size), g, d, tk, os⟩) F.o_init X' (lim.keeps kp) (r.make (C := 368) (vals := [])).depth (h' := (hp.push emptyDict).push (instObj 368 hp.objs.size))
    (binds := [("self", .ref (hp.objs.size + 1)), ("qval", .int 1 q), ("as_set", .bool sets), ("external", .bool true)])
    (fun nm doc pm an ct M A E Q qq => (binds_K (s := ⟨(hp.push emptyDict).push (instObj 368 hp.objs.size), g, d, tk, os⟩) X' rfl hdf rfl rfl rfl : BindsTo _ _ _ _) M A E Q qq) (Keep.refl _) (by rfl) fun h₁ tk1 E' hn _ k1 hlt => ?_
  show wpAny _ _ (execs [_, _, _] _) _ _ _
  have F0 : Fr hp ((hp.push emptyDict).push (instObj 368 hp.objs.size)).objs.size h₁ _ := ⟨hn, kp.trans k1, by rw [Heap.size_push, Heap.size_push]; exact Nat.le_add_right _ 2⟩
  have N0 : News hp ((hp.push emptyDict).push (instObj 368 hp.objs.size)).objs.size h₁ [(hp.objs.size + 1, instObj 368 hp.objs.size), (hp.objs.size, dictOf [] 0)] := by
    intro p hp'
    simp only [List.mem_cons, List.not_mem_nil, or_false] at hp'
    rcases hp' with rfl | rfl
    · exact ⟨k1 _ _ gx, Nat.ne_of_lt (Heap.lt_size gx), get_ge (Nat.le_add_right _ 1)⟩
    · exact ⟨k1 _ _ gd, Nat.ne_of_lt (Heap.lt_size gd), get_size _⟩
  have hne : ∀ p ∈ ([] : List (Addr × Obj)), p.1 ≠ hp.objs.size := fun _ h => nomatch h
  have hx1 : hp.objs.size + 1 ≠ hp.objs.size := Nat.succ_ne_self _
  refine wpAny_execs_cons (plainObj_wpAny_Assign_Attribute (nmL F0.ns (by rfl) (nmL F0.ns (by rfl) (set_dict (s := ⟨h₁, g, d, tk1, os⟩) F0 X N0 (InstAt.of_news N0 (.head _) (.tail _ (.head _))) rfl ks.sa kc.only (taker_none kc.n_qval) kc.hd rfl rfl (.tail hx1 (.head hne)) (Nat.le_trans (putB (Nat.zero_le 0)) (by decide)) fun h2 F2 N2 => ?_))))
  refine wpAny_execs_cons (plainObj_wpAny_Assign_Attribute (nmL F2.ns (by rfl) (nmL F2.ns (by rfl) (set_dict (s := ⟨h2, g, d, tk1 + 2, os⟩) F2 X N2 (InstAt.of_news N2 (.head _) (.tail _ (.head _))) rfl ks.sa kc.only (taker_none kc.n_as_set) kc.hd rfl rfl (.tail hx1 (.head hne)) (Nat.le_trans (putB (putB (Nat.zero_le 0))) (by decide)) fun h3 F3 N3 => ?_))))
  refine wpAny_execs_cons (plainObj_wpAny_Assign_Attribute (nmL F3.ns (by rfl) (nmL F3.ns (by rfl) (set_dict (s := ⟨h3, g, d, tk1 + 2 + 2, os⟩) F3 X N3 (InstAt.of_news N3 (.head _) (.tail _ (.head _))) rfl ks.sa kc.only (taker_none ks.n_ext) kc.hd rfl rfl (.tail hx1 (.head hne)) (Nat.le_trans (putB (putB (putB (Nat.zero_le 0)))) (by decide)) fun h4 F4 N4 => ?_))))
  refine wpAny_execs_nil ⟨rfl, ?_⟩
  have kk : Keep hp h4 := F4.keep
  exact h _ _ _ q (GS.keep (h' := h4) kk) kk (isO_new (N4 _ (.head _)).1 (N4 _ (.tail _ (.head _))).1 (by rfl)) ⟨by rfl, by rfl, by rfl, by rfl, by rfl, by rfl, by rfl, by rfl, by rfl, by rfl⟩ (by rfl) (by rfl)
theorem new_T0 (F : KF K) (D : KG K) {fm fc : Addr} (kc : KC K 336 fm fc 321) (ks : KS K 336) (B : Base K mg mb s₁) (G : Good s₁ s) (r : Rm A (n + 2)) {sets : Bool}
    (h : ∀ s' x f q, Go s₁ true s s' → Keep s.heap s'.heap → IsO s'.heap x 336 f → NoShadow f → f "qval" = some (.int 1 q) → f "as_set" = some (.bool sets) → f "bias" = some .none → f "ks" = some .none → R (.ok (.ret (.ref x))) s') :
    codeAny (model PG w) A (.call (.ref 336) ⟨[], [("as_set", .bool sets)]⟩) R s := by
  have X := G.kin B
  have lim := G.lim B
  have GS : Go s₁ true s s := Go.start G
  obtain ⟨hp, g, d, tk, os⟩ := s
  dsimp only at X lim
  refine make_core (makes_of X kc.mk_) (looks_findIn X kc.m_init) (fun self => bind_fn X self F.t_init.ty) (.inl rfl) ?_
  obtain ⟨oc, od, q, nn, sl, hdf⟩ := D.dT
  have kp : Keep hp ((hp.push emptyDict).push (instObj 336 hp.objs.size)) := (Keep.push _ _).trans (Keep.push _ _)
  have X' := X.keeps kp
  have gx : ((hp.push emptyDict).push (instObj 336 hp.objs.size)).get? (hp.objs.size + 1) = some (instObj 336 hp.objs.size) := by heap_get
  have gd : ((hp.push emptyDict).push (instObj 336 hp.objs.size)).get? hp.objs.size = some emptyDict := by heap_get
  refine enter (s := ⟨(hp.push emptyDict).push (instObj 336 hp.objs.size), g, d, tk, os⟩) F.t_init X' (lim.keeps kp) (r.make (C := 336) (vals := [])).depth (h' := (hp.push emptyDict).push (instObj 336 hp.objs.size))
    (binds := [("self", .ref (hp.objs.size + 1)), ("qval", .int 1 q), ("ks", .none), ("bias", .none), ("as_set", .bool sets), ("external", .bool true)])
    (fun nm doc pm an ct M A E Q qq => (binds_K (s := ⟨(hp.push emptyDict).push (instObj 336 hp.objs.size), g, d, tk, os⟩) X' rfl hdf rfl rfl rfl : BindsTo _ _ _ _) M A E Q qq) (Keep.refl _) (by rfl) fun h₁ tk1 E' hn _ k1 hlt => ?_
  show wpAny _ _ (execs [_, _, _, _, _] _) _ _ _
  have F0 : Fr hp ((hp.push emptyDict).push (instObj 336 hp.objs.size)).objs.size h₁ _ := ⟨hn, kp.trans k1, by rw [Heap.size_push, Heap.size_push]; exact Nat.le_add_right _ 2⟩
  have N0 : News hp ((hp.push emptyDict).push (instObj 336 hp.objs.size)).objs.size h₁ [(hp.objs.size + 1, instObj 336 hp.objs.size), (hp.objs.size, dictOf [] 0)] := by
    intro p hp'
    simp only [List.mem_cons, List.not_mem_nil, or_false] at hp'
    rcases hp' with rfl | rfl
    · exact ⟨k1 _ _ gx, Nat.ne_of_lt (Heap.lt_size gx), get_ge (Nat.le_add_right _ 1)⟩
    · exact ⟨k1 _ _ gd, Nat.ne_of_lt (Heap.lt_size gd), get_size _⟩
  have hne : ∀ p ∈ ([] : List (Addr × Obj)), p.1 ≠ hp.objs.size := fun _ h => nomatch h
  have hx1 : hp.objs.size + 1 ≠ hp.objs.size := Nat.succ_ne_self _
  refine wpAny_execs_cons (plainObj_wpAny_Assign_Attribute (nmL F0.ns (by rfl) (nmL F0.ns (by rfl) (set_dict (s := ⟨h₁, g, d, tk1, os⟩) F0 X N0 (InstAt.of_news N0 (.head _) (.tail _ (.head _))) rfl ks.sa kc.only (taker_none kc.n_qval) kc.hd rfl rfl (.tail hx1 (.head hne)) (Nat.le_trans (putB (Nat.zero_le 0)) (by decide)) fun h2 F2 N2 => ?_))))
  refine wpAny_execs_cons (plainObj_wpAny_Assign_Attribute (nmL F2.ns (by rfl) (nmL F2.ns (by rfl) (set_dict (s := ⟨h2, g, d, tk1 + 2, os⟩) F2 X N2 (InstAt.of_news N2 (.head _) (.tail _ (.head _))) rfl ks.sa kc.only (taker_none kc.n_ks) kc.hd rfl rfl (.tail hx1 (.head hne)) (Nat.le_trans (putB (putB (Nat.zero_le 0))) (by decide)) fun h3 F3 N3 => ?_))))
  refine wpAny_execs_cons (plainObj_wpAny_Assign_Attribute (nmL F3.ns (by rfl) (nmL F3.ns (by rfl) (set_dict (s := ⟨h3, g, d, tk1 + 2 + 2, os⟩) F3 X N3 (InstAt.of_news N3 (.head _) (.tail _ (.head _))) rfl ks.sa kc.only (taker_none kc.n_bias) kc.hd rfl rfl (.tail hx1 (.head hne)) (Nat.le_trans (putB (putB (putB (Nat.zero_le 0)))) (by decide)) fun h4 F4 N4 => ?_))))
  refine wpAny_execs_cons (plainObj_wpAny_Assign_Attribute (nmL F4.ns (by rfl) (nmL F4.ns (by rfl) (set_dict (s := ⟨h4, g, d, tk1 + 2 + 2 + 2, os⟩) F4 X N4 (InstAt.of_news N4 (.head _) (.tail _ (.head _))) rfl ks.sa kc.only (taker_none kc.n_as_set) kc.hd rfl rfl (.tail hx1 (.head hne)) (Nat.le_trans (putB (putB (putB (putB (Nat.zero_le 0))))) (by decide)) fun h5 F5 N5 => ?_))))
  refine wpAny_execs_cons (plainObj_wpAny_Assign_Attribute (nmL F5.ns (by rfl) (nmL F5.ns (by rfl) (set_dict (s := ⟨h5, g, d, tk1 + 2 + 2 + 2 + 2, os⟩) F5 X N5 (InstAt.of_news N5 (.head _) (.tail _ (.head _))) rfl ks.sa kc.only (taker_none ks.n_ext) kc.hd rfl rfl (.tail hx1 (.head hne)) (Nat.le_trans (putB (putB (putB (putB (putB (Nat.zero_le 0)))))) (by decide)) fun h6 F6 N6 => ?_))))
  refine wpAny_execs_nil ⟨rfl, ?_⟩
  have kk : Keep hp h6 := F6.keep
  exact h _ _ _ q (GS.keep (h' := h6) kk) kk (isO_new (N6 _ (.head _)).1 (N6 _ (.tail _ (.head _))).1 (by rfl)) ⟨by rfl, by rfl, by rfl, by rfl, by rfl, by rfl, by rfl, by rfl, by rfl, by rfl⟩ (by rfl) (by rfl) (by rfl) (by rfl)
theorem new_TK (F : KF K) (D : KG K) {fm fc : Addr} (kc : KC K 336 fm fc 321) (ks : KS K 336) (B : Base K mg mb s₁) (G : Good s₁ s) (r : Rm A (n + 2)) {sets : Bool} {KL : Addr}
    (h : ∀ s' x f q, Go s₁ true s s' → Keep s.heap s'.heap → IsO s'.heap x 336 f → NoShadow f → f "qval" = some (.int 1 q) → f "as_set" = some (.bool sets) → f "bias" = some .none → f "ks" = some (.ref KL) → R (.ok (.ret (.ref x))) s') :
    codeAny (model PG w) A (.call (.ref 336) ⟨[], [("ks", .ref KL), ("as_set", .bool sets)]⟩) R s := by
  have X := G.kin B
  have lim := G.lim B
  have GS : Go s₁ true s s := Go.start G
  obtain ⟨hp, g, d, tk, os⟩ := s
  dsimp only at X lim
  refine make_core (makes_of X kc.mk_) (looks_findIn X kc.m_init) (fun self => bind_fn X self F.t_init.ty) (.inl rfl) ?_
  obtain ⟨oc, od, q, nn, sl, hdf⟩ := D.dT
  have kp : Keep hp ((hp.push emptyDict).push (instObj 336 hp.objs.size)) := (Keep.push _ _).trans (Keep.push _ _)
  have X' := X.keeps kp
  have gx : ((hp.push emptyDict).push (instObj 336 hp.objs.size)).get? (hp.objs.size + 1) = some (instObj 336 hp.objs.size) := by heap_get
  have gd : ((hp.push emptyDict).push (instObj 336 hp.objs.size)).get? hp.objs.size = some emptyDict := by heap_get
  refine enter (s := ⟨(hp.push emptyDict).push (instObj 336 hp.objs.size), g, d, tk, os⟩) F.t_init X' (lim.keeps kp) (r.make (C := 336) (vals := [])).depth (h' := (hp.push emptyDict).push (instObj 336 hp.objs.size))
    (binds := [("self", .ref (hp.objs.size + 1)), ("qval", .int 1 q), ("ks", (.ref KL)), ("bias", .none), ("as_set", .bool sets), ("external", .bool true)])
    (fun nm doc pm an ct M A E Q qq => (binds_K (s := ⟨(hp.push emptyDict).push (instObj 336 hp.objs.size), g, d, tk, os⟩) X' rfl hdf rfl rfl rfl : BindsTo _ _ _ _) M A E Q qq) (Keep.refl _) (by rfl) fun h₁ tk1 E' hn _ k1 hlt => ?_
  show wpAny _ _ (execs [_, _, _, _, _] _) _ _ _
  have F0 : Fr hp ((hp.push emptyDict).push (instObj 336 hp.objs.size)).objs.size h₁ _ := ⟨hn, kp.trans k1, by rw [Heap.size_push, Heap.size_push]; exact Nat.le_add_right _ 2⟩
  have N0 : News hp ((hp.push emptyDict).push (instObj 336 hp.objs.size)).objs.size h₁ [(hp.objs.size + 1, instObj 336 hp.objs.size), (hp.objs.size, dictOf [] 0)] := by
    intro p hp'
    simp only [List.mem_cons, List.not_mem_nil, or_false] at hp'
    rcases hp' with rfl | rfl
    · exact ⟨k1 _ _ gx, Nat.ne_of_lt (Heap.lt_size gx), get_ge (Nat.le_add_right _ 1)⟩
    · exact ⟨k1 _ _ gd, Nat.ne_of_lt (Heap.lt_size gd), get_size _⟩
  have hne : ∀ p ∈ ([] : List (Addr × Obj)), p.1 ≠ hp.objs.size := fun _ h => nomatch h
  have hx1 : hp.objs.size + 1 ≠ hp.objs.size := Nat.succ_ne_self _
  refine wpAny_execs_cons (plainObj_wpAny_Assign_Attribute (nmL F0.ns (by rfl) (nmL F0.ns (by rfl) (set_dict (s := ⟨h₁, g, d, tk1, os⟩) F0 X N0 (InstAt.of_news N0 (.head _) (.tail _ (.head _))) rfl ks.sa kc.only (taker_none kc.n_qval) kc.hd rfl rfl (.tail hx1 (.head hne)) (Nat.le_trans (putB (Nat.zero_le 0)) (by decide)) fun h2 F2 N2 => ?_))))
  refine wpAny_execs_cons (plainObj_wpAny_Assign_Attribute (nmL F2.ns (by rfl) (nmL F2.ns (by rfl) (set_dict (s := ⟨h2, g, d, tk1 + 2, os⟩) F2 X N2 (InstAt.of_news N2 (.head _) (.tail _ (.head _))) rfl ks.sa kc.only (taker_none kc.n_ks) kc.hd rfl rfl (.tail hx1 (.head hne)) (Nat.le_trans (putB (putB (Nat.zero_le 0))) (by decide)) fun h3 F3 N3 => ?_))))
  refine wpAny_execs_cons (plainObj_wpAny_Assign_Attribute (nmL F3.ns (by rfl) (nmL F3.ns (by rfl) (set_dict (s := ⟨h3, g, d, tk1 + 2 + 2, os⟩) F3 X N3 (InstAt.of_news N3 (.head _) (.tail _ (.head _))) rfl ks.sa kc.only (taker_none kc.n_bias) kc.hd rfl rfl (.tail hx1 (.head hne)) (Nat.le_trans (putB (putB (putB (Nat.zero_le 0)))) (by decide)) fun h4 F4 N4 => ?_))))
  refine wpAny_execs_cons (plainObj_wpAny_Assign_Attribute (nmL F4.ns (by rfl) (nmL F4.ns (by rfl) (set_dict (s := ⟨h4, g, d, tk1 + 2 + 2 + 2, os⟩) F4 X N4 (InstAt.of_news N4 (.head _) (.tail _ (.head _))) rfl ks.sa kc.only (taker_none kc.n_as_set) kc.hd rfl rfl (.tail hx1 (.head hne)) (Nat.le_trans (putB (putB (putB (putB (Nat.zero_le 0))))) (by decide)) fun h5 F5 N5 => ?_))))
  refine wpAny_execs_cons (plainObj_wpAny_Assign_Attribute (nmL F5.ns (by rfl) (nmL F5.ns (by rfl) (set_dict (s := ⟨h5, g, d, tk1 + 2 + 2 + 2 + 2, os⟩) F5 X N5 (InstAt.of_news N5 (.head _) (.tail _ (.head _))) rfl ks.sa kc.only (taker_none ks.n_ext) kc.hd rfl rfl (.tail hx1 (.head hne)) (Nat.le_trans (putB (putB (putB (putB (putB (Nat.zero_le 0)))))) (by decide)) fun h6 F6 N6 => ?_))))
  refine wpAny_execs_nil ⟨rfl, ?_⟩
  have kk : Keep hp h6 := F6.keep
  exact h _ _ _ q (GS.keep (h' := h6) kk) kk (isO_new (N6 _ (.head _)).1 (N6 _ (.tail _ (.head _))).1 (by rfl)) ⟨by rfl, by rfl, by rfl, by rfl, by rfl, by rfl, by rfl, by rfl, by rfl, by rfl⟩ (by rfl) (by rfl) (by rfl) (by rfl)
end
end Mine
end

noncomputable section
open PySem PySem.Calls PySem.W PyProof.Rows Builtin Builtin.ObjectAttr
set_option maxRecDepth 100000
set_option maxHeartbeats 4000000
namespace Mine
theorem list_getL {M : Model} {h : Heap} {l : Addr} {items : Array Value} (hl : h.IsList l items) : ∃ r, Looks M h (specialOf (.ref l) "__getitem__") (some (.builtin r)) := by
  obtain ⟨⟨oc, od, odat, osl⟩, ho, hc, _⟩ := hl
  cases hc
  have L : Looks M h (typeOf (.ref l)) (.type "list") := (Looks.ld ho).andThen .now
  exact ⟨_, L.andThen (Looks.of_pure list_getitem_lookup)⟩
section
variable {w : World} {A : Around} {E : Value → Shared → Prop} {s : Shared} {env : Env}
/-- l[k] of a list -/
theorem item_L {value slice : PySem.Expr} {pos : Pos} {Q : Value → Shared → Prop}
    (h : wpAny (model PG w) A (PySem.eval value env) (fun o s₁ => wpAny (model PG w) A (PySem.eval slice env) (fun i s₂ => ∃ l items k u x, o = .ref l ∧ i = .int k u ∧ s₂.heap.IsList l items ∧ 0 ≤ k ∧ k < 2 ^ 63 ∧ items[k.toNat]? = some x ∧ Q x s₂) E s₁) E s)
    (hsl : ∀ o i, subscripted slice false o i = operate [o, i] (getItem o i) := by intro _ _; rfl)
    (ht : ∀ o r, letTemporaryGo value o r = pure () := by intro _ _; rfl) : wpAny (model PG w) A (PySem.eval (.Subscript value slice pos) env) Q E s := by
  refine sub_L (wpAny_mono h (fun o s₁ h₁ => wpAny_mono h₁ (fun i s₂ h₂ => ?_) fun _ _ x => x) fun _ _ x => x) hsl ht
  obtain ⟨l, items, k, u, x, rfl, rfl, hl, h0, h1, hx, q⟩ := h₂
  have hT : s₂.TypeIs (.ref l) "list" := hl.typeIs
  exact ⟨list_getL hl, by nofun, wpAny_getItem_list hl h0 h1 hx q⟩
end
theorem small_log {n : Nat} (h0 : 0 < n) (h : n ≤ 1000) : ((n : Nat) : Int).natAbs.log2 < 9000 := by
  rw [Int.natAbs_natCast]
  have : n.log2 < 10 := (Nat.log2_lt (Nat.pos_iff_ne_zero.mp h0)).mpr (by omega)
  omega
theorem pow7 {e : Nat} (h : e ≤ 1000) : ((7 : Int) ^ e).natAbs.log2 < 9000 := by
  have e1 : ((7 : Int) ^ e).natAbs = 7 ^ e := by rw [Int.natAbs_pow]; rfl
  rw [e1, Nat.log2_lt (Nat.pos_iff_ne_zero.mp (Nat.pow_pos (by decide)))]
  calc 7 ^ e ≤ 8 ^ e := Nat.pow_le_pow_left (by decide) _
    _ = 2 ^ (3 * e) := by rw [show (8 : Nat) = 2 ^ 3 from rfl, ← Nat.pow_mul]
    _ < 2 ^ 9000 := Nat.pow_lt_pow_right (by decide) (by omega)
section
variable {w : World} {A : Around} {s s' s₀ s₁ : Shared} {R : Result → Shared → Prop} {K : Frag} {mg mb : Str → Option Value} {n k : Nat} {t : Bool} {E : Value → Shared → Prop}
/-- what `told` is -/
structure Told (h : Heap) (TA AT : Addr) (items : Array Value) : Prop where
  l : h.IsList TA items
  i : ∀ (j : Nat) (x : Value), items[j]? = some x → ∃ n u, x = .int n u
  pos : 0 < items.size
  le : items.size ≤ 1000
  ne : TA ≠ AT
theorem c_drawn {TA AT : Addr} {items : Array Value} {k below : Nat} {u v : Tok} (F : KF K) (B : Base K mg mb s₁) (G₀ : Good s₁ s₀) (G : Go s₁ t s₀ s) (r : Rm A (n + 2)) (T : Told s.heap TA AT items)
    (hAT : s.heap.IsList AT #[.int k u]) (fAT : s₀.heap.get? AT = none) (hk : k ≤ 1000) (hb : 0 < below)
    (h : ∀ s' (m : Nat) u' u'', Go s₁ t s₀ s' → Heap.ExtBut AT s.heap s'.heap → s'.heap.IsList AT #[.int (k + 1 : Nat) u'] → m < below → R (.ok (.ret (.int m u''))) s') :
    codeAny (model PG w) A (.call (.ref 377) ⟨[.ref TA, .ref AT, .int below v], []⟩) R s := by
  refine enterP (binds := [("told", .ref TA), ("at", .ref AT), ("below", .int below v)]) F.f_drawn B G r (fun _ _ _ _ _ => BindsTo.of_eq rfl) (by rfl) fun s₂ L E' r₂ G₂ _ kp hL hn hcl => ?_
  show wpAny _ _ (execs [_, _, _] _) _ _ _
  have A2 : s₂.heap.IsList AT #[.int k u] := hAT.at fun o e => kp _ _ e
  have T2 := T.l.at fun o e => kp _ _ e
  have hAL : AT ≠ L := fun q => by obtain ⟨_, e, _⟩ := hAT; rw [q, hL] at e; cases e
  have hTL : TA ≠ L := fun q => by obtain ⟨_, e, _⟩ := T.l; rw [q, hL] at e; cases e
  -- k = at[0]
  refine wpAny_execs_cons (wpAny_Assign_Name (item_L (nmL hn (by rfl) (wpAny_Constant_int ⟨AT, _, 0, _, .int k u, rfl, rfl, A2, by decide, by decide, by rfl, stL (s := { s₂ with toks := _ }) hn fun h3 n3 hs3 => ?_⟩))))
  have A3 := A2.extBut hs3.extBut hAL
  have T3 := T2.extBut hs3.extBut hTL
  have x3 : Heap.ExtBut AT s.heap h3 := fun b o _ e => hs3.extBut b o (fun q => by rw [q, hL] at e; cases e) (kp _ _ e)
  have hL0 : s₀.heap.get? L = none := G.fresh L hL
  have G3 := fun tk => (G₂.same B hL0 hs3 G₀ (tk := tk))
  -- at[0] = k + 1
  refine wpAny_execs_cons (wpAny_Assign_Subscript (wpAny_BinOp (nmL n3 (by rfl) (wpAny_Constant_int (add_int (nmL n3 (by rfl) (wpAny_Constant_int (wpAny_setItem_list A3 (by decide) (by decide) (by simp) fun h4 A4 hs4 => ?_))))))))
  have G4 := fun tk => ((G3 0).same B fAT hs4 G₀ (tk := tk))
  have n4 := n3.sameBut hs4 hAL.symm
  have T4 := T3.extBut hs4.extBut T.ne
  have x4 : Heap.ExtBut AT s.heap h4 := fun b o hb e => hs4.extBut b o hb (x3 b o hb e)
  have hN : (items.size : Int) ≠ 0 := by have := T.pos; omega
  have hNn : ((items.size : Nat) : Int).toNat = items.size := by simp
  have hlg := small_log T.pos T.le
  have hmod : k % items.size < items.size := Nat.mod_lt _ T.pos
  have hle63 : ((k % items.size : Nat) : Int) < 2 ^ 63 := by have := T.le; omega
  have hle0 : ¬ ((items.size : Int) ≥ 2 ^ 63) := by have := T.le; omega
  have hfm : ((k : Int).fmod (items.size : Int)) = ((k % items.size : Nat) : Int) := by rw [Int.fmod_eq_emod_of_nonneg _ (by omega)]; rfl
  have hfd : ((k : Int).fdiv (items.size : Int)) = ((k / items.size : Nat) : Int) := by rw [Int.fdiv_eq_ediv_of_nonneg _ (by omega)]; rfl
  obtain ⟨x, hx⟩ : ∃ x, items[k % items.size]? = some x := ⟨_, Array.getElem?_eq_getElem hmod⟩
  obtain ⟨nn, un, rfl⟩ := T.i _ _ hx
  dsimp only
  refine wpAny_execs_cons (wpAny_Return_some (wpAny_BinOp (wpAny_BinOp (wpAny_BinOp (callP (nmB B (G4 _).good F.g_abs boot_abs (args_cons (item_L (nmL n4 (by rfl) (wpAny_BinOp (nmL n4 (by rfl) (callP (nmB B (G4 _).good F.g_len boot_len (args_cons (nmL n4 (by rfl) (args_nil ⟨keeper_bi, ?_⟩))))))))))))))))
  refine len_list T4 (by have := T.le; omega) (mod_int hN ?_)
  rw [hfm]
  refine ⟨TA, items, _, _, .int nn un, rfl, rfl, T4, (by omega), hle63, (by rw [Int.toNat_natCast]; exact hx), args_nil ⟨keeper_bi, ?_⟩⟩
  refine call_abs_int fun ua tka => ?_
  generalize (if nn < 0 then -nn else nn) = ab
  dsimp only
  refine wpAny_BinOp (wpAny_Constant_int (wpAny_BinOp (nmL n4 (by rfl) (callP (nmB B (G4 _).good F.g_len boot_len (args_cons (nmL n4 (by rfl) (args_nil ⟨keeper_bi, ?_⟩))))))))
  refine len_list T4 (by have := T.le; omega) (floordiv_int hN ?_ (.inl (PyProof.noPylong_of_log2 hlg)))
  rw [hfd]
  have hq : k / items.size ≤ 1000 := Nat.le_trans (Nat.div_le_self _ _) hk
  refine pow_int_small (Int.natCast_nonneg _) (Int.le_trans (Int.ofNat_le.mpr hq) (by decide)) (by decide) ?_
  rw [Int.toNat_natCast]
  refine floordiv_int (Int.ne_of_gt (Int.pow_pos (by decide))) ?_ (.inl (PyProof.noPylong_of_log2 (pow7 hq)))
  refine nmL n4 (by rfl) (add_int (nmL n4 (by rfl) (mod_int (by omega) ?_)))
  generalize hz : (ab.fdiv (7 ^ (k / items.size)) + (k : Int)) = z
  have hlt : z.fmod below < below := Int.fmod_lt_of_pos _ (by omega)
  have hge : 0 ≤ z.fmod below := Int.fmod_nonneg_of_pos _ (by omega)
  obtain ⟨m, hm⟩ : ∃ m : Nat, z.fmod below = m := ⟨(z.fmod below).toNat, by omega⟩
  rw [hm]
  exact h _ m _ _ (G4 _) x4 (by simpa using A4) (by omega)
end
end Mine
end

noncomputable section
open PySem PySem.Calls PySem.W PyProof.Rows Builtin Builtin.ObjectAttr
set_option maxRecDepth 100000
set_option maxHeartbeats 4000000
namespace Mine
section
variable {w : World} {A : Around} {s s' s₀ s₁ : Shared} {R : Result → Shared → Prop} {K : Frag} {mg mb : Str → Option Value} {n k : Nat} {t : Bool} {E : Value → Shared → Prop}
theorem items_signs {y : Str} {acc : Array Value} (h : ItemsOf (SignAt y) acc y.cps.size) : StrsAre acc.toList (signs y) := by
  obtain ⟨h1, h2⟩ := h
  have a1 : ∀ v ∈ acc.toList, ∃ x t, v = .str x t := by
    intro v hv
    obtain ⟨i, hi, e⟩ := List.mem_iff_getElem.mp hv
    obtain ⟨k, u, _, rfl⟩ := signs_at (h2 i v (by rw [← Array.getElem?_toList, List.getElem?_eq_getElem hi, e]))
    exact ⟨_, _, rfl⟩
  have e : acc.toList.map strOf = signs y := by
    apply List.ext_getElem?
    intro i
    by_cases hi : i < acc.size
    · have e1 : acc.toList[i]? = some acc[i] := by rw [Array.getElem?_toList]; exact Array.getElem?_eq_getElem hi
      obtain ⟨k, u, e2, e3⟩ := signs_at (h2 i acc[i] (Array.getElem?_eq_getElem hi))
      rw [List.getElem?_map, e1, e2, e3]; rfl
    · rw [List.getElem?_eq_none (by simpa using Nat.le_of_not_lt hi), List.getElem?_eq_none (by unfold signs; simp; omega)]
  rw [← e]
  exact strsAre_map _ a1
theorem sorted_str {y : Str} {u : Tok} {Q : Value → Shared → Prop} (hA : A.handled = none) (hy : y.cps.size < 64)
    (h : ∀ h' tk vs' ss' D, Keep s.heap h' → h'.PlainList D (List.toArray vs') → s.heap.get? D = none → StrsAre vs' ss' → ss'.Perm (signs y) → sortedS ss' = true → Q (.ref D) { s with heap := h', toks := tk }) :
    wpAny (model PG w) A (call (.builtin "sorted") [.str y u]) Q E s := by
  refine Calls.call_function_entry kind_sorted plain_sorted entry_sorted (args_sorted1 _) ?_
  unfold Builtin.«sorted»
  refine wpAny_bind (m := checkCount "sorted" 1 1 _) (wpAny_pure ?_)
  refine wpAny_bind (wpAny_collect_str (show A.in1.handled = none from hA) y u (fun s' acc k e1 e2 e3 hi => ?_) (by rw [sizeLine_eq]; omega))
  obtain ⟨hp, g, d, tk, os⟩ := s'
  dsimp only at e1 e2 e3 k
  subst e1 e2 e3
  have hS := items_signs hi
  have hlen : acc.toList.length < 64 := by
    have := hi.1
    simp; omega
  refine wpAny_bind (wpAny_newList ?_)
  have hoL : (hp.push (seqObj "list" acc.toList.toArray 0)).get? hp.objs.size = some (seqObj "list" acc.toList.toArray 0) := Heap.get?_push_size _ rfl
  refine wpAny_bind (wpAny_holding (wpAny_call_entry slot_list_sort ⟨_, hoL, rfl⟩ entry_list_sort (list_sort_treeK strKind_oneLt hoL hS.keysOf (fun v₁ v₂ rest e => keyKind_strs (by rw [← e]; exact hS)) hlen fun st' hp' hs => ⟨_, rfl, ?_⟩) (args_list_sort _)))
  obtain ⟨ss', h1, h2, h3⟩ := sorted_out_str hS hp' hs
  refine wpAny_pure ⟨_, rfl, ?_⟩
  obtain ⟨e, he⟩ := sortedHeap_at (h := hp.push (seqObj "list" acc.toList.toArray 0)) (a := hp.objs.size) (vs := acc.toList) (out := (arrOf st').map (·.2)) (n := 0) hoL
  have kp : Keep s.heap (sortedHeap (hp.push (seqObj "list" acc.toList.toArray 0)) hp.objs.size acc.toList ((arrOf st').map (·.2))) := fun b o eb => by
    have := k b o eb
    have hb := Heap.lt_size this
    rw [sortedHeap_old (Nat.ne_of_lt hb) (by rw [Heap.size_push]; exact Nat.lt_succ_of_lt hb)]
    exact Heap.get?_push_of_some _ this
  refine h _ tk ((arrOf st').map (·.2)).toList ss' hp.objs.size kp ⟨_, he⟩ ?_ h1 h2 h3
  cases q : s.heap.get? hp.objs.size with
  | none => rfl
  | some o => exact absurd (Heap.lt_size (k _ _ q)) (Nat.lt_irrefl _)
end
end Mine
end

noncomputable section
open PySem PySem.Calls PySem.W PyProof.Rows Builtin Builtin.ObjectAttr
set_option maxRecDepth 100000
set_option maxHeartbeats 4000000
namespace Mine
/-- all but some addresses and the tables -/
def ExtM (Ms : List Addr) (h h' : Heap) : Prop := ∀ b o, b ∉ Ms → isTab o = false → h.get? b = some o → h'.get? b = some o
theorem ExtM.refl (Ms : List Addr) (h : Heap) : ExtM Ms h h := fun _ _ _ _ e => e
theorem ExtM.of_ext {Ms : List Addr} {h h' : Heap} (x : Ext h h') : ExtM Ms h h' := fun b o _ z e => x b o z e
theorem ExtM.of_but {Ms : List Addr} {h h' : Heap} {a : Addr} (x : Heap.ExtBut a h h') (ha : a ∈ Ms) : ExtM Ms h h' := fun b o hb _ e => x b o (fun q => hb (q ▸ ha)) e
theorem ExtM.trans {Ms : List Addr} {h h' h'' : Heap} (x : ExtM Ms h h') (y : ExtM Ms h' h'') : ExtM Ms h h'' := fun b o m z e => y b o m z (x b o m z e)
theorem ExtM.more {Ms Ns : List Addr} {h h' : Heap} (x : ExtM Ms h h') (y : ∀ a ∈ Ms, a ∈ Ns) : ExtM Ns h h' := fun b o m z e => x b o (fun q => m (y b q)) z e
theorem ExtM.list {Ms : List Addr} {h h' : Heap} {a : Addr} {v} (x : ExtM Ms h h') (n : h.IsList a v) (z : a ∉ Ms) : h'.IsList a v :=
  let ⟨o, ho, hc, r⟩ := n; ⟨o, x _ _ z (isTab_cls (by rw [hc]; nofun)) ho, hc, r⟩
theorem ExtM.plain {Ms : List Addr} {h h' : Heap} {a : Addr} {v} (x : ExtM Ms h h') (n : h.PlainList a v) (z : a ∉ Ms) : h'.PlainList a v :=
  let ⟨k, e⟩ := n; ⟨k, x _ _ z (isTab_cls (by nofun)) e⟩
theorem ExtM.ns {Ms : List Addr} {h h' : Heap} {a : Addr} {m} (x : ExtM Ms h h') (n : h.Ns a m) (z : a ∉ Ms) : h'.Ns a m :=
  let ⟨o, es, ep, ho, hd, r⟩ := n; ⟨o, es, ep, x _ _ z (isTab_dict hd) ho, hd, r⟩
theorem ExtM.cell {Ms : List Addr} {h h' : Heap} {a : Addr} {v} (x : ExtM Ms h h') (n : h.IsCell a v) (z : a ∉ Ms) : h'.IsCell a v :=
  let ⟨o, ho, hd⟩ := n; ⟨o, x _ _ z (isTab_cell hd) ho, hd⟩
section
variable {prog : Program} {w : World} {I : Addr} {fp : List Addr} {n : Nat} {P : Nat → Value → Prop} {St : Nat → Heap → Prop}
theorem Wk.extM (x : Wk prog w I fp n P St) {i : Nat} {h h' : Heap} {Ms : List Addr} (st : St i h) (e : ExtM Ms h h') (hc : ∀ a ∈ Ms, a ∉ fp) : St i h' :=
  (x.W {} rfl).frame i h h' st fun b hb o ho => by
    obtain ⟨o', q, z⟩ := x.nt i h st b hb
    rw [q] at ho; cases ho
    exact e _ _ (fun q => hc b q hb) z q
end
section
variable {prog : Program} {w : World} {A : Around} {E : Value → Shared → Prop} {s : Shared}
/-- the turns of a list comprehension that may change some objects -/
theorem listLoop_M {I D : Addr} {Ms : List Addr} {fp : List Addr} {n : Nat} {P : Nat → Value → Prop} {St : Nat → Heap → Prop} {R : Result → Shared → Prop} {elt iter : Expr} {x : Str} {px : Pos} {ifs : List Expr} {scope : Scope} {pos : Pos} {cenv : Env}
    (W : Wk prog w I fp n P St) (hA : A.handled = none) (hD : D ∉ fp) (hc : ∀ a ∈ Ms, a ∉ fp) (hcD : D ∉ Ms) (hn : n ≤ 1000)
    (J : Nat → List Value → Shared → Prop)
    (stab : ∀ i ys s h' tk a, a = I ∨ a = D → J i ys s → Heap.ExtBut a s.heap h' → J i ys { s with heap := h', toks := tk })
    (turn : ∀ i ys v s, i < n → ys.length ≤ i → P i v → J i ys s → s.heap.PlainList D ys.toArray → St (i + 1) s.heap → ∀ N,
      wpAny (model prog w) A (storeName cenv x v) (fun _ s₂ => wpAny (model prog w) A (testsOf ifs cenv) (fun ok s₃ =>
        if ok = true then wpAny (model prog w) A (eval elt cenv) (fun y s₄ => ExtM Ms s.heap s₄.heap ∧ J (i + 1) (ys ++ [y]) s₄) N s₃
        else ExtM Ms s.heap s₃.heap ∧ J (i + 1) ys s₃) N s₂) N s)
    (fin : ∀ ys s, ys.length ≤ n → J n ys s → s.heap.PlainList D ys.toArray → R (.ok .next) s)
    (j : J 0 [] s) (hl : s.heap.PlainList D #[]) (st : St 0 s.heap) :
    codeAny (model prog w) A (.compStart (.ListComp elt [⟨.Name x px, iter, ifs, 0⟩] scope pos) 0 (.ref I) (.ref D) cenv) R s := by
  have hDI : D ≠ I := fun q => hD (q ▸ W.I_in)
  have loop : codeAny (model prog w) A (.compLoop (.ListComp elt [⟨.Name x px, iter, ifs, 0⟩] scope pos) 0 (.ref I) (.ref D) cenv) R s := by
    refine codeAny_compLoop_tests (fun k s => ∃ i ys, i ≤ n ∧ k = n - i ∧ ys.length ≤ i ∧ J i ys s ∧ s.heap.PlainList D ys.toArray ∧ St i s.heap) ?_ n ⟨0, [], Nat.zero_le _, rfl, Nat.le_refl _, j, hl, st⟩
    rintro k s ⟨i, ys, hi, rfl, hy, j, hl, st⟩
    by_cases e : i = n
    · subst e
      refine (W.W A hA).done s _ _ st fun h' tk hk => ?_
      have hb : Heap.ExtBut I s.heap h' := fun b o hb e => hk b o (by simpa using hb) e
      exact fin ys _ hy (stab _ _ _ _ _ _ (.inl rfl) j hb) (hl.extBut hb hDI)
    · have hlt : i < n := Nat.lt_of_le_of_ne hi e
      refine (W.W A hA).item i s _ _ hlt st fun v h' tk hv hst' hk => ?_
      have hb : Heap.ExtBut I s.heap h' := fun b o hb e => hk b o (by simpa using hb) e
      have hl' : h'.PlainList D ys.toArray := hl.extBut hb hDI
      refine wpAny_assign_Name (wpAny_mono (turn i ys v { s with heap := h', toks := tk } hlt hy hv (stab _ _ _ _ _ _ (.inl rfl) j hb) hl' hst' _) (fun _ s₂ z => wpAny_mono z (fun ok s₃ y => ?_) fun _ _ y => y) fun _ _ y => y)
      cases ok with
      | false =>
        simp only [Bool.false_eq_true, if_false] at y ⊢
        exact ⟨n - (i + 1), by omega, i + 1, ys, hlt, rfl, Nat.le_succ_of_le hy, y.2, y.1.plain hl' hcD, W.extM hst' y.1 hc⟩
      | true =>
        simp only [if_true] at y ⊢
        refine wpAny_mono y (fun yv s₄ z => ?_) fun _ _ y => y
        have hl₄ := z.1.plain hl' hcD
        refine wpAny_list_append_plain hl₄ (fun h₅ hl₅ hs₅ => ?_) (by rw [List.size_toArray, sizeLine_eq]; omega)
        refine ⟨n - (i + 1), by omega, i + 1, ys ++ [yv], hlt, rfl, by simp; omega, ?_, by simpa using hl₅, W.but (W.extM hst' z.1 hc) hs₅.extBut hD⟩
        exact stab _ _ _ _ _ _ (.inr rfl) z.2 hs₅.extBut
  exact codeAny_compStart_list loop ((W.W A hA).self 0 s _ _ st loop)
end
section
variable {w : World} {A : Around} {s s' s₀ s₁ : Shared} {R : Result → Shared → Prop} {K : Frag} {mg mb : Str → Option Value} {t : Bool} {E : Value → Shared → Prop}
/-- the comprehension around its turns (plain list); nothing of its own in cells -/
theorem listCP {elt iter : Expr} {x : Str} {px : Pos} {ifs : List Expr} {scope : Scope} {cl : List (Str × Addr)} {pos : Pos} {env : Env} {use : Option (Value → Sem Unit)} {Q : Value → Shared → Prop}
    (hclos : closureFor scope env = pure cl) (hcell : ∀ y ∈ scope.names, y.2 ≠ .cell) (hkind : scope.kind = .function)
    (hnames : ∀ y ∈ scope.names, y.2 = .local → scope.names.lookup y.1 = some .local)
    (h : wpAny (model PG w) A (eval iter env) (fun xv s₁ => wpAny (model PG w) A (pyIter xv) (fun it s₂ => ∀ D C h' tk, s₂.heap.objs.size ≤ D → s₂.heap.objs.size ≤ C → D ≠ C → Keep s₂.heap h' → h'.Ns C (fun _ => none) → h'.PlainList D #[] →
      codeAny (model PG w) A (.compStart (.ListComp elt [⟨.Name x px, iter, ifs, 0⟩] scope pos) 0 it (.ref D) (compEnvC scope cl C env)) (compPost (model PG w) A E use Q (.ref D) C) { s₂ with heap := h', toks := tk }) E s₁) E s)
    (hs : ∀ x, foldedSetIterable iter env x = pure x := by intro _; rfl) :
    wpAny (model PG w) A (comprehension (.ListComp elt [⟨.Name x px, iter, ifs, 0⟩] scope pos) scope env (firstIterPos [⟨.Name x px, iter, ifs, 0⟩] pos) (newList []) false (eval iter env) use) Q E s := by
  refine wpAny_comprehension_free rfl hs hclos hkind hnames (wpAny_mono h (fun xv s₁ h₁ => wpAny_mono h₁ (fun it s₂ h₂ => ?_) fun _ _ e => e) fun _ _ e => e)
  refine wpAny_newObj_type (wpAny_newFunctionEnv hcell (by intro y hy; simp at hy) (fun h₁ hns₁ hsb₁ => ?_) hkind)
  dsimp only at hns₁ hsb₁ ⊢
  refine h₂ s₂.heap.objs.size _ h₁ _ (Nat.le_refl _) ?_ ?_ (fun b o e => ?_) hns₁ ?_
  · rw [Heap.size_push]; exact Nat.le_succ _
  · rw [Heap.size_push]; exact Nat.ne_of_lt (Nat.lt_succ_self _)
  · exact hsb₁.extBut b o (by rw [Heap.size_push]; exact Nat.ne_of_lt (Nat.lt_succ_of_lt (Heap.lt_size e))) (Heap.get?_push_of_some _ (Heap.get?_push_of_some _ e))
  · exact ⟨_, hsb₁.extBut _ _ (by rw [Heap.size_push]; exact Nat.ne_of_lt (Nat.lt_succ_self _)) (Heap.get?_push_of_some _ (Heap.get?_push_size _ rfl))⟩
/-- the same; the target lies in a cell of the comprehension's own -/
theorem listC1 {elt iter : Expr} {x : Str} {px : Pos} {ifs : List Expr} {scope : Scope} {cl : List (Str × Addr)} {pos : Pos} {env : Env} {use : Option (Value → Sem Unit)} {Q : Value → Shared → Prop}
    (hclos : closureFor scope env = pure cl) (hlay : ∀ n, cellsFrom n scope.names cl = (x, n) :: cl) (hpush : ∀ h, pushCells h scope.names = h.push { cls := .type "cell", data := .cell none }) (hkind : scope.kind = .function)
    (hnames : ∀ y ∈ scope.names, y.2 = .local → scope.names.lookup y.1 = some .local)
    (h : wpAny (model PG w) A (eval iter env) (fun xv s₁ => wpAny (model PG w) A (pyIter xv) (fun it s₂ => ∀ D C h' tk, s₂.heap.objs.size ≤ D → s₂.heap.objs.size ≤ C → D ≠ C → D ≠ C + 1 → Keep s₂.heap h' → h'.Ns C (fun _ => none) → h'.IsCell (C + 1) none → h'.PlainList D #[] →
      codeAny (model PG w) A (.compStart (.ListComp elt [⟨.Name x px, iter, ifs, 0⟩] scope pos) 0 it (.ref D) (compEnvC scope ((x, C + 1) :: cl) C env)) (compPost (model PG w) A E use Q (.ref D) C) { s₂ with heap := h', toks := tk }) E s₁) E s)
    (hs : ∀ x, foldedSetIterable iter env x = pure x := by intro _; rfl) :
    wpAny (model PG w) A (comprehension (.ListComp elt [⟨.Name x px, iter, ifs, 0⟩] scope pos) scope env (firstIterPos [⟨.Name x px, iter, ifs, 0⟩] pos) (newList []) false (eval iter env) use) Q E s := by
  refine wpAny_comprehension_free rfl hs hclos hkind hnames (wpAny_mono h (fun xv s₁ h₁ => wpAny_mono h₁ (fun it s₂ h₂ => ?_) fun _ _ e => e) fun _ _ e => e)
  refine wpAny_newObj_type ?_
  simp only [newFunctionEnv, Option.isSome_some, if_true]
  refine wpAny_bind (wpAny_alloc (wpAny_bind (wpAny_layCells _ (fun name kind cells => by cases hkc : kind == NameKind.cell <;> simp [hkc]) _ _ _ _ (wpAny_bind ?_))))
  rw [List.forIn_nil]
  refine wpAny_pure (wpAny_pure ?_)
  dsimp only
  rw [hlay, hpush]
  have z1 : (s₂.heap.push { cls := .type "list", data := .seq ([] : List Value).toArray }).objs.size = s₂.heap.objs.size + 1 := Heap.size_push ..
  have z2 : ((s₂.heap.push { cls := .type "list", data := .seq ([] : List Value).toArray }).push { cls := .type "dict", data := .dict #[] }).objs.size = s₂.heap.objs.size + 1 + 1 := by rw [Heap.size_push, z1]
  have q := h₂ s₂.heap.objs.size (s₂.heap.objs.size + 1) (((s₂.heap.push { cls := .type "list", data := .seq ([] : List Value).toArray }).push { cls := .type "dict", data := .dict #[] }).push { cls := .type "cell", data := .cell none }) s₂.toks (Nat.le_refl _) (Nat.le_succ _) (Nat.ne_of_lt (Nat.lt_succ_self _)) (Nat.ne_of_lt (Nat.lt_succ_of_lt (Nat.lt_succ_self _)))
    ((Keep.push _ _).trans ((Keep.push _ _).trans (Keep.push _ _))) ?_ ?_ ⟨0, ?_⟩
  · rw [z1, z2]
    exact q
  · have := (Heap.Ns.new (s₂.heap.push { cls := .type "list", data := .seq ([] : List Value).toArray }) (.type "dict")).keeps (Keep.push _ { cls := .type "cell", data := .cell none })
    rw [z1] at this; exact this
  · have := Heap.get?_push_size (o := { cls := .type "cell", data := .cell none }) ((s₂.heap.push { cls := .type "list", data := .seq ([] : List Value).toArray }).push { cls := .type "dict", data := .dict #[] }) rfl
    rw [z2] at this
    exact ⟨_, this, rfl⟩
  · exact Heap.get?_push_of_some _ (Heap.get?_push_of_some _ (Heap.get?_push_size _ rfl))
/-- a list comprehension -/
theorem compM {elt iter : Expr} {x : Str} {px : Pos} {ifs : List Expr} {scope : Scope} {cl : List (Str × Addr)} {pos : Pos} {env : Env} {use : Option (Value → Sem Unit)} {Q : Value → Shared → Prop} (Ms : List Addr) (B : Base K mg mb s₁) (G₀ : Good s₁ s₀) (hA : A.handled = none)
    (hclos : closureFor scope env = pure cl) (hcell : ∀ y ∈ scope.names, y.2 ≠ .cell) (hkind : scope.kind = .function) (hnames : ∀ y ∈ scope.names, y.2 = .local → scope.names.lookup y.1 = some .local)
    (hkx : ∀ C, (compEnvC scope cl C env).kindOf x = some .local)
    (h : wpAny (model PG w) A (eval iter env) (fun xv s₁' => wpAny (model PG w) A (pyIter xv) (fun it s₂ => ∃ (I : Addr) (fp : List Addr) (n : Nat) (P : Nat → Value → Prop) (St : Nat → Heap → Prop) (U : Nat → List Value → Shared → Prop), it = .ref I ∧ Go s₁ t s₀ s₂ ∧ s₀.heap.get? I = none ∧ Wk PG w I fp n P St ∧ St 0 s₂.heap ∧ n ≤ 1000 ∧ (∀ b ∈ fp, b < s₂.heap.objs.size) ∧ (∀ a ∈ Ms, a ∉ fp ∧ a < s₂.heap.objs.size) ∧ (∀ h' tk, Keep s₂.heap h' → U 0 [] { s₂ with heap := h', toks := tk }) ∧
      (∀ i ys (s' : Shared) h' tk a, (a = I ∨ s₂.heap.get? a = none) → U i ys s' → Heap.ExtBut a s'.heap h' → U i ys { s' with heap := h', toks := tk }) ∧
      (∀ i ys v (s' : Shared) C m N, i < n → P i v → U i ys s' → Go s₁ t s₀ s' → s₂.heap.get? C = none → s'.heap.Ns C m → m x = some v → s'.heap.get? C ≠ none →
        wpAny (model PG w) A (testsOf ifs (compEnvC scope cl C env)) (fun ok s₃ => if ok = true then wpAny (model PG w) A (eval elt (compEnvC scope cl C env)) (fun y s₄ => ExtM Ms s'.heap s₄.heap ∧ Go s₁ t s₀ s₄ ∧ U (i + 1) (ys ++ [y]) s₄) N s₃
          else ExtM Ms s'.heap s₃.heap ∧ Go s₁ t s₀ s₃ ∧ U (i + 1) ys s₃) N s') ∧
      (∀ ys (s' : Shared) D C m, U n ys s' → Go s₁ t s₀ s' → s'.heap.PlainList D (List.toArray ys) → s'.heap.Ns C m → s₂.heap.get? D = none → s₂.heap.get? C = none → D ≠ C → compPost (model PG w) A E use Q (.ref D) C (.ok .next) s')) E s₁') E s)
    (hs : ∀ x, foldedSetIterable iter env x = pure x := by intro _; rfl) :
    wpAny (model PG w) A (comprehension (.ListComp elt [⟨.Name x px, iter, ifs, 0⟩] scope pos) scope env (firstIterPos [⟨.Name x px, iter, ifs, 0⟩] pos) (newList []) false (eval iter env) use) Q E s := by
  refine listCP hclos hcell hkind hnames (wpAny_mono h (fun xv s₁' h₁ => wpAny_mono h₁ (fun it s₂ h₂ => ?_) fun _ _ e => e) fun _ _ e => e) hs
  obtain ⟨I, fp, n, P, St, U, rfl, G2, hI, W, st, hn, hfp, hMs, hU, stab, turn, fin⟩ := h₂
  intro D C h' tk hD hC hDC hk hnC hlD
  have hD2 : s₂.heap.get? D = none := get_ge hD
  have hC2 : s₂.heap.get? C = none := get_ge hC
  have hDs : s₀.heap.get? D = none := G2.fresh _ hD2
  have hCs : s₀.heap.get? C = none := G2.fresh _ hC2
  have hIC : C ≠ I := fun q => Nat.lt_irrefl _ (Nat.lt_of_lt_of_le (hfp _ W.I_in) (q ▸ hC))
  have hDf : D ∉ fp := fun q => Nat.lt_irrefl _ (Nat.lt_of_lt_of_le (hfp _ q) hD)
  have hCf : C ∉ fp := fun q => Nat.lt_irrefl _ (Nat.lt_of_lt_of_le (hfp _ q) hC)
  have hCM : C ∉ Ms := fun q => Nat.lt_irrefl _ (Nat.lt_of_lt_of_le (hMs _ q).2 hC)
  have hDM : D ∉ Ms := fun q => Nat.lt_irrefl _ (Nat.lt_of_lt_of_le (hMs _ q).2 hD)
  refine listLoop_M (Ms := C :: Ms) W hA hDf (fun a ha => ?_) (by simp only [List.mem_cons, not_or]; exact ⟨hDC, hDM⟩) hn (fun i ys s' => Go s₁ t s₀ s' ∧ U i ys s' ∧ ∃ m, s'.heap.Ns C m) ?_ ?_ ?_ ⟨G2.keep hk, hU _ _ hk, _, hnC⟩ hlD ?_
  · rcases List.mem_cons.mp ha with rfl | ha
    · exact hCf
    · exact (hMs a ha).1
  · rintro i ys s' h' tk a ha ⟨g, u, m, hm⟩ hb
    rcases ha with rfl | rfl
    · exact ⟨g.but B hI hb G₀, stab _ _ _ _ _ _ (.inl rfl) u hb, m, hm.extBut hb hIC⟩
    · exact ⟨g.but B hDs hb G₀, stab _ _ _ _ _ _ (.inr hD2) u hb, m, hm.extBut hb hDC.symm⟩
  · rintro i ys v s' hi hy hv ⟨g, u, m, hm⟩ hl st' N
    refine wpAny_storeName_local (hkx _) hm (fun h4 hn4 hs4 => ?_) (by simp only [compEnvC, relabel, hkind]; rfl)
    have g4 := g.same B hCs hs4 G₀ (tk := s'.toks + 1)
    have x4 : ExtM (C :: Ms) s'.heap h4 := .of_but hs4.extBut (.head _)
    have hne : h4.get? C ≠ none := by
      obtain ⟨_, _, _, e, _⟩ := hn4
      have e' : h4.get? C = some _ := e
      rw [e']; nofun
    refine wpAny_mono (turn i ys v { s' with heap := h4, toks := s'.toks + 1 } C _ N hi hv (stab _ _ _ _ _ _ (.inr hC2) u hs4.extBut) g4 hC2 hn4 (if_pos rfl) hne) (fun ok s₃ y => ?_) fun _ _ y => y
    cases ok with
    | false =>
      simp only [Bool.false_eq_true, if_false] at y ⊢
      obtain ⟨y1, y2, y3⟩ := y
      exact ⟨x4.trans (y1.more fun a ha => .tail _ ha), y2, y3, _, y1.ns hn4 hCM⟩
    | true =>
      simp only [if_true] at y ⊢
      refine wpAny_mono y (fun yv s₄ z => ?_) fun _ _ y => y
      obtain ⟨y1, y2, y3⟩ := z
      exact ⟨x4.trans (y1.more fun a ha => .tail _ ha), y2, y3, _, y1.ns hn4 hCM⟩
  · rintro ys s' hy ⟨g, u, m, hm⟩ hl
    exact fin ys s' D C m u g hl hm hD2 hC2 hDC
  · exact (W.W A hA).frame _ _ _ st fun b hb o e => hk b o e
/-- a list comprehension whose target lies in a cell of its own -/
theorem compMC {elt iter : Expr} {x : Str} {px : Pos} {ifs : List Expr} {scope : Scope} {cl : List (Str × Addr)} {pos : Pos} {env : Env} {use : Option (Value → Sem Unit)} {Q : Value → Shared → Prop} (Ms : List Addr) (B : Base K mg mb s₁) (G₀ : Good s₁ s₀) (hA : A.handled = none)
    (hclos : closureFor scope env = pure cl) (hlay : ∀ n, cellsFrom n scope.names cl = (x, n) :: cl) (hpush : ∀ h, pushCells h scope.names = h.push { cls := .type "cell", data := .cell none }) (hkind : scope.kind = .function) (hnames : ∀ y ∈ scope.names, y.2 = .local → scope.names.lookup y.1 = some .local)
    (hkx : ∀ C, (compEnvC scope ((x, C + 1) :: cl) C env).kindOf x = some .cell)
    (h : wpAny (model PG w) A (eval iter env) (fun xv s₁' => wpAny (model PG w) A (pyIter xv) (fun it s₂ => ∃ (I : Addr) (fp : List Addr) (n : Nat) (P : Nat → Value → Prop) (St : Nat → Heap → Prop) (U : Addr → Addr → Nat → List Value → Shared → Prop), it = .ref I ∧ Go s₁ t s₀ s₂ ∧ s₀.heap.get? I = none ∧ Wk PG w I fp n P St ∧ St 0 s₂.heap ∧ n ≤ 1000 ∧ (∀ b ∈ fp, b < s₂.heap.objs.size) ∧ (∀ a ∈ Ms, a ∉ fp ∧ a < s₂.heap.objs.size) ∧ (∀ D C h' tk, Keep s₂.heap h' → U D C 0 [] { s₂ with heap := h', toks := tk }) ∧
      (∀ D C i ys (s' : Shared) h' tk a, (a = I ∨ a = D ∨ a = C ∨ a = C + 1) → U D C i ys s' → Heap.ExtBut a s'.heap h' → U D C i ys { s' with heap := h', toks := tk }) ∧
      (∀ D i ys v (s' : Shared) C m N, i < n → P i v → U D C i ys s' → s'.heap.PlainList D (List.toArray ys) → s'.heap.get? I ≠ none → s₂.heap.get? D = none → Go s₁ t s₀ s' → s₂.heap.get? C = none → s₂.heap.get? (C + 1) = none → s'.heap.Ns C m → s'.heap.IsCell (C + 1) (some v) →
        wpAny (model PG w) A (testsOf ifs (compEnvC scope ((x, C + 1) :: cl) C env)) (fun ok s₃ => if ok = true then wpAny (model PG w) A (eval elt (compEnvC scope ((x, C + 1) :: cl) C env)) (fun y s₄ => ExtM Ms s'.heap s₄.heap ∧ Go s₁ t s₀ s₄ ∧ U D C (i + 1) (ys ++ [y]) s₄) N s₃
          else ExtM Ms s'.heap s₃.heap ∧ Go s₁ t s₀ s₃ ∧ U D C (i + 1) ys s₃) N s') ∧
      (∀ ys (s' : Shared) D C m, U D C n ys s' → Go s₁ t s₀ s' → s'.heap.PlainList D (List.toArray ys) → s'.heap.Ns C m → s₂.heap.get? D = none → s₂.heap.get? C = none → D ≠ C → compPost (model PG w) A E use Q (.ref D) C (.ok .next) s')) E s₁') E s)
    (hs : ∀ x, foldedSetIterable iter env x = pure x := by intro _; rfl) :
    wpAny (model PG w) A (comprehension (.ListComp elt [⟨.Name x px, iter, ifs, 0⟩] scope pos) scope env (firstIterPos [⟨.Name x px, iter, ifs, 0⟩] pos) (newList []) false (eval iter env) use) Q E s := by
  refine listC1 hclos hlay hpush hkind hnames (wpAny_mono h (fun xv s₁' h₁ => wpAny_mono h₁ (fun it s₂ h₂ => ?_) fun _ _ e => e) fun _ _ e => e) hs
  obtain ⟨I, fp, n, P, St, U, rfl, G2, hI, W, st, hn, hfp, hMs, hU, stab, turn, fin⟩ := h₂
  intro D C h' tk hD hC hDC hDC1 hk hnC hcC hlD
  have hC1 : s₂.heap.objs.size ≤ C + 1 := Nat.le_succ_of_le hC
  have hD2 : s₂.heap.get? D = none := get_ge hD
  have hC2 : s₂.heap.get? C = none := get_ge hC
  have hC3 : s₂.heap.get? (C + 1) = none := get_ge hC1
  have hDs : s₀.heap.get? D = none := G2.fresh _ hD2
  have hCs : s₀.heap.get? (C + 1) = none := G2.fresh _ hC3
  have hI2 : I < s₂.heap.objs.size := hfp _ W.I_in
  have hIC : C ≠ I := fun q => Nat.lt_irrefl _ (Nat.lt_of_lt_of_le hI2 (q ▸ hC))
  have hIC1 : C + 1 ≠ I := fun q => Nat.lt_irrefl _ (Nat.lt_of_lt_of_le hI2 (q ▸ hC1))
  have hDf : D ∉ fp := fun q => Nat.lt_irrefl _ (Nat.lt_of_lt_of_le (hfp _ q) hD)
  have hCf : C ∉ fp := fun q => Nat.lt_irrefl _ (Nat.lt_of_lt_of_le (hfp _ q) hC)
  have hC1f : C + 1 ∉ fp := fun q => Nat.lt_irrefl _ (Nat.lt_of_lt_of_le (hfp _ q) hC1)
  have hCM : C ∉ Ms := fun q => Nat.lt_irrefl _ (Nat.lt_of_lt_of_le (hMs _ q).2 hC)
  have hC1M : C + 1 ∉ Ms := fun q => Nat.lt_irrefl _ (Nat.lt_of_lt_of_le (hMs _ q).2 hC1)
  have hDM : D ∉ Ms := fun q => Nat.lt_irrefl _ (Nat.lt_of_lt_of_le (hMs _ q).2 hD)
  have hCC : C ≠ C + 1 := Nat.ne_of_lt (Nat.lt_succ_self C)
  refine listLoop_M (Ms := (C + 1) :: Ms) W hA hDf (fun a ha => ?_) (by simp only [List.mem_cons, not_or]; exact ⟨hDC1, hDM⟩) hn (fun i ys s' => Go s₁ t s₀ s' ∧ U D C i ys s' ∧ (∃ m, s'.heap.Ns C m) ∧ ∃ v, s'.heap.IsCell (C + 1) v) ?_ ?_ ?_ ⟨G2.keep hk, hU D C _ _ hk, ⟨_, hnC⟩, _, hcC⟩ hlD ?_
  · rcases List.mem_cons.mp ha with rfl | ha
    · exact hC1f
    · exact (hMs a ha).1
  · rintro i ys s' h' tk a ha ⟨g, u, ⟨m, hm⟩, v, hv⟩ hb
    rcases ha with rfl | rfl
    · exact ⟨g.but B hI hb G₀, stab _ _ _ _ _ _ _ _ (.inl rfl) u hb, ⟨m, hm.extBut hb hIC⟩, v, let ⟨o, ho, r⟩ := hv; ⟨o, hb _ _ hIC1 ho, r⟩⟩
    · exact ⟨g.but B hDs hb G₀, stab _ _ _ _ _ _ _ _ (.inr (.inl rfl)) u hb, ⟨m, hm.extBut hb hDC.symm⟩, v, let ⟨o, ho, r⟩ := hv; ⟨o, hb _ _ hDC1.symm ho, r⟩⟩
  · rintro i ys v s' hi hy hv ⟨g, u, ⟨m, hm⟩, v₀, hv₀⟩ hl st' N
    refine wpAny_storeName_cell (by simp only [compEnvC, relabel, hkind]) (hkx _) (c := C + 1) (by simp [compEnvC]) hv₀ (fun h4 hc4 hs4 => ?_)
    have g4 := g.same B hCs hs4 G₀ (tk := s'.toks)
    have x4 : ExtM ((C + 1) :: Ms) s'.heap h4 := .of_but hs4.extBut (.head _)
    have hm4 := hm.sameBut hs4 hCC
    have hI4 : h4.get? I ≠ none := by
      obtain ⟨o, e, _⟩ := W.nt _ _ st' I W.I_in
      rw [hs4.extBut _ _ hIC1.symm e]; nofun
    refine wpAny_mono (turn D i ys v { s' with heap := h4 } C _ N hi hv (stab _ _ _ _ _ _ _ _ (.inr (.inr (.inr rfl))) u hs4.extBut) (hl.extBut hs4.extBut hDC1) hI4 hD2 g4 hC2 hC3 hm4 hc4) (fun ok s₃ y => ?_) fun _ _ y => y
    cases ok with
    | false =>
      simp only [Bool.false_eq_true, if_false] at y ⊢
      obtain ⟨y1, y2, y3⟩ := y
      exact ⟨x4.trans (y1.more fun a ha => .tail _ ha), y2, y3, ⟨_, y1.ns hm4 hCM⟩, _, y1.cell hc4 hC1M⟩
    | true =>
      simp only [if_true] at y ⊢
      refine wpAny_mono y (fun yv s₄ z => ?_) fun _ _ y => y
      obtain ⟨y1, y2, y3⟩ := z
      exact ⟨x4.trans (y1.more fun a ha => .tail _ ha), y2, y3, ⟨_, y1.ns hm4 hCM⟩, _, y1.cell hc4 hC1M⟩
  · rintro ys s' hy ⟨g, u, ⟨m, hm⟩, _⟩ hl
    exact fin ys s' D C m u g hl hm hD2 hC2 hDC
  · exact (W.W A hA).frame _ _ _ st fun b hb o e => hk b o e
end
end Mine
end

noncomputable section
open PySem PySem.Calls PySem.W PyProof.Rows Builtin Builtin.ObjectAttr
set_option maxRecDepth 100000
set_option maxHeartbeats 4000000
namespace Mine
theorem strsAre_snoc {vs : List Value} {ss : List Str} (h : StrsAre vs ss) (y : Str) (t : Tok) : StrsAre (vs ++ [.str y t]) (ss ++ [y]) := by
  induction h with
  | nil => exact .cons y t .nil
  | cons z u _ ih => exact .cons z u ih
def letters : List Str := signs "abcd"
/-- what _law_bag gives -/
def BagL (sets : Bool) (word : Str) (ss : List Str) : Prop :=
  if sets = true then ss = letters.filter (fun c => Txt.contains word c) else ss.Perm (signs word) ∧ sortedS ss = true
section
variable {w : World} {A : Around} {s s' s₀ s₁ : Shared} {R : Result → Shared → Prop} {K : Frag} {mg mb : Str → Option Value} {n k : Nat} {t : Bool} {E : Value → Shared → Prop}
theorem c_bag {word : Str} {u : Tok} {sets : Bool} (F : KF K) (B : Base K mg mb s₁) (G : Good s₁ s) (r : Rm A (n + 2)) (hw : word.cps.size < 64)
    (h : ∀ s' D vs ss, Go s₁ true s s' → s'.heap.PlainList D (List.toArray vs) → s.heap.get? D = none → StrsAre vs ss → BagL sets word ss → R (.ok (.ret (.ref D))) s') :
    codeAny (model PG w) A (.call (.ref 382) ⟨[.str word u, .bool sets], []⟩) R s := by
  refine enterP (binds := [("word", .str word u), ("sets", .bool sets)]) F.f_bag B (Go.start (t := true) G) r (fun _ _ _ _ _ => BindsTo.of_eq rfl) (by rfl) fun s₂ L E' r₂ G₂ _ kp hL hn hcl => ?_
  have c1 := (hcl "word" (L + 1) (by rfl)).2
  show wpAny _ _ (execs [_] _) _ _ _
  refine wpAny_execs_cons (wpAny_Return_some (wpAny_IfExp (wpAny_isTrue_Not (wpAny_isTrue_value (nmL hn (by rfl) (wpAny_truthy_bool ?_))))))
  cases sets with
  | false =>
    simp only [Bool.not_false, if_true]
    refine callP (nmB B G₂.good F.g_sorted boot_sorted (args_cons (nmC (by rfl) c1 (args_nil ⟨keeper_bi, ?_⟩))))
    refine sorted_str r₂.h hw fun h' tk vs' ss' D k hD nD hS hp hs => ?_
    exact h _ D vs' ss' (G₂.keep k) hD (G₂.fresh _ nD) hS (by unfold BagL; rw [if_neg Bool.false_ne_true]; exact ⟨hp, hs⟩)
  | true =>
    simp only [Bool.not_true, Bool.false_eq_true, if_false]
    rw [eval_ListComp]
    have GS : Go s₁ true s₂ s₂ := Go.start G₂.good
    refine compM (t := true) (cl := [("word", L + 1)]) [] B G₂.good r₂.h (by rfl) (by decide) rfl (by decide) (by intro _; rfl) (wpAny_Constant_str (wkStr fun o St W st => ?_))
    refine ⟨_, _, _, _, St, fun i ys s' => ∃ ss, StrsAre ys ss ∧ ss = (letters.take i).filter (fun c => Txt.contains word c), rfl, (GS.tok _).keep (Keep.push _ _), get_size _, W, st, (by decide), (fun b hb => ?_), (fun a ha => nomatch ha), (fun _ _ _ => ⟨[], .nil, rfl⟩), (fun i ys s' h' tk a _ hu _ => hu), ?_, ?_⟩
    · simp only [List.mem_cons, List.not_mem_nil, or_false] at hb
      subst hb
      show _ < (Heap.push _ _).objs.size
      rw [Heap.size_push]; exact Nat.lt_succ_self _
    · rintro i ys v s' C m N hi hv ⟨ss, hS, rfl⟩ g hC hm' hm _
      obtain ⟨k, u', e1, rfl⟩ := signs_at hv
      have htk : (letters.take (i + 1)).filter (fun c => Txt.contains word c) = (letters.take i).filter (fun c => Txt.contains word c) ++ (if Txt.contains word k = true then [k] else []) := by
        rw [take_succ (show letters[i]? = some k from e1), List.filter_append]
        congr 1
        by_cases hc : Txt.contains word k = true <;> simp [hc]
      refine wpAny_tests_one (wpAny_isTrue_Compare1 (nmL hm' (by exact hm) (nmC (by rfl) (g.cell c1) (P.in_str (wpAny_truthy_bool ?_)))))
      change (if Txt.contains word k = true then _ else _)
      by_cases hc : Txt.contains word k = true
      · rw [if_pos hc] at htk ⊢
        exact nmL hm' (by exact hm) ⟨ExtM.refl _ _, g, _, strsAre_snoc hS k u', htk.symm⟩
      · rw [if_neg hc] at htk ⊢
        exact ⟨ExtM.refl _ _, g, _, hS, by rw [htk, List.append_nil]⟩
    · rintro ys s' D C m ⟨ss, hS, rfl⟩ g hD hC nD nC hne
      have e4 : letters.take 4 = letters := by rfl
      have hC0 : s₂.heap.get? C = none := ((GS.tok (s₂.toks + 1)).keep (Keep.push s₂.heap o) (tk := s₂.toks + 1)).fresh _ nC
      have hD0 : s₂.heap.get? D = none := ((GS.tok (s₂.toks + 1)).keep (Keep.push s₂.heap o) (tk := s₂.toks + 1)).fresh _ nD
      refine ⟨m, hC, fun h' hs => ?_⟩
      exact h _ D ys _ (G₂.trans (g.same B hC0 hs G₂.good)) (hD.extBut hs.extBut hne) (G₂.fresh _ hD0) hS (by unfold BagL; rw [if_pos rfl]; rfl)
end
end Mine
end

noncomputable section
open PySem PySem.Calls PySem.W PyProof.Rows Builtin Builtin.ObjectAttr
set_option maxRecDepth 100000
set_option maxHeartbeats 4000000
namespace Mine
/-! printed by gen_fm.py: the frame of law -/
abbrev lawFd : FD := fdOf (topAt 16)
abbrev EL (L : Addr) : Env := frameEnv "law" lawFd L 387 386
structure Cs where
  k_told : Option Value := none
  k_at : Option Value := none
  k_words : Option Value := none
  k_jaccard : Option Value := none
  k_one : Option Value := none
  k_other : Option Value := none
  k_far : Option Value := none
  k_i : Option Value := none
  k_j : Option Value := none
  k_first : Option Value := none
  k_second : Option Value := none
  k_due : Option Value := none
structure Ls where
  v_sets : Option Value := none
  v_sorensen : Option Value := none
  v_overlap : Option Value := none
  v_plain : Option Value := none
  v_half : Option Value := none
  v_uneven : Option Value := none
  v_share : Option Value := none
  v_told_share : Option Value := none
  v_common : Option Value := none
structure LM (m : Str → Option Value) (l : Ls) : Prop where
  q : m "qval" = none
  v_sets : m "sets" = l.v_sets
  v_sorensen : m "sorensen" = l.v_sorensen
  v_overlap : m "overlap" = l.v_overlap
  v_plain : m "plain" = l.v_plain
  v_half : m "half" = l.v_half
  v_uneven : m "uneven" = l.v_uneven
  v_share : m "share" = l.v_share
  v_told_share : m "told_share" = l.v_told_share
  v_common : m "common" = l.v_common
structure Fm (h : Heap) (L : Addr) (l : Ls) (c : Cs) : Prop where
  ns : ∃ m, h.Ns L m ∧ LM m l
  k_told : h.IsCell (L + 1) c.k_told
  k_at : h.IsCell (L + 2) c.k_at
  k_words : h.IsCell (L + 3) c.k_words
  k_jaccard : h.IsCell (L + 4) c.k_jaccard
  k_one : h.IsCell (L + 5) c.k_one
  k_other : h.IsCell (L + 6) c.k_other
  k_far : h.IsCell (L + 7) c.k_far
  k_i : h.IsCell (L + 8) c.k_i
  k_j : h.IsCell (L + 9) c.k_j
  k_first : h.IsCell (L + 10) c.k_first
  k_second : h.IsCell (L + 11) c.k_second
  k_due : h.IsCell (L + 12) c.k_due
def FA (L : Addr) : List Addr := [L, L + 1, L + 2, L + 3, L + 4, L + 5, L + 6, L + 7, L + 8, L + 9, L + 10, L + 11, L + 12]
theorem add_ne0 (L k : Nat) (h : k ≠ 0) : L + k ≠ L := by omega
theorem add_neK (L j k : Nat) (h : j ≠ k) : L + j ≠ L + k := by omega
theorem cellBut {h h' : Heap} {a b : Addr} {v} (n : h.IsCell a v) (x : Heap.ExtBut b h h') (z : a ≠ b) : h'.IsCell a v := let ⟨o, ho, r⟩ := n; ⟨o, x _ _ z ho, r⟩
theorem cellM {Ms : List Addr} {h h' : Heap} {a : Addr} {v} (n : h.IsCell a v) (x : ExtM Ms h h') (z : a ∉ Ms) : h'.IsCell a v := x.cell n z
theorem mFA0 (L : Addr) : L ∈ FA L := by unfold FA; simp
theorem mFA1 (L : Addr) : L + 1 ∈ FA L := by unfold FA; simp
theorem mFA2 (L : Addr) : L + 2 ∈ FA L := by unfold FA; simp
theorem mFA3 (L : Addr) : L + 3 ∈ FA L := by unfold FA; simp
theorem mFA4 (L : Addr) : L + 4 ∈ FA L := by unfold FA; simp
theorem mFA5 (L : Addr) : L + 5 ∈ FA L := by unfold FA; simp
theorem mFA6 (L : Addr) : L + 6 ∈ FA L := by unfold FA; simp
theorem mFA7 (L : Addr) : L + 7 ∈ FA L := by unfold FA; simp
theorem mFA8 (L : Addr) : L + 8 ∈ FA L := by unfold FA; simp
theorem mFA9 (L : Addr) : L + 9 ∈ FA L := by unfold FA; simp
theorem mFA10 (L : Addr) : L + 10 ∈ FA L := by unfold FA; simp
theorem mFA11 (L : Addr) : L + 11 ∈ FA L := by unfold FA; simp
theorem mFA12 (L : Addr) : L + 12 ∈ FA L := by unfold FA; simp
section
variable {h h' : Heap} {L : Addr} {l : Ls} {c : Cs}
theorem Fm.ext (x : Fm h L l c) (e : Ext h h') : Fm h' L l c :=
  ⟨let ⟨m, n, r⟩ := x.ns; ⟨m, e.ns n, r⟩, e.cell x.k_told, e.cell x.k_at, e.cell x.k_words, e.cell x.k_jaccard, e.cell x.k_one, e.cell x.k_other, e.cell x.k_far, e.cell x.k_i, e.cell x.k_j, e.cell x.k_first, e.cell x.k_second, e.cell x.k_due⟩
theorem Fm.extM {Ms : List Addr} (x : Fm h L l c) (e : ExtM Ms h h') (d : ∀ a ∈ FA L, a ∉ Ms) : Fm h' L l c :=
  ⟨let ⟨m, n, r⟩ := x.ns; ⟨m, e.ns n (d _ (mFA0 L)), r⟩, e.cell x.k_told (d _ (mFA1 L)), e.cell x.k_at (d _ (mFA2 L)), e.cell x.k_words (d _ (mFA3 L)), e.cell x.k_jaccard (d _ (mFA4 L)), e.cell x.k_one (d _ (mFA5 L)), e.cell x.k_other (d _ (mFA6 L)), e.cell x.k_far (d _ (mFA7 L)), e.cell x.k_i (d _ (mFA8 L)), e.cell x.k_j (d _ (mFA9 L)), e.cell x.k_first (d _ (mFA10 L)), e.cell x.k_second (d _ (mFA11 L)), e.cell x.k_due (d _ (mFA12 L))⟩
theorem Fm.extBut {a : Addr} (x : Fm h L l c) (e : Heap.ExtBut a h h') (d : a ∉ FA L) : Fm h' L l c :=
  x.extM (Ms := [a]) (ExtM.of_but e (.head _)) fun b hb q => d (by cases q with | head => exact hb | tail _ q => cases q)
theorem Fm.st_told {v : Option Value} (x : Fm h L l c) (n : h'.IsCell (L + 1) v) (e : Heap.SameBut (L + 1) h h') : Fm h' L l { c with k_told := v } :=
  ⟨let ⟨m, n, r⟩ := x.ns; ⟨m, n.sameBut e (add_ne0 L 1 (by decide)).symm, r⟩, n, x.k_at.sameBut e (add_neK L 2 1 (by decide)), x.k_words.sameBut e (add_neK L 3 1 (by decide)), x.k_jaccard.sameBut e (add_neK L 4 1 (by decide)), x.k_one.sameBut e (add_neK L 5 1 (by decide)), x.k_other.sameBut e (add_neK L 6 1 (by decide)), x.k_far.sameBut e (add_neK L 7 1 (by decide)), x.k_i.sameBut e (add_neK L 8 1 (by decide)), x.k_j.sameBut e (add_neK L 9 1 (by decide)), x.k_first.sameBut e (add_neK L 10 1 (by decide)), x.k_second.sameBut e (add_neK L 11 1 (by decide)), x.k_due.sameBut e (add_neK L 12 1 (by decide))⟩
theorem Fm.st_at {v : Option Value} (x : Fm h L l c) (n : h'.IsCell (L + 2) v) (e : Heap.SameBut (L + 2) h h') : Fm h' L l { c with k_at := v } :=
  ⟨let ⟨m, n, r⟩ := x.ns; ⟨m, n.sameBut e (add_ne0 L 2 (by decide)).symm, r⟩, x.k_told.sameBut e (add_neK L 1 2 (by decide)), n, x.k_words.sameBut e (add_neK L 3 2 (by decide)), x.k_jaccard.sameBut e (add_neK L 4 2 (by decide)), x.k_one.sameBut e (add_neK L 5 2 (by decide)), x.k_other.sameBut e (add_neK L 6 2 (by decide)), x.k_far.sameBut e (add_neK L 7 2 (by decide)), x.k_i.sameBut e (add_neK L 8 2 (by decide)), x.k_j.sameBut e (add_neK L 9 2 (by decide)), x.k_first.sameBut e (add_neK L 10 2 (by decide)), x.k_second.sameBut e (add_neK L 11 2 (by decide)), x.k_due.sameBut e (add_neK L 12 2 (by decide))⟩
theorem Fm.st_words {v : Option Value} (x : Fm h L l c) (n : h'.IsCell (L + 3) v) (e : Heap.SameBut (L + 3) h h') : Fm h' L l { c with k_words := v } :=
  ⟨let ⟨m, n, r⟩ := x.ns; ⟨m, n.sameBut e (add_ne0 L 3 (by decide)).symm, r⟩, x.k_told.sameBut e (add_neK L 1 3 (by decide)), x.k_at.sameBut e (add_neK L 2 3 (by decide)), n, x.k_jaccard.sameBut e (add_neK L 4 3 (by decide)), x.k_one.sameBut e (add_neK L 5 3 (by decide)), x.k_other.sameBut e (add_neK L 6 3 (by decide)), x.k_far.sameBut e (add_neK L 7 3 (by decide)), x.k_i.sameBut e (add_neK L 8 3 (by decide)), x.k_j.sameBut e (add_neK L 9 3 (by decide)), x.k_first.sameBut e (add_neK L 10 3 (by decide)), x.k_second.sameBut e (add_neK L 11 3 (by decide)), x.k_due.sameBut e (add_neK L 12 3 (by decide))⟩
theorem Fm.st_jaccard {v : Option Value} (x : Fm h L l c) (n : h'.IsCell (L + 4) v) (e : Heap.SameBut (L + 4) h h') : Fm h' L l { c with k_jaccard := v } :=
  ⟨let ⟨m, n, r⟩ := x.ns; ⟨m, n.sameBut e (add_ne0 L 4 (by decide)).symm, r⟩, x.k_told.sameBut e (add_neK L 1 4 (by decide)), x.k_at.sameBut e (add_neK L 2 4 (by decide)), x.k_words.sameBut e (add_neK L 3 4 (by decide)), n, x.k_one.sameBut e (add_neK L 5 4 (by decide)), x.k_other.sameBut e (add_neK L 6 4 (by decide)), x.k_far.sameBut e (add_neK L 7 4 (by decide)), x.k_i.sameBut e (add_neK L 8 4 (by decide)), x.k_j.sameBut e (add_neK L 9 4 (by decide)), x.k_first.sameBut e (add_neK L 10 4 (by decide)), x.k_second.sameBut e (add_neK L 11 4 (by decide)), x.k_due.sameBut e (add_neK L 12 4 (by decide))⟩
theorem Fm.st_one {v : Option Value} (x : Fm h L l c) (n : h'.IsCell (L + 5) v) (e : Heap.SameBut (L + 5) h h') : Fm h' L l { c with k_one := v } :=
  ⟨let ⟨m, n, r⟩ := x.ns; ⟨m, n.sameBut e (add_ne0 L 5 (by decide)).symm, r⟩, x.k_told.sameBut e (add_neK L 1 5 (by decide)), x.k_at.sameBut e (add_neK L 2 5 (by decide)), x.k_words.sameBut e (add_neK L 3 5 (by decide)), x.k_jaccard.sameBut e (add_neK L 4 5 (by decide)), n, x.k_other.sameBut e (add_neK L 6 5 (by decide)), x.k_far.sameBut e (add_neK L 7 5 (by decide)), x.k_i.sameBut e (add_neK L 8 5 (by decide)), x.k_j.sameBut e (add_neK L 9 5 (by decide)), x.k_first.sameBut e (add_neK L 10 5 (by decide)), x.k_second.sameBut e (add_neK L 11 5 (by decide)), x.k_due.sameBut e (add_neK L 12 5 (by decide))⟩
theorem Fm.st_other {v : Option Value} (x : Fm h L l c) (n : h'.IsCell (L + 6) v) (e : Heap.SameBut (L + 6) h h') : Fm h' L l { c with k_other := v } :=
  ⟨let ⟨m, n, r⟩ := x.ns; ⟨m, n.sameBut e (add_ne0 L 6 (by decide)).symm, r⟩, x.k_told.sameBut e (add_neK L 1 6 (by decide)), x.k_at.sameBut e (add_neK L 2 6 (by decide)), x.k_words.sameBut e (add_neK L 3 6 (by decide)), x.k_jaccard.sameBut e (add_neK L 4 6 (by decide)), x.k_one.sameBut e (add_neK L 5 6 (by decide)), n, x.k_far.sameBut e (add_neK L 7 6 (by decide)), x.k_i.sameBut e (add_neK L 8 6 (by decide)), x.k_j.sameBut e (add_neK L 9 6 (by decide)), x.k_first.sameBut e (add_neK L 10 6 (by decide)), x.k_second.sameBut e (add_neK L 11 6 (by decide)), x.k_due.sameBut e (add_neK L 12 6 (by decide))⟩
theorem Fm.st_far {v : Option Value} (x : Fm h L l c) (n : h'.IsCell (L + 7) v) (e : Heap.SameBut (L + 7) h h') : Fm h' L l { c with k_far := v } :=
  ⟨let ⟨m, n, r⟩ := x.ns; ⟨m, n.sameBut e (add_ne0 L 7 (by decide)).symm, r⟩, x.k_told.sameBut e (add_neK L 1 7 (by decide)), x.k_at.sameBut e (add_neK L 2 7 (by decide)), x.k_words.sameBut e (add_neK L 3 7 (by decide)), x.k_jaccard.sameBut e (add_neK L 4 7 (by decide)), x.k_one.sameBut e (add_neK L 5 7 (by decide)), x.k_other.sameBut e (add_neK L 6 7 (by decide)), n, x.k_i.sameBut e (add_neK L 8 7 (by decide)), x.k_j.sameBut e (add_neK L 9 7 (by decide)), x.k_first.sameBut e (add_neK L 10 7 (by decide)), x.k_second.sameBut e (add_neK L 11 7 (by decide)), x.k_due.sameBut e (add_neK L 12 7 (by decide))⟩
theorem Fm.st_i {v : Option Value} (x : Fm h L l c) (n : h'.IsCell (L + 8) v) (e : Heap.SameBut (L + 8) h h') : Fm h' L l { c with k_i := v } :=
  ⟨let ⟨m, n, r⟩ := x.ns; ⟨m, n.sameBut e (add_ne0 L 8 (by decide)).symm, r⟩, x.k_told.sameBut e (add_neK L 1 8 (by decide)), x.k_at.sameBut e (add_neK L 2 8 (by decide)), x.k_words.sameBut e (add_neK L 3 8 (by decide)), x.k_jaccard.sameBut e (add_neK L 4 8 (by decide)), x.k_one.sameBut e (add_neK L 5 8 (by decide)), x.k_other.sameBut e (add_neK L 6 8 (by decide)), x.k_far.sameBut e (add_neK L 7 8 (by decide)), n, x.k_j.sameBut e (add_neK L 9 8 (by decide)), x.k_first.sameBut e (add_neK L 10 8 (by decide)), x.k_second.sameBut e (add_neK L 11 8 (by decide)), x.k_due.sameBut e (add_neK L 12 8 (by decide))⟩
theorem Fm.st_j {v : Option Value} (x : Fm h L l c) (n : h'.IsCell (L + 9) v) (e : Heap.SameBut (L + 9) h h') : Fm h' L l { c with k_j := v } :=
  ⟨let ⟨m, n, r⟩ := x.ns; ⟨m, n.sameBut e (add_ne0 L 9 (by decide)).symm, r⟩, x.k_told.sameBut e (add_neK L 1 9 (by decide)), x.k_at.sameBut e (add_neK L 2 9 (by decide)), x.k_words.sameBut e (add_neK L 3 9 (by decide)), x.k_jaccard.sameBut e (add_neK L 4 9 (by decide)), x.k_one.sameBut e (add_neK L 5 9 (by decide)), x.k_other.sameBut e (add_neK L 6 9 (by decide)), x.k_far.sameBut e (add_neK L 7 9 (by decide)), x.k_i.sameBut e (add_neK L 8 9 (by decide)), n, x.k_first.sameBut e (add_neK L 10 9 (by decide)), x.k_second.sameBut e (add_neK L 11 9 (by decide)), x.k_due.sameBut e (add_neK L 12 9 (by decide))⟩
theorem Fm.st_first {v : Option Value} (x : Fm h L l c) (n : h'.IsCell (L + 10) v) (e : Heap.SameBut (L + 10) h h') : Fm h' L l { c with k_first := v } :=
  ⟨let ⟨m, n, r⟩ := x.ns; ⟨m, n.sameBut e (add_ne0 L 10 (by decide)).symm, r⟩, x.k_told.sameBut e (add_neK L 1 10 (by decide)), x.k_at.sameBut e (add_neK L 2 10 (by decide)), x.k_words.sameBut e (add_neK L 3 10 (by decide)), x.k_jaccard.sameBut e (add_neK L 4 10 (by decide)), x.k_one.sameBut e (add_neK L 5 10 (by decide)), x.k_other.sameBut e (add_neK L 6 10 (by decide)), x.k_far.sameBut e (add_neK L 7 10 (by decide)), x.k_i.sameBut e (add_neK L 8 10 (by decide)), x.k_j.sameBut e (add_neK L 9 10 (by decide)), n, x.k_second.sameBut e (add_neK L 11 10 (by decide)), x.k_due.sameBut e (add_neK L 12 10 (by decide))⟩
theorem Fm.st_second {v : Option Value} (x : Fm h L l c) (n : h'.IsCell (L + 11) v) (e : Heap.SameBut (L + 11) h h') : Fm h' L l { c with k_second := v } :=
  ⟨let ⟨m, n, r⟩ := x.ns; ⟨m, n.sameBut e (add_ne0 L 11 (by decide)).symm, r⟩, x.k_told.sameBut e (add_neK L 1 11 (by decide)), x.k_at.sameBut e (add_neK L 2 11 (by decide)), x.k_words.sameBut e (add_neK L 3 11 (by decide)), x.k_jaccard.sameBut e (add_neK L 4 11 (by decide)), x.k_one.sameBut e (add_neK L 5 11 (by decide)), x.k_other.sameBut e (add_neK L 6 11 (by decide)), x.k_far.sameBut e (add_neK L 7 11 (by decide)), x.k_i.sameBut e (add_neK L 8 11 (by decide)), x.k_j.sameBut e (add_neK L 9 11 (by decide)), x.k_first.sameBut e (add_neK L 10 11 (by decide)), n, x.k_due.sameBut e (add_neK L 12 11 (by decide))⟩
theorem Fm.st_due {v : Option Value} (x : Fm h L l c) (n : h'.IsCell (L + 12) v) (e : Heap.SameBut (L + 12) h h') : Fm h' L l { c with k_due := v } :=
  ⟨let ⟨m, n, r⟩ := x.ns; ⟨m, n.sameBut e (add_ne0 L 12 (by decide)).symm, r⟩, x.k_told.sameBut e (add_neK L 1 12 (by decide)), x.k_at.sameBut e (add_neK L 2 12 (by decide)), x.k_words.sameBut e (add_neK L 3 12 (by decide)), x.k_jaccard.sameBut e (add_neK L 4 12 (by decide)), x.k_one.sameBut e (add_neK L 5 12 (by decide)), x.k_other.sameBut e (add_neK L 6 12 (by decide)), x.k_far.sameBut e (add_neK L 7 12 (by decide)), x.k_i.sameBut e (add_neK L 8 12 (by decide)), x.k_j.sameBut e (add_neK L 9 12 (by decide)), x.k_first.sameBut e (add_neK L 10 12 (by decide)), x.k_second.sameBut e (add_neK L 11 12 (by decide)), n⟩
theorem LM.st_sets {m : Str → Option Value} {v : Option Value} (x : LM m l) : LM (fun y => if y = "sets" then v else m y) { l with v_sets := v } :=
  ⟨(if_neg (by decide)).trans x.q, if_pos rfl, (if_neg (by decide)).trans x.v_sorensen, (if_neg (by decide)).trans x.v_overlap, (if_neg (by decide)).trans x.v_plain, (if_neg (by decide)).trans x.v_half, (if_neg (by decide)).trans x.v_uneven, (if_neg (by decide)).trans x.v_share, (if_neg (by decide)).trans x.v_told_share, (if_neg (by decide)).trans x.v_common⟩
theorem LM.st_sorensen {m : Str → Option Value} {v : Option Value} (x : LM m l) : LM (fun y => if y = "sorensen" then v else m y) { l with v_sorensen := v } :=
  ⟨(if_neg (by decide)).trans x.q, (if_neg (by decide)).trans x.v_sets, if_pos rfl, (if_neg (by decide)).trans x.v_overlap, (if_neg (by decide)).trans x.v_plain, (if_neg (by decide)).trans x.v_half, (if_neg (by decide)).trans x.v_uneven, (if_neg (by decide)).trans x.v_share, (if_neg (by decide)).trans x.v_told_share, (if_neg (by decide)).trans x.v_common⟩
theorem LM.st_overlap {m : Str → Option Value} {v : Option Value} (x : LM m l) : LM (fun y => if y = "overlap" then v else m y) { l with v_overlap := v } :=
  ⟨(if_neg (by decide)).trans x.q, (if_neg (by decide)).trans x.v_sets, (if_neg (by decide)).trans x.v_sorensen, if_pos rfl, (if_neg (by decide)).trans x.v_plain, (if_neg (by decide)).trans x.v_half, (if_neg (by decide)).trans x.v_uneven, (if_neg (by decide)).trans x.v_share, (if_neg (by decide)).trans x.v_told_share, (if_neg (by decide)).trans x.v_common⟩
theorem LM.st_plain {m : Str → Option Value} {v : Option Value} (x : LM m l) : LM (fun y => if y = "plain" then v else m y) { l with v_plain := v } :=
  ⟨(if_neg (by decide)).trans x.q, (if_neg (by decide)).trans x.v_sets, (if_neg (by decide)).trans x.v_sorensen, (if_neg (by decide)).trans x.v_overlap, if_pos rfl, (if_neg (by decide)).trans x.v_half, (if_neg (by decide)).trans x.v_uneven, (if_neg (by decide)).trans x.v_share, (if_neg (by decide)).trans x.v_told_share, (if_neg (by decide)).trans x.v_common⟩
theorem LM.st_half {m : Str → Option Value} {v : Option Value} (x : LM m l) : LM (fun y => if y = "half" then v else m y) { l with v_half := v } :=
  ⟨(if_neg (by decide)).trans x.q, (if_neg (by decide)).trans x.v_sets, (if_neg (by decide)).trans x.v_sorensen, (if_neg (by decide)).trans x.v_overlap, (if_neg (by decide)).trans x.v_plain, if_pos rfl, (if_neg (by decide)).trans x.v_uneven, (if_neg (by decide)).trans x.v_share, (if_neg (by decide)).trans x.v_told_share, (if_neg (by decide)).trans x.v_common⟩
theorem LM.st_uneven {m : Str → Option Value} {v : Option Value} (x : LM m l) : LM (fun y => if y = "uneven" then v else m y) { l with v_uneven := v } :=
  ⟨(if_neg (by decide)).trans x.q, (if_neg (by decide)).trans x.v_sets, (if_neg (by decide)).trans x.v_sorensen, (if_neg (by decide)).trans x.v_overlap, (if_neg (by decide)).trans x.v_plain, (if_neg (by decide)).trans x.v_half, if_pos rfl, (if_neg (by decide)).trans x.v_share, (if_neg (by decide)).trans x.v_told_share, (if_neg (by decide)).trans x.v_common⟩
theorem LM.st_share {m : Str → Option Value} {v : Option Value} (x : LM m l) : LM (fun y => if y = "share" then v else m y) { l with v_share := v } :=
  ⟨(if_neg (by decide)).trans x.q, (if_neg (by decide)).trans x.v_sets, (if_neg (by decide)).trans x.v_sorensen, (if_neg (by decide)).trans x.v_overlap, (if_neg (by decide)).trans x.v_plain, (if_neg (by decide)).trans x.v_half, (if_neg (by decide)).trans x.v_uneven, if_pos rfl, (if_neg (by decide)).trans x.v_told_share, (if_neg (by decide)).trans x.v_common⟩
theorem LM.st_told_share {m : Str → Option Value} {v : Option Value} (x : LM m l) : LM (fun y => if y = "told_share" then v else m y) { l with v_told_share := v } :=
  ⟨(if_neg (by decide)).trans x.q, (if_neg (by decide)).trans x.v_sets, (if_neg (by decide)).trans x.v_sorensen, (if_neg (by decide)).trans x.v_overlap, (if_neg (by decide)).trans x.v_plain, (if_neg (by decide)).trans x.v_half, (if_neg (by decide)).trans x.v_uneven, (if_neg (by decide)).trans x.v_share, if_pos rfl, (if_neg (by decide)).trans x.v_common⟩
theorem LM.st_common {m : Str → Option Value} {v : Option Value} (x : LM m l) : LM (fun y => if y = "common" then v else m y) { l with v_common := v } :=
  ⟨(if_neg (by decide)).trans x.q, (if_neg (by decide)).trans x.v_sets, (if_neg (by decide)).trans x.v_sorensen, (if_neg (by decide)).trans x.v_overlap, (if_neg (by decide)).trans x.v_plain, (if_neg (by decide)).trans x.v_half, (if_neg (by decide)).trans x.v_uneven, (if_neg (by decide)).trans x.v_share, (if_neg (by decide)).trans x.v_told_share, if_pos rfl⟩
theorem Fm.st_loc {m : Str → Option Value} {l' : Ls} (x : Fm h L l c) (n : h'.Ns L m) (r : LM m l') (e : Heap.SameBut L h h') : Fm h' L l' c :=
  ⟨⟨m, n, r⟩, x.k_told.sameBut e (add_ne0 L 1 (by decide)), x.k_at.sameBut e (add_ne0 L 2 (by decide)), x.k_words.sameBut e (add_ne0 L 3 (by decide)), x.k_jaccard.sameBut e (add_ne0 L 4 (by decide)), x.k_one.sameBut e (add_ne0 L 5 (by decide)), x.k_other.sameBut e (add_ne0 L 6 (by decide)), x.k_far.sameBut e (add_ne0 L 7 (by decide)), x.k_i.sameBut e (add_ne0 L 8 (by decide)), x.k_j.sameBut e (add_ne0 L 9 (by decide)), x.k_first.sameBut e (add_ne0 L 10 (by decide)), x.k_second.sameBut e (add_ne0 L 11 (by decide)), x.k_due.sameBut e (add_ne0 L 12 (by decide))⟩
end
section
variable {M : Model} {A : Around} {E : Value → Shared → Prop} {s : Shared} {L : Addr} {l : Ls} {c : Cs} {v : Value} {pos : Pos}
theorem rd_told {Q : Value → Shared → Prop} (x : Fm s.heap L l c) (hv : c.k_told = some v) (h : Q v s) : wpAny M A (eval (.Name "told" pos) (EL L)) Q E s := nmC (by rfl) (hv ▸ x.k_told) h
theorem st_told {Q : Unit → Shared → Prop} (x : Fm s.heap L l c) (h : ∀ h', Fm h' L l { c with k_told := some v } → Heap.SameBut (L + 1) s.heap h' → Q () { s with heap := h' }) : wpAny M A (storeName (EL L) "told" v) Q E s :=
  stC (c := L + 1) (by rfl) x.k_told fun h' n hs => h h' (x.st_told n hs) hs
theorem rd_at {Q : Value → Shared → Prop} (x : Fm s.heap L l c) (hv : c.k_at = some v) (h : Q v s) : wpAny M A (eval (.Name "at" pos) (EL L)) Q E s := nmC (by rfl) (hv ▸ x.k_at) h
theorem st_at {Q : Unit → Shared → Prop} (x : Fm s.heap L l c) (h : ∀ h', Fm h' L l { c with k_at := some v } → Heap.SameBut (L + 2) s.heap h' → Q () { s with heap := h' }) : wpAny M A (storeName (EL L) "at" v) Q E s :=
  stC (c := L + 2) (by rfl) x.k_at fun h' n hs => h h' (x.st_at n hs) hs
theorem rd_words {Q : Value → Shared → Prop} (x : Fm s.heap L l c) (hv : c.k_words = some v) (h : Q v s) : wpAny M A (eval (.Name "words" pos) (EL L)) Q E s := nmC (by rfl) (hv ▸ x.k_words) h
theorem st_words {Q : Unit → Shared → Prop} (x : Fm s.heap L l c) (h : ∀ h', Fm h' L l { c with k_words := some v } → Heap.SameBut (L + 3) s.heap h' → Q () { s with heap := h' }) : wpAny M A (storeName (EL L) "words" v) Q E s :=
  stC (c := L + 3) (by rfl) x.k_words fun h' n hs => h h' (x.st_words n hs) hs
theorem rd_jaccard {Q : Value → Shared → Prop} (x : Fm s.heap L l c) (hv : c.k_jaccard = some v) (h : Q v s) : wpAny M A (eval (.Name "jaccard" pos) (EL L)) Q E s := nmC (by rfl) (hv ▸ x.k_jaccard) h
theorem st_jaccard {Q : Unit → Shared → Prop} (x : Fm s.heap L l c) (h : ∀ h', Fm h' L l { c with k_jaccard := some v } → Heap.SameBut (L + 4) s.heap h' → Q () { s with heap := h' }) : wpAny M A (storeName (EL L) "jaccard" v) Q E s :=
  stC (c := L + 4) (by rfl) x.k_jaccard fun h' n hs => h h' (x.st_jaccard n hs) hs
theorem rd_one {Q : Value → Shared → Prop} (x : Fm s.heap L l c) (hv : c.k_one = some v) (h : Q v s) : wpAny M A (eval (.Name "one" pos) (EL L)) Q E s := nmC (by rfl) (hv ▸ x.k_one) h
theorem st_one {Q : Unit → Shared → Prop} (x : Fm s.heap L l c) (h : ∀ h', Fm h' L l { c with k_one := some v } → Heap.SameBut (L + 5) s.heap h' → Q () { s with heap := h' }) : wpAny M A (storeName (EL L) "one" v) Q E s :=
  stC (c := L + 5) (by rfl) x.k_one fun h' n hs => h h' (x.st_one n hs) hs
theorem rd_other {Q : Value → Shared → Prop} (x : Fm s.heap L l c) (hv : c.k_other = some v) (h : Q v s) : wpAny M A (eval (.Name "other" pos) (EL L)) Q E s := nmC (by rfl) (hv ▸ x.k_other) h
theorem st_other {Q : Unit → Shared → Prop} (x : Fm s.heap L l c) (h : ∀ h', Fm h' L l { c with k_other := some v } → Heap.SameBut (L + 6) s.heap h' → Q () { s with heap := h' }) : wpAny M A (storeName (EL L) "other" v) Q E s :=
  stC (c := L + 6) (by rfl) x.k_other fun h' n hs => h h' (x.st_other n hs) hs
theorem rd_far {Q : Value → Shared → Prop} (x : Fm s.heap L l c) (hv : c.k_far = some v) (h : Q v s) : wpAny M A (eval (.Name "far" pos) (EL L)) Q E s := nmC (by rfl) (hv ▸ x.k_far) h
theorem st_far {Q : Unit → Shared → Prop} (x : Fm s.heap L l c) (h : ∀ h', Fm h' L l { c with k_far := some v } → Heap.SameBut (L + 7) s.heap h' → Q () { s with heap := h' }) : wpAny M A (storeName (EL L) "far" v) Q E s :=
  stC (c := L + 7) (by rfl) x.k_far fun h' n hs => h h' (x.st_far n hs) hs
theorem rd_i {Q : Value → Shared → Prop} (x : Fm s.heap L l c) (hv : c.k_i = some v) (h : Q v s) : wpAny M A (eval (.Name "i" pos) (EL L)) Q E s := nmC (by rfl) (hv ▸ x.k_i) h
theorem st_i {Q : Unit → Shared → Prop} (x : Fm s.heap L l c) (h : ∀ h', Fm h' L l { c with k_i := some v } → Heap.SameBut (L + 8) s.heap h' → Q () { s with heap := h' }) : wpAny M A (storeName (EL L) "i" v) Q E s :=
  stC (c := L + 8) (by rfl) x.k_i fun h' n hs => h h' (x.st_i n hs) hs
theorem rd_j {Q : Value → Shared → Prop} (x : Fm s.heap L l c) (hv : c.k_j = some v) (h : Q v s) : wpAny M A (eval (.Name "j" pos) (EL L)) Q E s := nmC (by rfl) (hv ▸ x.k_j) h
theorem st_j {Q : Unit → Shared → Prop} (x : Fm s.heap L l c) (h : ∀ h', Fm h' L l { c with k_j := some v } → Heap.SameBut (L + 9) s.heap h' → Q () { s with heap := h' }) : wpAny M A (storeName (EL L) "j" v) Q E s :=
  stC (c := L + 9) (by rfl) x.k_j fun h' n hs => h h' (x.st_j n hs) hs
theorem rd_first {Q : Value → Shared → Prop} (x : Fm s.heap L l c) (hv : c.k_first = some v) (h : Q v s) : wpAny M A (eval (.Name "first" pos) (EL L)) Q E s := nmC (by rfl) (hv ▸ x.k_first) h
theorem st_first {Q : Unit → Shared → Prop} (x : Fm s.heap L l c) (h : ∀ h', Fm h' L l { c with k_first := some v } → Heap.SameBut (L + 10) s.heap h' → Q () { s with heap := h' }) : wpAny M A (storeName (EL L) "first" v) Q E s :=
  stC (c := L + 10) (by rfl) x.k_first fun h' n hs => h h' (x.st_first n hs) hs
theorem rd_second {Q : Value → Shared → Prop} (x : Fm s.heap L l c) (hv : c.k_second = some v) (h : Q v s) : wpAny M A (eval (.Name "second" pos) (EL L)) Q E s := nmC (by rfl) (hv ▸ x.k_second) h
theorem st_second {Q : Unit → Shared → Prop} (x : Fm s.heap L l c) (h : ∀ h', Fm h' L l { c with k_second := some v } → Heap.SameBut (L + 11) s.heap h' → Q () { s with heap := h' }) : wpAny M A (storeName (EL L) "second" v) Q E s :=
  stC (c := L + 11) (by rfl) x.k_second fun h' n hs => h h' (x.st_second n hs) hs
theorem rd_due {Q : Value → Shared → Prop} (x : Fm s.heap L l c) (hv : c.k_due = some v) (h : Q v s) : wpAny M A (eval (.Name "due" pos) (EL L)) Q E s := nmC (by rfl) (hv ▸ x.k_due) h
theorem st_due {Q : Unit → Shared → Prop} (x : Fm s.heap L l c) (h : ∀ h', Fm h' L l { c with k_due := some v } → Heap.SameBut (L + 12) s.heap h' → Q () { s with heap := h' }) : wpAny M A (storeName (EL L) "due" v) Q E s :=
  stC (c := L + 12) (by rfl) x.k_due fun h' n hs => h h' (x.st_due n hs) hs
theorem rd_sets {Q : Value → Shared → Prop} (x : Fm s.heap L l c) (hv : l.v_sets = some v) (h : Q v s) : wpAny M A (eval (.Name "sets" pos) (EL L)) Q E s := let ⟨_, n, r⟩ := x.ns; nmL n (r.v_sets.trans hv) h
theorem st_sets {Q : Unit → Shared → Prop} (x : Fm s.heap L l c) (h : ∀ h', Fm h' L { l with v_sets := some v } c → Heap.SameBut L s.heap h' → Q () { s with heap := h', toks := s.toks + 1 }) : wpAny M A (storeName (EL L) "sets" v) Q E s :=
  let ⟨_, n, r⟩ := x.ns; stL n fun h' n' hs => h h' (x.st_loc n' r.st_sets hs) hs
theorem rd_sorensen {Q : Value → Shared → Prop} (x : Fm s.heap L l c) (hv : l.v_sorensen = some v) (h : Q v s) : wpAny M A (eval (.Name "sorensen" pos) (EL L)) Q E s := let ⟨_, n, r⟩ := x.ns; nmL n (r.v_sorensen.trans hv) h
theorem st_sorensen {Q : Unit → Shared → Prop} (x : Fm s.heap L l c) (h : ∀ h', Fm h' L { l with v_sorensen := some v } c → Heap.SameBut L s.heap h' → Q () { s with heap := h', toks := s.toks + 1 }) : wpAny M A (storeName (EL L) "sorensen" v) Q E s :=
  let ⟨_, n, r⟩ := x.ns; stL n fun h' n' hs => h h' (x.st_loc n' r.st_sorensen hs) hs
theorem rd_overlap {Q : Value → Shared → Prop} (x : Fm s.heap L l c) (hv : l.v_overlap = some v) (h : Q v s) : wpAny M A (eval (.Name "overlap" pos) (EL L)) Q E s := let ⟨_, n, r⟩ := x.ns; nmL n (r.v_overlap.trans hv) h
theorem st_overlap {Q : Unit → Shared → Prop} (x : Fm s.heap L l c) (h : ∀ h', Fm h' L { l with v_overlap := some v } c → Heap.SameBut L s.heap h' → Q () { s with heap := h', toks := s.toks + 1 }) : wpAny M A (storeName (EL L) "overlap" v) Q E s :=
  let ⟨_, n, r⟩ := x.ns; stL n fun h' n' hs => h h' (x.st_loc n' r.st_overlap hs) hs
theorem rd_plain {Q : Value → Shared → Prop} (x : Fm s.heap L l c) (hv : l.v_plain = some v) (h : Q v s) : wpAny M A (eval (.Name "plain" pos) (EL L)) Q E s := let ⟨_, n, r⟩ := x.ns; nmL n (r.v_plain.trans hv) h
theorem st_plain {Q : Unit → Shared → Prop} (x : Fm s.heap L l c) (h : ∀ h', Fm h' L { l with v_plain := some v } c → Heap.SameBut L s.heap h' → Q () { s with heap := h', toks := s.toks + 1 }) : wpAny M A (storeName (EL L) "plain" v) Q E s :=
  let ⟨_, n, r⟩ := x.ns; stL n fun h' n' hs => h h' (x.st_loc n' r.st_plain hs) hs
theorem rd_half {Q : Value → Shared → Prop} (x : Fm s.heap L l c) (hv : l.v_half = some v) (h : Q v s) : wpAny M A (eval (.Name "half" pos) (EL L)) Q E s := let ⟨_, n, r⟩ := x.ns; nmL n (r.v_half.trans hv) h
theorem st_half {Q : Unit → Shared → Prop} (x : Fm s.heap L l c) (h : ∀ h', Fm h' L { l with v_half := some v } c → Heap.SameBut L s.heap h' → Q () { s with heap := h', toks := s.toks + 1 }) : wpAny M A (storeName (EL L) "half" v) Q E s :=
  let ⟨_, n, r⟩ := x.ns; stL n fun h' n' hs => h h' (x.st_loc n' r.st_half hs) hs
theorem rd_uneven {Q : Value → Shared → Prop} (x : Fm s.heap L l c) (hv : l.v_uneven = some v) (h : Q v s) : wpAny M A (eval (.Name "uneven" pos) (EL L)) Q E s := let ⟨_, n, r⟩ := x.ns; nmL n (r.v_uneven.trans hv) h
theorem st_uneven {Q : Unit → Shared → Prop} (x : Fm s.heap L l c) (h : ∀ h', Fm h' L { l with v_uneven := some v } c → Heap.SameBut L s.heap h' → Q () { s with heap := h', toks := s.toks + 1 }) : wpAny M A (storeName (EL L) "uneven" v) Q E s :=
  let ⟨_, n, r⟩ := x.ns; stL n fun h' n' hs => h h' (x.st_loc n' r.st_uneven hs) hs
theorem rd_share {Q : Value → Shared → Prop} (x : Fm s.heap L l c) (hv : l.v_share = some v) (h : Q v s) : wpAny M A (eval (.Name "share" pos) (EL L)) Q E s := let ⟨_, n, r⟩ := x.ns; nmL n (r.v_share.trans hv) h
theorem st_share {Q : Unit → Shared → Prop} (x : Fm s.heap L l c) (h : ∀ h', Fm h' L { l with v_share := some v } c → Heap.SameBut L s.heap h' → Q () { s with heap := h', toks := s.toks + 1 }) : wpAny M A (storeName (EL L) "share" v) Q E s :=
  let ⟨_, n, r⟩ := x.ns; stL n fun h' n' hs => h h' (x.st_loc n' r.st_share hs) hs
theorem rd_told_share {Q : Value → Shared → Prop} (x : Fm s.heap L l c) (hv : l.v_told_share = some v) (h : Q v s) : wpAny M A (eval (.Name "told_share" pos) (EL L)) Q E s := let ⟨_, n, r⟩ := x.ns; nmL n (r.v_told_share.trans hv) h
theorem st_told_share {Q : Unit → Shared → Prop} (x : Fm s.heap L l c) (h : ∀ h', Fm h' L { l with v_told_share := some v } c → Heap.SameBut L s.heap h' → Q () { s with heap := h', toks := s.toks + 1 }) : wpAny M A (storeName (EL L) "told_share" v) Q E s :=
  let ⟨_, n, r⟩ := x.ns; stL n fun h' n' hs => h h' (x.st_loc n' r.st_told_share hs) hs
theorem rd_common {Q : Value → Shared → Prop} (x : Fm s.heap L l c) (hv : l.v_common = some v) (h : Q v s) : wpAny M A (eval (.Name "common" pos) (EL L)) Q E s := let ⟨_, n, r⟩ := x.ns; nmL n (r.v_common.trans hv) h
theorem st_common {Q : Unit → Shared → Prop} (x : Fm s.heap L l c) (h : ∀ h', Fm h' L { l with v_common := some v } c → Heap.SameBut L s.heap h' → Q () { s with heap := h', toks := s.toks + 1 }) : wpAny M A (storeName (EL L) "common" v) Q E s :=
  let ⟨_, n, r⟩ := x.ns; stL n fun h' n' hs => h h' (x.st_loc n' r.st_common hs) hs
end
end Mine
end

noncomputable section
open PySem PySem.Calls PySem.W PyProof.Rows Builtin Builtin.ObjectAttr
set_option maxRecDepth 100000
set_option maxHeartbeats 4000000
namespace Mine
section
variable {w : World} {A : Around} {E : Value → Shared → Prop} {s : Shared} {env : Env}
theorem keep_size {h h' : Heap} (e : Heap.ExtBut h.objs.size h h') : Keep h h' := fun b o eb => e b o (Nat.ne_of_lt (Heap.lt_size eb)) eb
theorem small3 : (3 : Nat) ≤ sizeLine := by rw [sizeLine_eq]; decide
/-- x, y = e1, e2 -/
theorem asg2 {x y : Str} {px py tp vp p : Pos} {k k' : Nat} {e1 e2 : PySem.Expr} {Q : Flow → Shared → Prop} (hh : A.handled = none)
    (h : wpAny (model PG w) A (PySem.eval e1 env) (fun v1 s₁ => wpAny (model PG w) A (PySem.eval e2 env) (fun v2 s₂ => ∀ h', Keep s₂.heap h' →
      wpAny (model PG w) A (storeName env x v1) (fun _ s₃ => wpAny (model PG w) A (storeName env y v2) (fun _ s₄ => Q .next s₄) E s₃) E { s₂ with heap := h' }) E s₁) E s)
    (he : starEach [e1, e2] env = [(false, PySem.eval e1 env), (false, PySem.eval e2 env)] := by rfl)
    (hs : swapsWithSole [.Tuple [.Name x px, .Name y py] k tp] (.Tuple [e1, e2] k' vp) p.line env = pure false := by rfl)
    (hw : swappedStores [.Tuple [.Name x px, .Name y py] k tp] (.Tuple [e1, e2] k' vp) env = pure none := by rfl) :
    wpAny (model PG w) A (exec (.Assign [.Tuple [.Name x px, .Name y py] k tp] (.Tuple [e1, e2] k' vp) p) env) Q E s := by
  refine Assign_Tuple (wpAny_Tuple_spliced ?_) hs hw
  rw [he]
  refine spliced_cons (wpAny_mono h (fun v1 s₁ h₁ => spliced_cons (wpAny_mono h₁ (fun v2 s₂ h₂ => spliced_nil ⟨Nat.le_trans (Nat.le_of_ble_eq_true rfl) small3, ?_⟩) fun _ _ z => z)) fun _ _ z => z)
  have kp : Keep s₂.heap (s₂.heap.push { cls := .type "tuple", data := .seq #[v1, v2] }) := Keep.push _ _
  refine wpAny_assign_Tuple (items := #[v1, v2]) hh ⟨_, Heap.get?_push_size _ rfl, rfl, 0, rfl⟩ rfl rfl fun h' hx => ?_
  have q := h₂ h' (kp.trans (keep_size hx))
  show wpAny _ A (do holding [v2] (assign (.Name x px) env v1); do holding [] (assign (.Name y py) env v2); pure ()) _ _ _
  exact wpAny_bind (wpAny_holding (wpAny_assign_Name (wpAny_mono q (fun _ s₃ h₃ => wpAny_bind (wpAny_holding (wpAny_assign_Name (wpAny_mono h₃ (fun _ s₄ h₄ => wpAny_pure h₄) fun _ _ z => z)))) fun _ _ z => z)))
/-- x, y, z = e1, e2, e3 -/
theorem asg3 {x y z : Str} {px py pz tp vp p : Pos} {k k' : Nat} {e1 e2 e3 : PySem.Expr} {Q : Flow → Shared → Prop} (hh : A.handled = none)
    (h : wpAny (model PG w) A (PySem.eval e1 env) (fun v1 s₁ => wpAny (model PG w) A (PySem.eval e2 env) (fun v2 s₂ => wpAny (model PG w) A (PySem.eval e3 env) (fun v3 s₃ => ∀ h', Keep s₃.heap h' →
      wpAny (model PG w) A (storeName env x v1) (fun _ s₄ => wpAny (model PG w) A (storeName env y v2) (fun _ s₅ => wpAny (model PG w) A (storeName env z v3) (fun _ s₆ => Q .next s₆) E s₅) E s₄) E { s₃ with heap := h' }) E s₂) E s₁) E s)
    (he : starEach [e1, e2, e3] env = [(false, PySem.eval e1 env), (false, PySem.eval e2 env), (false, PySem.eval e3 env)] := by rfl)
    (hs : swapsWithSole [.Tuple [.Name x px, .Name y py, .Name z pz] k tp] (.Tuple [e1, e2, e3] k' vp) p.line env = pure false := by rfl)
    (hw : swappedStores [.Tuple [.Name x px, .Name y py, .Name z pz] k tp] (.Tuple [e1, e2, e3] k' vp) env = pure none := by rfl) :
    wpAny (model PG w) A (exec (.Assign [.Tuple [.Name x px, .Name y py, .Name z pz] k tp] (.Tuple [e1, e2, e3] k' vp) p) env) Q E s := by
  refine Assign_Tuple (wpAny_Tuple_spliced ?_) hs hw
  rw [he]
  refine spliced_cons (wpAny_mono h (fun v1 s₁ h₁ => spliced_cons (wpAny_mono h₁ (fun v2 s₂ h₂ => spliced_cons (wpAny_mono h₂ (fun v3 s₃ h₃ => spliced_nil ⟨Nat.le_trans (Nat.le_of_ble_eq_true rfl) small3, ?_⟩) fun _ _ z => z)) fun _ _ z => z)) fun _ _ z => z)
  have kp : Keep s₃.heap (s₃.heap.push { cls := .type "tuple", data := .seq #[v1, v2, v3] }) := Keep.push _ _
  refine wpAny_assign_Tuple (items := #[v1, v2, v3]) hh ⟨_, Heap.get?_push_size _ rfl, rfl, 0, rfl⟩ rfl rfl fun h' hx => ?_
  have q := h₃ h' (kp.trans (keep_size hx))
  show wpAny _ A (do holding [v2, v3] (assign (.Name x px) env v1); do holding [v3] (assign (.Name y py) env v2); do holding [] (assign (.Name z pz) env v3); pure ()) _ _ _
  exact wpAny_bind (wpAny_holding (wpAny_assign_Name (wpAny_mono q (fun _ s₃ h₃ => wpAny_bind (wpAny_holding (wpAny_assign_Name (wpAny_mono h₃ (fun _ s₄ h₄ => wpAny_bind (wpAny_holding (wpAny_assign_Name (wpAny_mono h₄ (fun _ s₅ h₅ => wpAny_pure h₅) fun _ _ z => z)))) fun _ _ z => z)))) fun _ _ z => z)))
/-- x, y = e1, e2 with the stores swapped -/
theorem asg2s {x y : Str} {px py tp vp p : Pos} {k k' : Nat} {e1 e2 : PySem.Expr} {Q : Flow → Shared → Prop} (hh : A.handled = none)
    (h : wpAny (model PG w) A (PySem.eval e1 env) (fun v1 s₁ => wpAny (model PG w) A (PySem.eval e2 env) (fun v2 s₂ => ∀ h', Keep s₂.heap h' →
      wpAny (model PG w) A (storeName env y v2) (fun _ s₃ => wpAny (model PG w) A (storeName env x v1) (fun _ s₄ => Q .next s₄) E s₃) E { s₂ with heap := h' }) E s₁) E s)
    (he : starEach [e1, e2] env = [(false, PySem.eval e1 env), (false, PySem.eval e2 env)] := by rfl)
    (hs : swapsWithSole [.Tuple [.Name x px, .Name y py] k tp] (.Tuple [e1, e2] k' vp) p.line env = pure false := by rfl)
    (hw : swappedStores [.Tuple [.Name x px, .Name y py] k tp] (.Tuple [e1, e2] k' vp) env = pure (some [x, y]) := by rfl) :
    wpAny (model PG w) A (exec (.Assign [.Tuple [.Name x px, .Name y py] k tp] (.Tuple [e1, e2] k' vp) p) env) Q E s := by
  refine Assign_Tuple_swapped (wpAny_Tuple_spliced ?_) hs hw
  rw [he]
  refine spliced_cons (wpAny_mono h (fun v1 s₁ h₁ => spliced_cons (wpAny_mono h₁ (fun v2 s₂ h₂ => spliced_nil ⟨Nat.le_trans (Nat.le_of_ble_eq_true rfl) small3, ?_⟩) fun _ _ z => z)) fun _ _ z => z)
  have kp : Keep s₂.heap (s₂.heap.push { cls := .type "tuple", data := .seq #[v1, v2] }) := Keep.push _ _
  refine wpAny_unpackItems_tuple (items := #[v1, v2]) hh ⟨_, Heap.get?_push_size _ rfl, rfl, 0, rfl⟩ fun h' hx => ?_
  have q := h₂ h' (kp.trans (keep_size hx))
  show wpAny _ A (do holding [v1] (bindName env y v2); do holding [] (bindName env x v1); pure ()) _ _ _
  exact wpAny_bind (wpAny_holding (wpAny_bindName (wpAny_mono q (fun _ s₃ h₃ => wpAny_bind (wpAny_holding (wpAny_bindName (wpAny_mono h₃ (fun _ s₄ h₄ => wpAny_pure h₄) fun _ _ z => z)))) fun _ _ z => z)))
theorem asg3s {x y z : Str} {px py pz tp vp p : Pos} {k k' : Nat} {e1 e2 e3 : PySem.Expr} {Q : Flow → Shared → Prop} (hh : A.handled = none)
    (h : wpAny (model PG w) A (PySem.eval e1 env) (fun v1 s₁ => wpAny (model PG w) A (PySem.eval e2 env) (fun v2 s₂ => wpAny (model PG w) A (PySem.eval e3 env) (fun v3 s₃ => ∀ h', Keep s₃.heap h' →
      wpAny (model PG w) A (storeName env z v3) (fun _ s₄ => wpAny (model PG w) A (storeName env y v2) (fun _ s₅ => wpAny (model PG w) A (storeName env x v1) (fun _ s₆ => Q .next s₆) E s₅) E s₄) E { s₃ with heap := h' }) E s₂) E s₁) E s)
    (he : starEach [e1, e2, e3] env = [(false, PySem.eval e1 env), (false, PySem.eval e2 env), (false, PySem.eval e3 env)] := by rfl)
    (hs : swapsWithSole [.Tuple [.Name x px, .Name y py, .Name z pz] k tp] (.Tuple [e1, e2, e3] k' vp) p.line env = pure false := by rfl)
    (hw : swappedStores [.Tuple [.Name x px, .Name y py, .Name z pz] k tp] (.Tuple [e1, e2, e3] k' vp) env = pure (some [x, y, z]) := by rfl) :
    wpAny (model PG w) A (exec (.Assign [.Tuple [.Name x px, .Name y py, .Name z pz] k tp] (.Tuple [e1, e2, e3] k' vp) p) env) Q E s := by
  refine Assign_Tuple_swapped (wpAny_Tuple_spliced ?_) hs hw
  rw [he]
  refine spliced_cons (wpAny_mono h (fun v1 s₁ h₁ => spliced_cons (wpAny_mono h₁ (fun v2 s₂ h₂ => spliced_cons (wpAny_mono h₂ (fun v3 s₃ h₃ => spliced_nil ⟨Nat.le_trans (Nat.le_of_ble_eq_true rfl) small3, ?_⟩) fun _ _ z => z)) fun _ _ z => z)) fun _ _ z => z)
  have kp : Keep s₃.heap (s₃.heap.push { cls := .type "tuple", data := .seq #[v1, v2, v3] }) := Keep.push _ _
  refine wpAny_unpackItems_tuple (items := #[v1, v2, v3]) hh ⟨_, Heap.get?_push_size _ rfl, rfl, 0, rfl⟩ fun h' hx => ?_
  have q := h₃ h' (kp.trans (keep_size hx))
  show wpAny _ A (do holding [v2, v1] (bindName env z v3); do holding [v1] (bindName env y v2); do holding [] (bindName env x v1); pure ()) _ _ _
  exact wpAny_bind (wpAny_holding (wpAny_bindName (wpAny_mono q (fun _ s₃ h₃ => wpAny_bind (wpAny_holding (wpAny_bindName (wpAny_mono h₃ (fun _ s₄ h₄ => wpAny_bind (wpAny_holding (wpAny_bindName (wpAny_mono h₄ (fun _ s₅ h₅ => wpAny_pure h₅) fun _ _ z => z)))) fun _ _ z => z)))) fun _ _ z => z)))

theorem wkRange {I : Addr} {n : Nat} : Wk PG w I [I] n (fun i v => ∃ t, v = .int i t) (fun i h => IsRangeIter h I (i : Nat) ((n : Int) - (i : Nat)) 1) where
  W := fun A hA => by
    have W := Walks.range (prog := PG) (w := w) (A := A) hA I 0 1 n
    have e : ∀ i : Nat, (0 + (i : Int) * 1) = i := fun i => by omega
    simp only [e] at W
    exact W
  nt := fun i h st b hb => by
    cases hb with
    | head => exact ⟨_, st, rfl⟩
    | tail _ q => cases q
/-- range(n), walked -/
theorem itRange {n : Nat} {u : Tok} {Q : Value → Shared → Prop} (hn : n ≤ 1000)
    (h : ∀ h' tk I, Keep s.heap h' → s.heap.get? I = none → IsRangeIter h' I 0 n 1 → Q (.ref I) { s with heap := h', toks := tk }) :
    wpAny (model PG w) A (call (.type "range") [.int n u]) (fun xv s₁ => wpAny (model PG w) A (pyIter xv) Q E s₁) E s := by
  refine call_range_1 ?_
  refine wpAny_pyIter_range (IsRange.new ..) (small_one (by decide) (by decide) (by omega) (by omega)) ?_
  have hsz : Builtin.Range.rangeSize 0 n 1 = (n : Int) := by rw [rangeSize_one]; split <;> omega
  refine h _ _ _ ((Keep.push _ _).trans (Keep.push _ _)) ?_ ?_
  · rw [Heap.size_push]; exact get_ge (Nat.le_succ _)
  · have := Heap.get?_push_size (o := { cls := .type "range_iterator", data := .fields #[rawInt 0, rawInt (Builtin.Range.rangeSize 0 n 1), rawInt 1] }) (s.heap.push { cls := .type "range", data := .fields #[.int 0 s.toks, .int n u, .int 1 (s.toks + 1)] }) rfl
    rw [hsz] at this ⊢
    exact this
end
end Mine
end

noncomputable section
open PySem PySem.Calls PySem.W PyProof.Rows Builtin Builtin.ObjectAttr
set_option maxRecDepth 100000
set_option maxHeartbeats 4000000
namespace Mine
def lawS (n : Nat) : Stmt := lawFd.body.getD n (.Pass default)
def valOf : Stmt → PySem.Expr
  | .Assign _ v _ => v
  | _ => .Constant .none 0 default
/-- a word of the law's: at most five letters out of four -/
def Wd (x : Str) : Prop := x.cps.size ≤ 5 ∧ ∀ c ∈ x.cps.toList, 97 ≤ c ∧ c ≤ 100
theorem join_size : ∀ (ys : List Str), (∀ y ∈ ys, y.cps.size = 1) → (Str.join ⟨#[]⟩ ys).cps.size = ys.length
  | [], _ => rfl
  | [y], h => by show y.cps.size = 1; exact h y (.head _)
  | y :: z :: r, h => by
    have e : (Str.join ⟨#[]⟩ (y :: z :: r)).cps = y.cps ++ #[] ++ (Str.join ⟨#[]⟩ (z :: r)).cps := rfl
    have ih := join_size (z :: r) fun a ha => h a (.tail _ ha)
    rw [e, Array.size_append, Array.size_append, ih, h y (.head _)]
    simp only [List.length_cons]
    show 1 + 0 + _ = _
    omega
theorem join_mem : ∀ (ys : List Str) (P : Nat → Prop), (∀ y ∈ ys, ∀ c ∈ y.cps.toList, P c) → ∀ c ∈ (Str.join ⟨#[]⟩ ys).cps.toList, P c
  | [], P, _, c, hc => nomatch hc
  | [y], P, h, c, hc => h y (.head _) c hc
  | y :: z :: r, P, h, c, hc => by
    have e : (Str.join ⟨#[]⟩ (y :: z :: r)).cps.toList = y.cps.toList ++ (Str.join ⟨#[]⟩ (z :: r)).cps.toList := by
      show (y.cps ++ #[] ++ (Str.join ⟨#[]⟩ (z :: r)).cps).toList = _
      simp
    rw [e] at hc
    rcases List.mem_append.mp hc with hc | hc
    · exact h y (.head _) c hc
    · exact join_mem (z :: r) P (fun a ha => h a (.tail _ ha)) c hc
theorem join_wd {ys : List Str} (h : ∀ y ∈ ys, ∃ c, y = ⟨#[c]⟩ ∧ 97 ≤ c ∧ c ≤ 100) (hl : ys.length ≤ 5) : Wd (Txt.join ⟨#[]⟩ ys) := by
  have e : Txt.join ⟨#[]⟩ ys = Str.join ⟨#[]⟩ ys := StrLaws.glued_eq_join ..
  rw [e]
  refine ⟨?_, join_mem ys _ fun y hy c hc => ?_⟩
  · rw [join_size ys fun y hy => by obtain ⟨c, rfl, _⟩ := h y hy; rfl]; exact hl
  · obtain ⟨d, rfl, hd⟩ := h y hy
    have : c = d := by simpa using hc
    rw [this]; exact hd
theorem strsAre_all {P : Str → Prop} {vs : List Value} (h : ∀ v ∈ vs, ∃ y t, v = .str y t ∧ P y) : ∃ ss, StrsAre vs ss ∧ ∀ y ∈ ss, P y := by
  induction vs with
  | nil => exact ⟨[], .nil, fun _ h => nomatch h⟩
  | cons v r ih =>
    obtain ⟨y, t, rfl, p⟩ := h v (.head _)
    obtain ⟨ss, a, b⟩ := ih fun v hv => h v (.tail _ hv)
    exact ⟨y :: ss, .cons y t a, fun z hz => by
      rcases List.mem_cons.mp hz with rfl | hz
      · exact p
      · exact b z hz⟩
theorem strsAre_len {vs : List Value} {ss : List Str} (h : StrsAre vs ss) : vs.length = ss.length := by
  induction h with
  | nil => rfl
  | cons _ _ _ ih => simp [ih]
theorem ExtM.told {Ms : List Addr} {h h' : Heap} {TA AT : Addr} {items} (x : ExtM Ms h h') (T : Told h TA AT items) (z : TA ∉ Ms) : Told h' TA AT items := ⟨x.list T.l z, T.i, T.pos, T.le, T.ne⟩
section
variable {w : World} {A : Around} {s s' s₀ s₁ : Shared} {K : Frag} {mg mb : Str → Option Value} {n k : Nat} {E : Value → Shared → Prop} {L : Addr} {l : Ls} {c : Cs}
theorem abcd_item {m : Nat} {t u : Tok} {Q : Value → Shared → Prop} (hm : m < 4) (h : ∀ tk c, 97 ≤ c ∧ c ≤ 100 → ∀ u', Q (.str ⟨#[c]⟩ u') { s with toks := tk }) :
    wpAny (model PG w) A (getItem (.str "abcd" t) (.int m u)) Q E s := by
  have : ∃ c, (seqIndex? (m : Int) (Str.length "abcd")).bind (("abcd" : Str).cps[·]?) = some c ∧ 97 ≤ c ∧ c ≤ 100 := by
    match m, hm with
    | 0, _ => exact ⟨97, by decide, by decide⟩
    | 1, _ => exact ⟨98, by decide, by decide⟩
    | 2, _ => exact ⟨99, by decide, by decide⟩
    | 3, _ => exact ⟨100, by decide, by decide⟩
  obtain ⟨c, e, hc⟩ := this
  exact P.getItem_str (by simp; omega) e (h _ c hc _)
theorem abcd_getL {t : Tok} {M : Model} {h : Heap} : ∃ r, Looks M h (specialOf (.str "abcd" t) "__getitem__") (some (.builtin r)) := ⟨_, Looks.of_pure (PySem.F.slot_str_getitem.lookup)⟩
theorem sub_M {env : Env} {value slice : PySem.Expr} {pos : Pos} {Q : Value → Shared → Prop}
    (h : wpAny (model PG w) A (PySem.eval value env) (fun o s₁ => wpAny (model PG w) A (PySem.eval slice env) (fun i s₂ => (∃ r, Looks (model PG w) s₂.heap (specialOf o "__getitem__") (some (.builtin r))) ∧ o ≠ .builtin "sys.modules#opaque" ∧ wpAny (model PG w) A (getItem o i) Q E s₂) E s₁) E s)
    (hsl : ∀ o i, subscripted slice false o i = operate [o, i] (getItem o i) := by intro _ _; rfl) : wpAny (model PG w) A (PySem.eval (.Subscript value slice pos) env) Q E s := by
  rw [eval_Subscript]
  refine wpAny_bind (wpAny_mono h (fun o s₁ h₁ => wpAny_bind (wpAny_holding (wpAny_mono h₁ (fun i s₂ h₂ => wpAny_bind (wpAny_standAt ?_)) fun _ _ x => x))) fun _ _ x => x)
  obtain ⟨⟨r, L⟩, hne, hg⟩ := h₂
  refine wpAny_bind ?_
  rw [getitemInPython_of_ne hne]
  refine wpAny_bind (L.here (wpAny_pure (wpAny_bind ?_)))
  rw [hsl]
  exact wpAny_operating (wpAny_mono hg (fun r s₃ h₃ => wpAny_bind (wpAny_letTemporaryGo (wpAny_pure h₃))) fun _ _ x => x)
theorem item_M {env : Env} {value slice : PySem.Expr} {pos : Pos} {Q : Value → Shared → Prop}
    (h : wpAny (model PG w) A (PySem.eval value env) (fun o s₁ => wpAny (model PG w) A (PySem.eval slice env) (fun i s₂ => ∃ l items k u x, o = .ref l ∧ i = .int k u ∧ s₂.heap.IsList l items ∧ 0 ≤ k ∧ k < 2 ^ 63 ∧ items[k.toNat]? = some x ∧ Q x s₂) E s₁) E s)
    (hsl : ∀ o i, subscripted slice false o i = operate [o, i] (getItem o i) := by intro _ _; rfl) : wpAny (model PG w) A (PySem.eval (.Subscript value slice pos) env) Q E s := by
  refine sub_M (wpAny_mono h (fun o s₁ h₁ => wpAny_mono h₁ (fun i s₂ h₂ => ?_) fun _ _ x => x) fun _ _ x => x) hsl
  obtain ⟨l, items, k, u, x, rfl, rfl, hl, h0, h1, hx, q⟩ := h₂
  have hT : s₂.TypeIs (.ref l) "list" := hl.typeIs
  exact ⟨list_getL hl, by nofun, wpAny_getItem_list hl h0 h1 hx q⟩
theorem Fm.off {h : Heap} {a : Addr} {o : Obj} (x : Fm h L l c) (ho : h.get? a = some o) (h1 : ∀ es n, o.data ≠ .dict es n) (h2 : ∀ v, o.data ≠ .cell v) : a ∉ FA L := by
  intro q
  unfold FA at q
  have ce : ∀ {b v}, h.IsCell b v → a ≠ b := fun {b v} hc e => by
    obtain ⟨o', e1, e2⟩ := hc
    rw [← e, ho] at e1; cases e1
    exact h2 _ e2
  have l0 : a ≠ L := fun e => by
    obtain ⟨m, ⟨o', es, ep, e1, e2, _⟩, _⟩ := x.ns
    rw [← e, ho] at e1; cases e1
    exact h1 _ _ e2
  simp only [List.mem_cons, List.not_mem_nil, or_false] at q
  rcases q with q | q | q | q | q | q | q | q | q | q | q | q | q
  · exact l0 q
  · exact ce x.k_told q
  · exact ce x.k_at q
  · exact ce x.k_words q
  · exact ce x.k_jaccard q
  · exact ce x.k_one q
  · exact ce x.k_other q
  · exact ce x.k_far q
  · exact ce x.k_i q
  · exact ce x.k_j q
  · exact ce x.k_first q
  · exact ce x.k_second q
  · exact ce x.k_due q
theorem Fm.offList {h : Heap} {a : Addr} {v : Array Value} (x : Fm h L l c) (n : h.IsList a v) : a ∉ FA L := by
  obtain ⟨o, ho, _, m, hd⟩ := n
  exact x.off ho (fun _ _ e => by rw [hd] at e; cases e) (fun _ e => by rw [hd] at e; cases e)
structure KL (K : Frag) : Prop where
  g_drawn : nsIn K mainGlobals "_law_drawn" = some (some (.ref 377))
  g_bag : nsIn K mainGlobals "_law_bag" = some (some (.ref 382))
/-- [''.join([..]) for n in range(3)] -/
theorem c_words {TA AT : Addr} {items : Array Value} {k : Nat} {u : Tok} {Q : Value → Shared → Prop} (F : KF K) (KLL : KL K) (B : Base K mg mb s₁) (G₀ : Good s₁ s₀) (G : Go s₁ true s₀ s) (r : Rm A (n + 2)) (x : Fm s.heap L l c) (T : Told s.heap TA AT items)
    (hAT : s.heap.IsList AT #[.int k u]) (fAT : s₀.heap.get? AT = none) (hk : k ≤ 500) (ht : c.k_told = some (.ref TA)) (ha : c.k_at = some (.ref AT))
    (h : ∀ s' WL vs ss k' u', Go s₁ true s₀ s' → ExtM [AT] s.heap s'.heap → s'.heap.IsList AT #[.int (k' : Nat) u'] → k' ≤ k + 18 → s'.heap.PlainList WL (List.toArray vs) → s.heap.get? WL = none → StrsAre vs ss → ss.length = 3 → (∀ y ∈ ss, Wd y) → Q (.ref WL) s') :
    wpAny (model PG w) A (eval (valOf (lawS 2)) (EL L)) Q E s := by
  show wpAny _ _ (eval (.ListComp _ _ _ _) _) _ _ _
  rw [eval_ListComp]
  have hATL : AT ∉ FA L := x.offList hAT
  have hTAL : TA ∉ FA L := x.offList T.l
  refine compM (t := true) (cl := [("told", L + 1), ("at", L + 2)]) [AT] B G₀ r.h (by rfl) (by decide) rfl (by decide) (by intro _; rfl) (callP (nmB B G.good F.g_range boot_range (args_cons (wpAny_Constant_int (args_nil ⟨keeper_ty, itRange (n := 3) (by decide) fun h1 tk1 I k1 hI hR => ?_⟩)))))
  have lt1 : ∀ {a o}, s.heap.get? a = some o → a < h1.objs.size := fun e => Heap.lt_size (k1 _ _ e)
  have hIAT : AT ≠ I := fun q => by obtain ⟨_, e, _⟩ := hAT; rw [q, hI] at e; cases e
  refine ⟨I, _, _, _, _, fun i ys s' => ExtM [AT] s.heap s'.heap ∧ (∃ k' u', s'.heap.IsList AT #[.int (k' : Nat) u'] ∧ k' ≤ k + 6 * i) ∧ ys.length = i ∧ ∀ v ∈ ys, ∃ y t, v = .str y t ∧ Wd y, rfl, G.keep k1, G.fresh _ hI, wkRange (w := w) (I := I) (n := 3), hR, by decide, fun b hb => ?_, fun a ha => ?_, fun h' tk k2 => ?_, ?_, ?_, ?_⟩
  · cases hb with
    | head => exact Heap.lt_size hR
    | tail _ q => cases q
  · cases ha with
    | head => exact ⟨by simp only [List.mem_cons, List.not_mem_nil, or_false]; exact hIAT, by obtain ⟨_, e, _⟩ := hAT; exact lt1 e⟩
    | tail _ q => cases q
  · exact ⟨ExtM.of_ext (.of_keep (k1.trans k2)), ⟨k, u, hAT.at fun o e => k2 _ _ (k1 _ _ e), by omega⟩, rfl, fun _ h => nomatch h⟩
  · rintro i ys s' h' tk a ha' ⟨e1, ⟨k', u', e2, e3⟩, e4⟩ hb
    have haS : s.heap.get? a = none := by
      rcases ha' with rfl | ha'
      · exact hI
      · cases q : s.heap.get? a with
        | none => rfl
        | some o => have q2 := k1 _ _ q; rw [show h1.get? a = none from ha'] at q2; cases q2
    have hne : AT ≠ a := fun q => by obtain ⟨_, e, _⟩ := hAT; rw [q, haS] at e; cases e
    exact ⟨fun b o hbm z e => hb b o (fun q => by rw [q, haS] at e; cases e) (e1 b o hbm z e), ⟨k', u', e2.extBut hb hne, e3⟩, e4⟩
  · rintro i₀ ys v s' C m N hi ⟨tv, rfl⟩ ⟨e1, ⟨k', u', e2, e3⟩, e4, e5⟩ g hC hm' hm hCn
    refine wpAny_tests_nil ?_
    simp only [if_true]
    have x' := x.extM e1 fun a ha q => by
      cases q with
      | head => exact hATL ha
      | tail _ q => cases q
    have T' : Told s'.heap TA AT items := e1.told T fun q => by
      cases q with
      | head => exact T.ne rfl
      | tail _ q => cases q
    have hkAT : k' ≤ 600 := by omega
    refine callM (wpAny_Constant_str (GM.join (args_cons ?_)))
    rw [eval_ListComp]
    -- the letters
    refine compM (t := true) (cl := [("told", L + 1), ("at", L + 2)]) [AT] B G₀ r.h (by rfl) (by decide) rfl (by decide) (by intro _; rfl) (callP (nmB B (g.tok _).good F.g_range boot_range (args_cons (callP (nmG B (g.tok _).good KLL.g_drawn (args_cons (nmC (by rfl) (ht ▸ x'.k_told) (args_cons (nmC (by rfl) (ha ▸ x'.k_at) (args_cons (wpAny_Constant_int (args_nil ⟨keeper_K F.f_drawn.keep (g.good.kin B), wpAny_call ?_⟩))))))))))))
    refine c_drawn (t := true) (below := 6) F B G₀ (g.tok _) r ⟨T'.l, T'.i, T'.pos, T'.le, T'.ne⟩ e2 fAT (by omega) (by decide) fun s5 m u5 u5' g5 x5 hAT5 hm6 => ?_
    have x5' : ExtM [AT] s'.heap s5.heap := .of_but x5 (.head _)
    refine args_nil ⟨keeper_ty, itRange (n := m) (by omega) fun h6 tk6 I6 k6 hI6 hR6 => ?_⟩
    have lt6 : ∀ {a o}, s5.heap.get? a = some o → a < h6.objs.size := fun e => Heap.lt_size (k6 _ _ e)
    have hI6AT : AT ≠ I6 := fun q => by obtain ⟨_, e, _⟩ := hAT5; rw [q, hI6] at e; cases e
    have some5 : ∀ {b o}, s'.heap.get? b = some o → ∃ o', s5.heap.get? b = some o' := fun {b o} e => by
      by_cases q : b = AT
      · subst q; obtain ⟨o', e', _⟩ := hAT5; exact ⟨o', e'⟩
      · exact ⟨o, x5 b o q e⟩
    refine ⟨I6, _, _, _, _, fun i ys sx => ExtM [AT] s'.heap sx.heap ∧ (∃ k' u', sx.heap.IsList AT #[.int (k' : Nat) u'] ∧ k' ≤ k'.max 0 ∧ k' ≤ k + 6 * i₀ + 1 + i) ∧ ys.length = i ∧ ∀ v ∈ ys, ∃ y t, v = .str y t ∧ ∃ cp, y = ⟨#[cp]⟩ ∧ 97 ≤ cp ∧ cp ≤ 100, rfl, g5.keep k6, g5.fresh _ hI6, wkRange (w := w) (I := I6) (n := m), hR6, by omega, fun b hb => ?_, fun a ha => ?_, fun h' tk k7 => ?_, ?_, ?_, ?_⟩
    · cases hb with
      | head => exact Heap.lt_size hR6
      | tail _ q => cases q
    · cases ha with
      | head => exact ⟨by simp only [List.mem_cons, List.not_mem_nil, or_false]; exact hI6AT, by obtain ⟨_, e, _⟩ := hAT5; exact lt6 e⟩
      | tail _ q => cases q
    · exact ⟨x5'.trans (ExtM.of_ext (.of_keep (k6.trans k7))), ⟨_, u5, hAT5.at fun o e => k7 _ _ (k6 _ _ e), Nat.le_max_left .., by omega⟩, rfl, fun _ h => nomatch h⟩
    · rintro i ys sx h' tk a ha' ⟨f1, ⟨k', u', f2, f3⟩, f4⟩ hb
      have haS : s5.heap.get? a = none := by
        rcases ha' with rfl | ha'
        · exact hI6
        · cases q : s5.heap.get? a with
          | none => rfl
          | some o => have q2 := k6 _ _ q; rw [show h6.get? a = none from ha'] at q2; cases q2
      have hne : AT ≠ a := fun q => by obtain ⟨_, e, _⟩ := hAT5; rw [q, haS] at e; cases e
      exact ⟨fun b o hbm z e => hb b o (fun q => by obtain ⟨o', e'⟩ := some5 e; rw [q, haS] at e'; cases e') (f1 b o hbm z e), ⟨k', u', f2.extBut hb hne, f3⟩, f4⟩
    · rintro i ys v sx C6 m6 N6 hi6 ⟨tv, rfl⟩ ⟨f1, ⟨k7, u7, f2, _, f3⟩, f4, f5⟩ g6 hC6 hm6' hm6'' hCn6
      refine wpAny_tests_nil ?_
      simp only [if_true]
      have x6 := x'.extM f1 fun a ha q => by
        cases q with
        | head => exact hATL ha
        | tail _ q => cases q
      have T6 : Told sx.heap TA AT items := f1.told T' fun q => by
        cases q with
        | head => exact T.ne rfl
        | tail _ q => cases q
      refine sub_M (wpAny_Constant_str (callP (nmG B (g6.tok _).good KLL.g_drawn (args_cons (nmC (by rfl) (ht ▸ x6.k_told) (args_cons (nmC (by rfl) (ha ▸ x6.k_at) (args_cons (wpAny_Constant_int (args_nil ⟨keeper_K F.f_drawn.keep (g6.good.kin B), wpAny_call ?_⟩))))))))))
      refine c_drawn (t := true) (below := 4) F B G₀ (g6.tok _) r ⟨T6.l, T6.i, T6.pos, T6.le, T6.ne⟩ f2 fAT (by omega) (by decide) fun s8 m8 u8 u8' g8 x8 hAT8 hm8 => ?_
      refine ⟨abcd_getL, by nofun, abcd_item hm8 fun tk9 cp hcp u9 => ?_⟩
      refine ⟨.of_but x8 (.head _), g8.tok _, f1.trans (.of_but x8 (.head _)), ⟨_, _, hAT8, Nat.le_max_left .., by omega⟩, by simp [f4], fun v hv => ?_⟩
      rcases List.mem_append.mp hv with hv | hv
      · exact f5 v hv
      · exact ⟨_, _, List.mem_singleton.mp hv, cp, rfl, hcp⟩
    · rintro ys6 s6 D6 C6 m6 ⟨f1, ⟨k7, u7, f2, _, f3⟩, f4, f5⟩ g6 hD6 hC6 nD6 nC6 hne6
      refine ⟨m6, hC6, fun h9 hs9 => ?_⟩
      obtain ⟨ss, hS, hP⟩ := strsAre_all f5
      have hl6 := strsAre_len hS
      refine args_nil ⟨keeper_bi, join_list (hD6.extBut hs9.extBut hne6).isList hS (by
        have : (ss.map (·.length)).sum ≤ ss.length := by
          have : ∀ (zs : List Str), (∀ y ∈ zs, ∃ c, y = ⟨#[c]⟩ ∧ 97 ≤ c ∧ c ≤ 100) → (zs.map (·.length)).sum = zs.length := by
            intro zs hz
            induction zs with
            | nil => rfl
            | cons z r ih =>
              obtain ⟨c, rfl, _⟩ := hz _ (.head _)
              simp only [List.map_cons, List.sum_cons, List.length_cons]
              rw [ih fun y hy => hz y (.tail _ hy)]
              show 1 + _ = _
              omega
          exact Nat.le_of_eq (this ss hP)
        show _ + ss.length * 0 ≤ _
        omega) fun t9 tk9 => ?_⟩
      have g9 := g6.same B (g5.fresh _ (by
        cases q : s5.heap.get? C6 with
        | none => rfl
        | some o => have q2 := k6 _ _ q; rw [show h6.get? C6 = none from nC6] at q2; cases q2)) hs9 G₀ (tk := tk9)
      have ne9 : C6 ≠ AT := fun q => by
        obtain ⟨o, e, _⟩ := hAT5
        have := k6 _ _ e
        rw [← q, show h6.get? C6 = none from nC6] at this; cases this
      have y9 : ExtM [AT] s'.heap h9 := fun b o hb z e => hs9.extBut b o (fun q => by
        obtain ⟨o', e'⟩ := some5 e
        have := k6 _ _ e'
        rw [q, show h6.get? C6 = none from nC6] at this; cases this) (f1 b o hb z e)
      refine ⟨y9, g9, e1.trans y9, ⟨_, _, f2.extBut hs9.extBut ne9.symm, by omega⟩, by simp [e4], fun v hv => ?_⟩
      rcases List.mem_append.mp hv with hv | hv
      · exact e5 v hv
      · exact ⟨_, _, List.mem_singleton.mp hv, join_wd hP (by omega)⟩
  · rintro ys s' D C m ⟨e1, ⟨k', u', e2, e3⟩, e4, e5⟩ g hD hC nD nC hne
    refine ⟨m, hC, fun h9 hs9 => ?_⟩
    obtain ⟨ss, hS, hP⟩ := strsAre_all e5
    have fr : ∀ {a}, h1.get? a = none → s.heap.get? a = none := fun {a} e => by
      cases q : s.heap.get? a with
      | none => rfl
      | some o => have := k1 _ _ q; rw [e] at this; cases this
    have nC' := fr nC
    have ne9 : AT ≠ C := fun q => by obtain ⟨_, e, _⟩ := hAT; rw [q, nC'] at e; cases e
    exact h _ D ys ss k' u' (g.same B (G.fresh _ nC') hs9 G₀) (fun b o hb z e => hs9.extBut b o (fun q => by rw [q, nC'] at e; cases e) (e1 b o hb z e)) (e2.extBut hs9.extBut ne9) (by omega) (hD.extBut hs9.extBut hne) (fr nD) hS ((strsAre_len hS).symm.trans e4) hP
end
end Mine
end

noncomputable section
open PySem PySem.Calls PySem.W PyProof.Rows Builtin Builtin.ObjectAttr
set_option maxRecDepth 100000
set_option maxHeartbeats 4000000
namespace Mine
theorem revIdx_len (n : Nat) (h : n ≤ 5) : (Builtin.Str.strSliceIndices none none (-1) n).length ≤ 5 := by
  match n, h with
  | 0, _ => decide
  | 1, _ => decide
  | 2, _ => decide
  | 3, _ => decide
  | 4, _ => decide
  | 5, _ => decide
theorem rev_wd {x : Str} (hx : Wd x) (idx : List Nat) (hi : idx.length ≤ 5) : Wd ⟨(idx.filterMap (x.cps[·]?)).toArray⟩ := by
  refine ⟨Nat.le_trans (by simpa using List.length_filterMap_le _ _) hi, fun c hc => ?_⟩
  have hc' : c ∈ idx.filterMap (x.cps[·]?) := by simpa using hc
  obtain ⟨i, _, e⟩ := List.mem_filterMap.mp hc'
  exact hx.2 c (by rw [← Array.getElem?_toList] at e; exact List.mem_of_getElem? e)
section
variable {w : World} {A : Around} {s s' s₀ s₁ : Shared} {K : Frag} {mg mb : Str → Option Value} {n k : Nat} {E : Value → Shared → Prop} {L : Addr} {l : Ls} {c : Cs}
theorem str_getL {x : Str} {t : Tok} {M : Model} {h : Heap} : ∃ r, Looks M h (specialOf (.str x t) "__getitem__") (some (.builtin r)) := ⟨_, Looks.of_pure (PySem.F.slot_str_getitem.lookup)⟩
/-- told, at = (script or [3, 1, 4], [0]) -/
theorem c_s0 {LST : Addr} {items : Array Value} {m : Str → Option Value} {Q : Flow → Shared → Prop} (B : Base K mg mb s₁) (G₀ : Good s₁ s₀) (G : Go s₁ true s₀ s) (hA : A.handled = none) (hn : s.heap.Ns L m) (hm : m "script" = some (.ref LST)) (hLM : LM m l)
    (hT : s.heap.IsList LST items) (hI : ∀ (j : Nat) (x : Value), items[j]? = some x → ∃ n u, x = .int n u) (hz : items.size ≤ 63) (x : Fm s.heap L l c) (hL : ∀ a ∈ FA L, s₀.heap.get? a = none)
    (h : ∀ s' TA AT its u, Go s₁ true s₀ s' → Fm s'.heap L l { c with k_told := some (.ref TA), k_at := some (.ref AT) } → Told s'.heap TA AT its → s'.heap.IsList AT #[.int (0 : Nat) u] → s₀.heap.get? AT = none → Q .next s') :
    wpAny (model PG w) A (exec (lawS 0) (EL L)) Q E s := by
  have key : ∀ h' tk TA its, Keep s.heap h' → h'.IsList TA its → (∀ (j : Nat) (x : Value), its[j]? = some x → ∃ n u, x = .int n u) → 0 < its.size → its.size ≤ 63 →
      wpAny (model PG w) A (eval (.List [.Constant (.int 0) 0 ⟨242, 38, 242, 39⟩] ⟨242, 37, 242, 40⟩) (EL L)) (fun v2 s₂ => ∀ h', Keep s₂.heap h' →
        wpAny (model PG w) A (storeName (EL L) "told" (.ref TA)) (fun _ s₃ => wpAny (model PG w) A (storeName (EL L) "at" v2) (fun _ s₄ => Q .next s₄) E s₃) E { s₂ with heap := h' }) E { s with heap := h', toks := tk } := by
    intro h2 tk2 TA its k2 hTA hIt hpos hsz
    refine wpAny_List (args_cons (wpAny_Constant_int (args_nil ⟨Nat.le_trans (Nat.le_of_ble_eq_true rfl) small3, fun h3 k3 => ?_⟩)))
    have k23 := (k2.trans (Keep.push _ _)).trans k3
    have nAT : s.heap.get? h2.objs.size = none := by
      cases q : s.heap.get? h2.objs.size with
      | none => rfl
      | some o => exact absurd (Heap.lt_size (k2 _ _ q)) (Nat.lt_irrefl _)
    have oAT := k3 _ _ (Heap.get?_push_size (o := { cls := .type "list", data := .seq #[Value.int 0 tk2] }) h2 rfl)
    have hAT : h3.IsList h2.objs.size #[.int (0 : Nat) tk2] := ⟨_, oAT, rfl, 0, rfl⟩
    have hTA3 : h3.IsList TA its := hTA.at fun o e => k3 _ _ (Heap.get?_push_of_some _ e)
    have x3 : Fm h3 L l c := x.ext (.of_keep k23)
    have o1 := x3.offList hAT
    have o2 := x3.offList hTA3
    have ne : TA ≠ h2.objs.size := fun q => by
      obtain ⟨_, e, _⟩ := hTA
      exact absurd (Heap.lt_size e) (q ▸ Nat.lt_irrefl _)
    refine st_told x3 fun h4 x4 hs4 => st_at x4 fun h5 x5 hs5 => ?_
    have ne1 : ∀ {a : Addr}, a ∉ FA L → a ≠ L + 1 ∧ a ≠ L + 2 := fun {a} q => ⟨fun e => q (e ▸ mFA1 L), fun e => q (e ▸ mFA2 L)⟩
    have G3 := ((G.keep k23 (tk := tk2 + 1)).same B (hL _ (mFA1 L)) hs4 G₀ (tk := tk2 + 1)).same B (hL _ (mFA2 L)) hs5 G₀ (tk := tk2 + 1)
    exact h _ TA h2.objs.size its tk2 G3 x5 ⟨(hTA3.extBut hs4.extBut (ne1 o2).1).extBut hs5.extBut (ne1 o2).2, hIt, hpos, by omega, ne⟩ ((hAT.extBut hs4.extBut (ne1 o1).1).extBut hs5.extBut (ne1 o1).2) (G.fresh _ nAT)
  refine asg2 hA (BoolOp_or (nmL hn hm (wpAny_truthy_list hT (by omega) ?_)))
  by_cases h0 : items.size = 0
  · have e : (!items.isEmpty) = false := by unfold Array.isEmpty; rw [h0]; rfl
    rw [e]
    show wpAny _ _ _ _ _ _
    refine BoolOp_one (wpAny_List (args_cons (wpAny_Constant_int (args_cons (wpAny_Constant_int (args_cons (wpAny_Constant_int (args_nil ⟨Nat.le_trans (Nat.le_of_ble_eq_true rfl) small3, ?_⟩))))))))
    refine key _ _ s.heap.objs.size #[.int 3 _, .int 1 _, .int 4 _] (Keep.push _ _) ⟨_, Heap.get?_push_size _ rfl, rfl, 0, rfl⟩ (fun j y e => ?_) (by simp) (by simp)
    match j, e with
    | 0, e => cases e; exact ⟨_, _, rfl⟩
    | 1, e => cases e; exact ⟨_, _, rfl⟩
    | 2, e => cases e; exact ⟨_, _, rfl⟩
    | j + 3, e => cases e
  · have e : (!items.isEmpty) = true := by unfold Array.isEmpty; rw [decide_eq_false h0]; rfl
    rw [e]
    exact key s.heap _ LST items (Keep.refl _) hT hI (by omega) hz
theorem c_draw {TA AT : Addr} {items : Array Value} {k below : Nat} {u : Tok} {pf pt pa pb pos : Pos} {kb : Nat} {Q : Value → Shared → Prop} (F : KF K) (KLL : KL K) (B : Base K mg mb s₁) (G₀ : Good s₁ s₀) (G : Go s₁ true s₀ s) (r : Rm A (n + 2)) (x : Fm s.heap L l c) (T : Told s.heap TA AT items)
    (hAT : s.heap.IsList AT #[.int k u]) (fAT : s₀.heap.get? AT = none) (hk : k ≤ 1000) (hb : 0 < below) (ht : c.k_told = some (.ref TA)) (ha : c.k_at = some (.ref AT))
    (h : ∀ s' (m : Nat) u' u'', Go s₁ true s₀ s' → ExtM [AT] s.heap s'.heap → Fm s'.heap L l c → Told s'.heap TA AT items → s'.heap.IsList AT #[.int (k + 1 : Nat) u'] → m < below → Q (.int m u'') s') :
    wpAny (model PG w) A (eval (.Call (.Name "_law_drawn" pf) [.Name "told" pt, .Name "at" pa, .Constant (.int below) kb pb] [] pos) (EL L)) Q E s := by
  refine callP (nmG B G.good KLL.g_drawn (args_cons (rd_told x ht (args_cons (rd_at x ha (args_cons (wpAny_Constant_int (args_nil ⟨keeper_K F.f_drawn.keep (G.good.kin B), wpAny_call ?_⟩)))))))) (by rfl) (by rfl)
  have hATL : AT ∉ FA L := x.offList hAT
  refine c_drawn (t := true) F B G₀ (G.tok _) r ⟨T.l, T.i, T.pos, T.le, T.ne⟩ hAT fAT hk hb fun s' m u' u'' g x5 hAT5 hm => ?_
  exact h s' m u' u'' g (.of_but x5 (.head _)) (x.extBut x5 hATL) ((ExtM.of_but x5 (.head _) : ExtM [AT] s.heap s'.heap).told T fun q => by
    cases q with
    | head => exact T.ne rfl
    | tail _ q => cases q) hAT5 hm
/-- sets = _law_drawn(told, at, 2) == 0 -/
theorem c_s1 {TA AT : Addr} {items : Array Value} {k : Nat} {u : Tok} {Q : Flow → Shared → Prop} (F : KF K) (KLL : KL K) (B : Base K mg mb s₁) (G₀ : Good s₁ s₀) (G : Go s₁ true s₀ s) (r : Rm A (n + 2)) (x : Fm s.heap L l c) (T : Told s.heap TA AT items)
    (hAT : s.heap.IsList AT #[.int k u]) (fAT : s₀.heap.get? AT = none) (hk : k ≤ 1000) (ht : c.k_told = some (.ref TA)) (ha : c.k_at = some (.ref AT)) (hL : ∀ a ∈ FA L, s₀.heap.get? a = none)
    (h : ∀ s' b u', Go s₁ true s₀ s' → Fm s'.heap L { l with v_sets := some (.bool b) } c → Told s'.heap TA AT items → s'.heap.IsList AT #[.int (k + 1 : Nat) u'] → Q .next s') :
    wpAny (model PG w) A (exec (lawS 1) (EL L)) Q E s := by
  refine wpAny_Assign_Name (wpAny_Compare1 (c_draw F KLL B G₀ G r x T hAT fAT hk (by decide) ht ha fun s2 m u2 u2' g2 _ x2 T2 hAT2 hm => wpAny_Constant_int (eq_int ?_)))
  refine st_sets (s := { s2 with toks := _ }) x2 fun h3 x3 hs3 => ?_
  have o1 := x2.offList hAT2
  have o2 := x2.offList T2.l
  exact h _ _ u2 ((g2.tok _).same B (hL _ (mFA0 L)) hs3 G₀) x3 ⟨T2.l.extBut hs3.extBut fun e => o2 (e ▸ mFA0 L), T2.i, T2.pos, T2.le, T2.ne⟩ (hAT2.extBut hs3.extBut fun e => o1 (e ▸ mFA0 L))
theorem strs3 {vs : List Value} {ss : List Str} (h : StrsAre vs ss) (hl : ss.length = 3) : ∃ y0 t0 y1 t1 y2 t2, vs = [.str y0 t0, .str y1 t1, .str y2 t2] ∧ ss = [y0, y1, y2] := by
  cases h with
  | nil => cases hl
  | cons y0 t0 h =>
    cases h with
    | nil => cases hl
    | cons y1 t1 h =>
      cases h with
      | nil => cases hl
      | cons y2 t2 h =>
        cases h with
        | nil => exact ⟨y0, t0, y1, t1, y2, t2, rfl, rfl⟩
        | cons y3 t3 h => simp at hl
def Wl (h : Heap) (WL : Addr) (W : Nat → Str) : Prop := ∃ t0 t1 t2, h.IsList WL #[.str (W 0) t0, .str (W 1) t1, .str (W 2) t2]
theorem Wl.ext {h h' : Heap} {WL : Addr} {W : Nat → Str} (x : Wl h WL W) (e : ∀ o, isTab o = false → h.get? WL = some o → h'.get? WL = some o) : Wl h' WL W := by
  obtain ⟨t0, t1, t2, o, ho, hc, r⟩ := x
  exact ⟨t0, t1, t2, o, e o (isTab_cls (by rw [hc]; nofun)) ho, hc, r⟩
theorem Wl.off {h : Heap} {WL : Addr} {W : Nat → Str} (x : Wl h WL W) (f : Fm h L l c) : WL ∉ FA L := by
  obtain ⟨_, _, _, q⟩ := x
  exact f.offList q
theorem Wl.some {h : Heap} {WL : Addr} {W : Nat → Str} (x : Wl h WL W) : ∃ o, h.get? WL = some o := by
  obtain ⟨_, _, _, o, q, _⟩ := x
  exact ⟨o, q⟩
/-- words = [..] -/
theorem c_s2 {TA AT : Addr} {items : Array Value} {k : Nat} {u : Tok} {Q : Flow → Shared → Prop} (F : KF K) (KLL : KL K) (B : Base K mg mb s₁) (G₀ : Good s₁ s₀) (G : Go s₁ true s₀ s) (r : Rm A (n + 2)) (x : Fm s.heap L l c) (T : Told s.heap TA AT items)
    (hAT : s.heap.IsList AT #[.int k u]) (fAT : s₀.heap.get? AT = none) (hk : k ≤ 500) (ht : c.k_told = some (.ref TA)) (ha : c.k_at = some (.ref AT)) (hL : ∀ a ∈ FA L, s₀.heap.get? a = none)
    (h : ∀ s' WL W k' u', Go s₁ true s₀ s' → Fm s'.heap L l { c with k_words := some (.ref WL) } → Told s'.heap TA AT items → s'.heap.IsList AT #[.int (k' : Nat) u'] → k' ≤ k + 18 → Wl s'.heap WL W → WL ≠ AT → s₀.heap.get? WL = none → (∀ i, Wd (W i)) → Q .next s') :
    wpAny (model PG w) A (exec (lawS 2) (EL L)) Q E s := by
  refine wpAny_Assign_Name (c_words F KLL B G₀ G r x T hAT fAT hk ht ha fun s2 WL vs ss k' u2 g2 x2 hAT2 hk2 hWL nWL hS hl hW => ?_)
  have f2 : Fm s2.heap L l c := x.extM x2 fun a ha q => by
    cases q with
    | head => exact x.offList hAT ha
    | tail _ q => cases q
  have T2 : Told s2.heap TA AT items := x2.told T fun q => by
    cases q with
    | head => exact T.ne rfl
    | tail _ q => cases q
  refine st_words f2 fun h3 f3 hs3 => ?_
  have o1 := f2.offList hAT2
  have o2 := f2.offList T2.l
  have o3 := f2.offList hWL.isList
  obtain ⟨y0, t0, y1, t1, y2, t2, rfl, rfl⟩ := strs3 hS hl
  refine h _ WL (fun i => if i = 0 then y0 else if i = 1 then y1 else y2) k' u2 (g2.same B (hL _ (mFA3 L)) hs3 G₀) f3 ⟨T2.l.extBut hs3.extBut fun e => o2 (e ▸ mFA3 L), T2.i, T2.pos, T2.le, T2.ne⟩ (hAT2.extBut hs3.extBut fun e => o1 (e ▸ mFA3 L)) hk2 ⟨t0, t1, t2, hWL.isList.extBut hs3.extBut fun e => o3 (e ▸ mFA3 L)⟩ (fun q => by
    obtain ⟨_, e, _⟩ := hAT
    rw [← q, nWL] at e; cases e) (G.fresh _ nWL) fun i => ?_
  show Wd (if i = 0 then y0 else if i = 1 then y1 else y2)
  split
  · exact hW _ (.head _)
  · split
    · exact hW _ (.tail _ (.head _))
    · exact hW _ (.tail _ (.tail _ (.head _)))
/-- if _law_drawn(told, at, 3) == 0: words[2] = words[0][::-1] -/
theorem c_s3 {TA AT WL : Addr} {W : Nat → Str} {items : Array Value} {k : Nat} {u : Tok} {Q : Flow → Shared → Prop} (F : KF K) (KLL : KL K) (B : Base K mg mb s₁) (G₀ : Good s₁ s₀) (G : Go s₁ true s₀ s) (r : Rm A (n + 2)) (x : Fm s.heap L l c) (T : Told s.heap TA AT items)
    (hAT : s.heap.IsList AT #[.int k u]) (fAT : s₀.heap.get? AT = none) (hk : k ≤ 1000) (ht : c.k_told = some (.ref TA)) (ha : c.k_at = some (.ref AT)) (hw : c.k_words = some (.ref WL)) (hWl : Wl s.heap WL W) (hne : WL ≠ AT) (fWL : s₀.heap.get? WL = none) (hW : ∀ i, Wd (W i))
    (h : ∀ s' W', Go s₁ true s₀ s' → Fm s'.heap L l c → Wl s'.heap WL W' → (∀ i, Wd (W' i)) → Q .next s') :
    wpAny (model PG w) A (exec (lawS 3) (EL L)) Q E s := by
  refine wpAny_If (wpAny_isTrue_Compare1 (c_draw F KLL B G₀ G r x T hAT fAT hk (by decide) ht ha fun s2 m u2 u2' g2 e2 x2 T2 hAT2 hm => wpAny_Constant_int (eq_int (wpAny_truthy_bool ?_))))
  have W2 : Wl s2.heap WL W := hWl.ext fun o z e => e2 _ _ (fun q => by
    cases q with
    | head => exact hne rfl
    | tail _ q => cases q) z e
  cases (((m : Nat) : Int) == 0) with
  | false =>
    simp only [Bool.false_eq_true, if_false]
    exact wpAny_execs_nil (h _ W (g2.tok _) x2 W2 hW)
  | true =>
    simp only [if_true]
    refine wpAny_execs_cons ?_
    obtain ⟨t0, t1, t2, hWL⟩ := W2
    refine wpAny_Assign_Subscript (sub_M (item_M (rd_words (s := { s2 with toks := _ }) x2 hw (wpAny_Constant_int ⟨WL, _, 0, _, .str (W 0) t0, rfl, rfl, hWL, by decide, by decide, by rfl, ?_⟩))))
    refine wpAny_Slice (wpAny_pure (wpAny_pure ?_))
    show wpAny _ _ (eval (.UnaryOp .USub (.Constant (.int 1) 0 _) _) _) _ _ _
    refine wpAny_UnaryOp (wpAny_Constant_int (PyProof.Rows.neg_int ⟨str_getL, by nofun, ?_⟩))
    dsimp only
    have hsl := Heap.get?_push_size (o := { cls := .type "slice", data := .fields #[.none, .none, .int (-1) (s2.toks + 1 + 1 + 1)] }) s2.heap rfl
    refine wpAny_getItem_str_slice (l := none) (u := none) (st := some (-1, _)) ⟨_, hsl, rfl, rfl⟩ rfl ?_
    have hid := revIdx_len (W 0).length (hW 0).1
    have hrev := rev_wd (hW 0) _ hid
    refine ⟨Nat.le_trans hrev.1 (by rw [sizeLine_eq]; decide), ?_⟩
    have kp : Keep s2.heap (s2.heap.push { cls := .type "slice", data := .fields #[.none, .none, .int (-1) (s2.toks + 1 + 1 + 1)] }) := Keep.push _ _
    have x3 := x2.ext (.of_keep kp)
    have hWL3 := hWL.at fun o e => kp _ _ e
    refine rd_words (s := { s2 with heap := _, toks := _ }) x3 hw (wpAny_Constant_int (wpAny_setItem_list hWL3 (by decide) (by decide) (by simp) fun h4 W4 hs4 => ?_))
    refine wpAny_execs_nil (h _ (fun i => if i = 0 then W 0 else if i = 1 then W 1 else ⟨((Builtin.Str.strSliceIndices none none (-1) (W 0).length).filterMap ((W 0).cps[·]?)).toArray⟩) ((g2.keep kp).same B fWL hs4 G₀) (x3.extBut hs4.extBut (x3.offList hWL3)) ⟨t0, t1, _, W4⟩ fun i => ?_)
    show Wd (if i = 0 then W 0 else if i = 1 then W 1 else _)
    split
    · exact hW 0
    · split
      · exact hW 1
      · exact hrev
end
end Mine
end

noncomputable section
open PySem PySem.Calls PySem.W PyProof.Rows Builtin Builtin.ObjectAttr
set_option maxRecDepth 100000
set_option maxHeartbeats 4000000
namespace Mine
/-- what stands when only the frame changes -/
def Stb (L : Addr) (O : Heap → Prop) : Prop := ∀ h h' l c, Fm h L l c → O h → ExtM (FA L) h h' → O h'
structure St (s₁ s₀ : Shared) (L : Addr) (O : Heap → Prop) (l : Ls) (c : Cs) (s : Shared) : Prop where
  go : Go s₁ true s₀ s
  fm : Fm s.heap L l c
  o : O s.heap
/-- an object of a class, made with as_set alone -/
def Ob (C : Addr) (sets : Bool) (a : Addr) (h : Heap) : Prop := ∃ f q, IsO h a C f ∧ NoShadow f ∧ f "qval" = some (.int 1 q) ∧ f "as_set" = some (.bool sets)
def ObT (sets : Bool) (k1 k2 : NV) (a : Addr) (h : Heap) : Prop := ∃ f q, IsO h a 336 f ∧ NoShadow f ∧ f "qval" = some (.int 1 q) ∧ f "as_set" = some (.bool sets) ∧ f "bias" = some .none ∧ KsOk h (f "ks") k1 k2
section
variable {w : World} {A : Around} {s s' s₀ s₁ : Shared} {K : Frag} {mg mb : Str → Option Value} {n k : Nat} {E : Value → Shared → Prop} {L : Addr} {l : Ls} {c : Cs} {O P : Heap → Prop}
theorem Stb.and (x : Stb L O) (y : Stb L P) : Stb L (fun h => O h ∧ P h) := fun h h' l c f o e => ⟨x h h' l c f o.1 e, y h h' l c f o.2 e⟩
theorem Stb.true : Stb L (fun _ => True) := fun _ _ _ _ _ _ _ => trivial
theorem Stb.wl {WL : Addr} {W : Nat → Str} : Stb L (fun h => Wl h WL W) := fun h h' l c f o e => o.ext fun ob z q => e _ _ (o.off f) z q
theorem Stb.list {a : Addr} {v : Array Value} : Stb L (fun h => h.IsList a v) := fun h h' l c f o e => e.list o (f.offList o)
theorem IsO.off {h : Heap} {a C : Addr} {f : Str → Option Value} {q : Tok} (x : IsO h a C f) (hq : f "qval" = some (.int 1 q)) (F : Fm h L l c) : a ∉ FA L ∧ ∀ dx, h.get? a = some (instObj C dx) → dx ∉ FA L := by
  obtain ⟨dx, od, h1, h2, h3, h4⟩ := x
  refine ⟨F.off h1 (fun _ _ e => nomatch e) (fun _ e => nomatch e), fun dx' e' => ?_⟩
  rw [h1] at e'
  cases e'
  have lk := h4 "qval"
  rw [hq] at lk
  intro hm
  have nc : ∀ {b v}, h.IsCell b v → dx = b → False := fun {b v} hc e => by
    obtain ⟨o', e1, e2⟩ := hc
    rw [← e, h2] at e1; cases e1
    unfold lookIn at lk
    rw [e2] at lk
    cases lk
  have nl : dx = L → False := fun e => by
    obtain ⟨m, ⟨o', es, ep, e1, e2, e3, e4⟩, r⟩ := F.ns
    rw [← e, h2] at e1; cases e1
    unfold lookIn at lk
    rw [e2] at lk
    have e5 := (e4 "qval").trans r.q
    unfold nsFind findBy at e5
    rw [Option.map_eq_none_iff] at e5
    have e6 : es.toList.find? (·.key.isStr "qval") = none := by
      obtain ⟨ls⟩ := es
      simpa using e5
    dsimp only at lk
    rw [e6] at lk
    dsimp only at lk
    split at lk <;> cases lk
  unfold FA at hm
  simp only [List.mem_cons, List.not_mem_nil, or_false] at hm
  rcases hm with q | q | q | q | q | q | q | q | q | q | q | q | q
  · exact nl q
  · exact nc F.k_told q
  · exact nc F.k_at q
  · exact nc F.k_words q
  · exact nc F.k_jaccard q
  · exact nc F.k_one q
  · exact nc F.k_other q
  · exact nc F.k_far q
  · exact nc F.k_i q
  · exact nc F.k_j q
  · exact nc F.k_first q
  · exact nc F.k_second q
  · exact nc F.k_due q
theorem IsO.extM {h h' : Heap} {a C : Addr} {f : Str → Option Value} {q : Tok} (x : IsO h a C f) (hq : f "qval" = some (.int 1 q)) (F : Fm h L l c) (e : ExtM (FA L) h h') : IsO h' a C f := by
  have o := x.off hq F
  obtain ⟨dx, od, h1, h2, h3, h4⟩ := x
  exact ⟨dx, od, e _ _ o.1 (isTab_cls (by nofun)) h1, e _ _ (o.2 dx h1) h3 h2, h3, h4⟩
theorem Stb.ob {C a : Addr} {sets : Bool} : Stb L (Ob C sets a) := fun h h' l c F ⟨f, q, i, a, b, d⟩ e => ⟨f, q, i.extM b F e, a, b, d⟩
theorem KsOk.extM {h h' : Heap} {v : Option Value} {k1 k2 : NV} (x : KsOk h v k1 k2) (F : Fm h L l c) (e : ExtM (FA L) h h') : KsOk h' v k1 k2 := by
  cases x with
  | none => exact .none
  | list KL _ _ u1 u2 hl a b c => exact .list KL _ _ u1 u2 (e.list hl (F.offList hl)) a b c
theorem Stb.obT {a : Addr} {sets : Bool} {k1 k2 : NV} : Stb L (ObT sets k1 k2 a) := fun h h' l c F ⟨f, q, i, a, b, d, m, n⟩ e => ⟨f, q, i.extM b F e, a, b, d, m, n.extM F e⟩
theorem Ob.ext {C a : Addr} {sets : Bool} {h h' : Heap} (x : Ob C sets a h) (e : Ext h h') : Ob C sets a h' := let ⟨f, q, i, a, b, d⟩ := x; ⟨f, q, i.ext e, a, b, d⟩
theorem ObT.ext {a : Addr} {sets : Bool} {k1 k2 : NV} {h h' : Heap} (x : ObT sets k1 k2 a h) (e : Ext h h') : ObT sets k1 k2 a h' := let ⟨f, q, i, a, b, d, m, n⟩ := x; ⟨f, q, i.ext e, a, b, d, m, n.ext e⟩

theorem Stb.ext (x : Stb L O) {h h' : Heap} (F : Fm h L l c) (o : O h) (e : Ext h h') : O h' := x h h' l c F o (.of_ext e)
theorem St.run (X : Stb L O) (x : St s₁ s₀ L O l c s) (g : Go s₁ true s s') : St s₁ s₀ L O l c s' := ⟨x.go.trans g, x.fm.ext g.Ext, X.ext x.fm x.o g.Ext⟩
theorem St.keep (X : Stb L O) (x : St s₁ s₀ L O l c s) {h' : Heap} {tk : Nat} (kp : Keep s.heap h') : St s₁ s₀ L O l c { s with heap := h', toks := tk } := ⟨x.go.keep kp, x.fm.ext (.of_keep kp), X.ext x.fm x.o (.of_keep kp)⟩
theorem St.tok (x : St s₁ s₀ L O l c s) (tk : Nat) : St s₁ s₀ L O l c { s with toks := tk } := ⟨x.go.tok tk, x.fm, x.o⟩
theorem St.cell (X : Stb L O) (B : Base K mg mb s₁) (G₀ : Good s₁ s₀) (hL : ∀ a ∈ FA L, s₀.heap.get? a = none) (x : St s₁ s₀ L O l c s) {a : Addr} (ha : a ∈ FA L) {h' : Heap} {tk : Nat} {l' : Ls} {c' : Cs} (f : Fm h' L l' c') (hs : Heap.SameBut a s.heap h') : St s₁ s₀ L O l' c' { s with heap := h', toks := tk } :=
  ⟨x.go.same B (hL a ha) hs G₀, f, X _ _ _ _ x.fm x.o (.of_but hs.extBut ha)⟩
theorem St.with (x : St s₁ s₀ L O l c s) (p : P s.heap) : St s₁ s₀ L (fun h => O h ∧ P h) l c s := ⟨x.go, x.fm, x.o, p⟩
end
end Mine
end

noncomputable section
open PySem PySem.Calls PySem.W PyProof.Rows Builtin Builtin.ObjectAttr
set_option maxRecDepth 100000
set_option maxHeartbeats 4000000
namespace Mine
/-- the four classes -/
structure K4 (K : Frag) : Prop where
  j : KC K 270 260 267 253
  s : KC K 304 294 301 287
  t : KC K 336 328 333 321
  o : KC K 368 360 365 353
  sj : KS K 270
  ss : KS K 304
  st : KS K 336
  so : KS K 368
section
variable {w : World} {A : Around} {s s' s₀ s₁ : Shared} {K : Frag} {mg mb : Str → Option Value} {n k : Nat} {E : Value → Shared → Prop} {L : Addr} {l : Ls} {c : Cs} {O P : Heap → Prop}
/-- jaccard, sorensen, overlap = .. -/
theorem c_s4 {sets : Bool} {Q : Flow → Shared → Prop} (F : KF K) (D : KG K) (C4 : K4 K) (B : Base K mg mb s₁) (G₀ : Good s₁ s₀) (r : Rm A (n + 2)) (hL : ∀ a ∈ FA L, s₀.heap.get? a = none) (X : Stb L O) (x : St s₁ s₀ L O l c s) (hset : l.v_sets = some (.bool sets))
    (h : ∀ s' j so ov, St s₁ s₀ L (fun h => (O h ∧ Ob 270 sets j h) ∧ Ob 304 sets so h ∧ Ob 368 sets ov h) { l with v_sorensen := some (.ref so), v_overlap := some (.ref ov) } { c with k_jaccard := some (.ref j) } s' → Q .next s') :
    wpAny (model PG w) A (exec (lawS 4) (EL L)) Q E s := by
  refine asg3 r.h (callKw (nmG B x.go.good D.gJ (kwAll_cons (rd_sets x.fm hset (kwAll_nil ⟨keeper_K C4.j.keep (x.go.good.kin B), wpAny_call ?_⟩)))))
  refine new_J (sets := sets) F D C4.j C4.sj B x.go.good r fun s2 j f q g2 _ i2 ns2 q2 a2 => ?_
  have x2 := (x.run X g2).with (P := Ob 270 sets j) ⟨f, q, i2, ns2, q2, a2⟩
  have X2 : Stb L (fun h => O h ∧ Ob 270 sets j h) := X.and .ob
  refine callKw (nmG B x2.go.good D.gS (kwAll_cons (rd_sets x2.fm hset (kwAll_nil ⟨keeper_K C4.s.keep (x2.go.good.kin B), wpAny_call ?_⟩))))
  refine new_S (sets := sets) F D C4.s C4.ss B x2.go.good r fun s3 so f q g3 _ i3 ns3 q3 a3 => ?_
  have x3 := (x2.run X2 g3).with (P := Ob 304 sets so) ⟨f, q, i3, ns3, q3, a3⟩
  have X3 : Stb L (fun h => (O h ∧ Ob 270 sets j h) ∧ Ob 304 sets so h) := X2.and .ob
  refine callKw (nmG B x3.go.good D.gO (kwAll_cons (rd_sets x3.fm hset (kwAll_nil ⟨keeper_K C4.o.keep (x3.go.good.kin B), wpAny_call ?_⟩))))
  refine new_O (sets := sets) F D C4.o C4.so B x3.go.good r fun s4 ov f q g4 _ i4 ns4 q4 a4 => ?_
  have x4 := (x3.run X3 g4).with (P := Ob 368 sets ov) ⟨f, q, i4, ns4, q4, a4⟩
  have X4 : Stb L (fun h => ((O h ∧ Ob 270 sets j h) ∧ Ob 304 sets so h) ∧ Ob 368 sets ov h) := X3.and .ob
  intro h5 k5
  have x5 := x4.keep X4 k5 (tk := s4.toks)
  refine st_jaccard x5.fm fun h6 f6 hs6 => ?_
  have x6 := x5.cell X4 B G₀ hL (mFA4 L) f6 hs6 (tk := s4.toks)
  refine st_sorensen (s := { s4 with heap := h6 }) x6.fm fun h7 f7 hs7 => ?_
  have x7 := x6.cell X4 B G₀ hL (mFA0 L) f7 hs7 (tk := s4.toks + 1)
  refine st_overlap (s := { s4 with heap := h7, toks := s4.toks + 1 }) x7.fm fun h8 f8 hs8 => ?_
  have x8 := x7.cell X4 B G₀ hL (mFA0 L) f8 hs8 (tk := s4.toks + 1 + 1)
  exact h _ j so ov ⟨x8.go, x8.fm, x8.o.1.1, x8.o.1.2, x8.o.2⟩
abbrev hf : UInt64 := 0x3fe0000000000000
theorem half_val : frac 1 2 = hf := by decide +kernel
/-- plain, half, uneven = .. -/
theorem c_s5 {sets : Bool} {Q : Flow → Shared → Prop} (F : KF K) (D : KG K) (C4 : K4 K) (B : Base K mg mb s₁) (G₀ : Good s₁ s₀) (r : Rm A (n + 2)) (hL : ∀ a ∈ FA L, s₀.heap.get? a = none) (X : Stb L O) (x : St s₁ s₀ L O l c s) (hset : l.v_sets = some (.bool sets))
    (h : ∀ s' p hh un, St s₁ s₀ L (fun h => (O h ∧ ObT sets (.i 1) (.i 1) p h) ∧ ObT sets (.f hf) (.f hf) hh h ∧ ObT sets (.i 1) (.i 2) un h) { l with v_plain := some (.ref p), v_half := some (.ref hh), v_uneven := some (.ref un) } c s' → Q .next s') :
    wpAny (model PG w) A (exec (lawS 5) (EL L)) Q E s := by
  refine asg3s r.h (callKw (nmG B x.go.good D.gT (kwAll_cons (rd_sets x.fm hset (kwAll_nil ⟨keeper_K C4.t.keep (x.go.good.kin B), wpAny_call ?_⟩)))))
  refine new_T0 (sets := sets) F D C4.t C4.st B x.go.good r fun s2 p f q g2 _ i2 ns2 q2 a2 b2 k2 => ?_
  have x2 := (x.run X g2).with (P := ObT sets (.i 1) (.i 1) p) ⟨f, q, i2, ns2, q2, a2, b2, k2 ▸ .none⟩
  have X2 : Stb L (fun h => O h ∧ ObT sets (.i 1) (.i 1) p h) := X.and .obT
  refine callKw (nmG B x2.go.good D.gT (kwAll_cons (wpAny_List (args_cons (wpAny_BinOp (wpAny_Constant_int (wpAny_Constant_int (div_nat (i := 1) (u := 2) (by decide) (by decide +kernel) fun ta tka => args_cons (wpAny_BinOp (wpAny_Constant_int (wpAny_Constant_int (div_nat (i := 1) (u := 2) (by decide) (by decide +kernel) fun tb tkb => args_nil ⟨Nat.le_trans (Nat.le_of_ble_eq_true rfl) small3, ?_⟩))))))))))))
  have x3 := x2.keep X2 (Keep.push s2.heap { cls := .type "list", data := .seq [Value.float (frac 1 2) ta, Value.float (frac 1 2) tb].toArray }) (tk := tkb)
  have hKL := Heap.get?_push_size (o := { cls := .type "list", data := .seq [Value.float (frac 1 2) ta, Value.float (frac 1 2) tb].toArray }) s2.heap rfl
  dsimp only
  refine kwAll_cons (rd_sets (s := { s2 with heap := _, toks := _ }) x3.fm hset (kwAll_nil ⟨keeper_K C4.t.keep (x3.go.good.kin B), wpAny_call ?_⟩))
  refine new_TK (sets := sets) (KL := s2.heap.objs.size) F D C4.t C4.st B x3.go.good r fun s4 hh f q g4 kp4 i4 ns4 q4 a4 b4 k4 => ?_
  have x4 := (x3.run X2 g4).with (P := ObT sets (.f hf) (.f hf) hh) ⟨f, q, i4, ns4, q4, a4, b4, k4 ▸ .list s2.heap.objs.size _ _ ta tb (by
    have : frac 1 2 = hf := half_val
    rw [this] at hKL kp4
    exact ⟨_, kp4 _ _ hKL, rfl, 0, rfl⟩) (.f _ _) nofun nofun⟩
  have X4 : Stb L (fun h => (O h ∧ ObT sets (.i 1) (.i 1) p h) ∧ ObT sets (.f hf) (.f hf) hh h) := X2.and .obT
  refine callKw (nmG B x4.go.good D.gT (kwAll_cons (wpAny_List (args_cons (wpAny_Constant_int (args_cons (wpAny_Constant_int (args_nil ⟨Nat.le_trans (Nat.le_of_ble_eq_true rfl) small3, ?_⟩))))))))
  have x5 := x4.keep X4 (Keep.push s4.heap { cls := .type "list", data := .seq [Value.int 1 s4.toks, Value.int 2 (s4.toks + 1)].toArray }) (tk := s4.toks + 1 + 1)
  have hKL5 := Heap.get?_push_size (o := { cls := .type "list", data := .seq [Value.int 1 s4.toks, Value.int 2 (s4.toks + 1)].toArray }) s4.heap rfl
  dsimp only
  refine kwAll_cons (rd_sets (s := { s4 with heap := _, toks := _ }) x5.fm hset (kwAll_nil ⟨keeper_K C4.t.keep (x5.go.good.kin B), wpAny_call ?_⟩))
  refine new_TK (sets := sets) (KL := s4.heap.objs.size) F D C4.t C4.st B x5.go.good r fun s6 un f q g6 kp6 i6 ns6 q6 a6 b6 k6 => ?_
  have x6 := (x5.run X4 g6).with (P := ObT sets (.i 1) (.i 2) un) ⟨f, q, i6, ns6, q6, a6, b6, k6 ▸ .list s4.heap.objs.size _ _ s4.toks (s4.toks + 1) ⟨_, kp6 _ _ hKL5, rfl, 0, rfl⟩ (.i _ _) (fun n e => by cases e; decide) (fun n e => by cases e; decide)⟩
  have X6 : Stb L (fun h => ((O h ∧ ObT sets (.i 1) (.i 1) p h) ∧ ObT sets (.f hf) (.f hf) hh h) ∧ ObT sets (.i 1) (.i 2) un h) := X4.and .obT
  intro h7 k7
  have x7 := x6.keep X6 k7 (tk := s6.toks)
  refine st_uneven x7.fm fun h8 f8 hs8 => ?_
  have x8 := x7.cell X6 B G₀ hL (mFA0 L) f8 hs8 (tk := s6.toks + 1)
  refine st_half (s := { s6 with heap := h8, toks := s6.toks + 1 }) x8.fm fun h9 f9 hs9 => ?_
  have x9 := x8.cell X6 B G₀ hL (mFA0 L) f9 hs9 (tk := s6.toks + 1 + 1)
  refine st_plain (s := { s6 with heap := h9, toks := s6.toks + 1 + 1 }) x9.fm fun h10 f10 hs10 => ?_
  have x10 := x9.cell X6 B G₀ hL (mFA0 L) f10 hs10 (tk := s6.toks + 1 + 1 + 1)
  exact h _ p hh un ⟨x10.go, x10.fm, x10.o.1.1, x10.o.1.2, x10.o.2⟩
end
end Mine
end

noncomputable section
open PySem PySem.Calls PySem.W PyProof.Rows Builtin Builtin.ObjectAttr
set_option maxRecDepth 100000
set_option maxHeartbeats 4000000
namespace Mine
def fdist (fl : UInt64) : UInt64 := Float64.sub (Float64.ofInt 1) fl
def ffar (fl : UInt64) : UInt64 := Float64.mul (Float64.ofInt 27720) (fdist fl)
def Dn (c u : Nat) : Nat := 27720 * (u - c) / u
def ferr (fl : UInt64) (sh : Int) : UInt64 := Float64.mul (Float64.abs (Float64.sub (Float64.mul (Float64.ofInt 27720) fl) (Float64.ofInt sh))) (Float64.ofInt 1000000)
/-- the half-weighted sum -/
def hsum (c a b : Nat) : UInt64 := Float64.add (Float64.add (Float64.ofInt c) (Float64.mul hf (Float64.ofInt (a - c)))) (Float64.mul hf (Float64.ofInt (b - c)))
def hsim (c a b : Nat) : UInt64 := Float64.div (Float64.ofInt c) (hsum c a b)
abbrev feq (x y : UInt64) : Bool := Float64.cmp x y == some Ordering.eq
/-- the float facts of two words with letters -/
def FF (c a b : Nat) : Bool :=
  let u := a + b - c
  let fj := frac c u
  let sh : Nat := 27720 - Dn c u
  decide (0 < u) && !Float64.isInf fj && !Float64.isNaN (ffar fj) && !Float64.isInf (ffar fj) && Flt.toInt Float64.nearestOf (ffar fj) == (Dn c u : Nat) && feq (fdist fj) (fdist fj)
  && !(Float64.cmpInt (ferr fj sh) 1 == some Ordering.gt)
  && !Float64.isInf (Float64.ofInt (a + b : Nat)) && !Float64.isZero (Float64.ofInt (a + b : Nat))
  && !Float64.isInf (frac (2 * sh) (27720 + sh)) && feq (sor c (a + b)) (frac (2 * sh) (27720 + sh))
  && !Float64.isInf (frac c (min a b)) && feq (frac c (min a b)) (frac c (min a b)) && feq fj fj
  && !Float64.isZero (hsum c a b) && feq (hsim c a b) (sor c (a + b))
  && !Float64.isInf (frac c (a + 2 * b - 2 * c)) && feq (frac c (a + 2 * b - 2 * c)) (frac c (a + 2 * b - 2 * c))
theorem ff0 : FF 1 2 3 = true := by decide +kernel
def ffAll (a : Nat) : Bool := (List.range 5).all fun b' => (List.range 6).all fun c => !(decide (c ≤ a) && decide (c ≤ b' + 1)) || FF c a (b' + 1)
theorem ff1 : ffAll 1 = true := by decide +kernel
theorem ff2 : ffAll 2 = true := by decide +kernel
theorem ff3 : ffAll 3 = true := by decide +kernel
theorem ff4 : ffAll 4 = true := by decide +kernel
theorem ff5 : ffAll 5 = true := by decide +kernel
theorem ffGet {a b c : Nat} (h : ffAll a = true) (hb0 : 0 < b) (hb : b ≤ 5) (hca : c ≤ a) (hcb : c ≤ b) : FF c a b = true := by
  unfold ffAll at h
  have h1 := List.all_eq_true.mp h (b - 1) (List.mem_range.mpr (by omega))
  have h2 := List.all_eq_true.mp h1 c (List.mem_range.mpr (by omega))
  have e : b - 1 + 1 = b := by omega
  rw [e] at h2
  have h3 : (decide (c ≤ a) && decide (c ≤ b)) = true := by rw [decide_eq_true hca, decide_eq_true hcb]; rfl
  rw [h3] at h2
  simpa using h2
theorem ff_all {a b c : Nat} (ha0 : 0 < a) (ha : a ≤ 5) (hb0 : 0 < b) (hb : b ≤ 5) (hca : c ≤ a) (hcb : c ≤ b) : FF c a b = true := by
  have h : ffAll a = true := by
    rcases (by omega : a = 1 ∨ a = 2 ∨ a = 3 ∨ a = 4 ∨ a = 5) with q | q | q | q | q
    · rw [q]; exact ff1
    · rw [q]; exact ff2
    · rw [q]; exact ff3
    · rw [q]; exact ff4
    · rw [q]; exact ff5
  exact ffGet h hb0 hb hca hcb
structure Num (c u a b : Nat) : Prop where
  u0 : 0 < u
  infj : Float64.isInf (frac c u) = false
  nan : Float64.isNaN (ffar (frac c u)) = false
  inf : Float64.isInf (ffar (frac c u)) = false
  near : Flt.toInt Float64.nearestOf (ffar (frac c u)) = (Dn c u : Nat)
  dd : feq (fdist (frac c u)) (fdist (frac c u)) = true
  err : (Float64.cmpInt (ferr (frac c u) (27720 - Dn c u : Nat)) 1 == some Ordering.gt) = false
  sorok : SorOk c (a + b)
  s1 : Float64.isInf (frac (2 * (27720 - Dn c u)) (27720 + (27720 - Dn c u))) = false
  s2 : feq (sor c (a + b)) (frac (2 * (27720 - Dn c u)) (27720 + (27720 - Dn c u))) = true
  o1 : Float64.isInf (frac c (min a b)) = false
  o2 : feq (frac c (min a b)) (frac c (min a b)) = true
  jj : feq (frac c u) (frac c u) = true
  h1 : Float64.isZero (hsum c a b) = false
  h2 : feq (hsim c a b) (sor c (a + b)) = true
  v1 : Float64.isInf (frac c (a + 2 * b - 2 * c)) = false
  v2 : feq (frac c (a + 2 * b - 2 * c)) (frac c (a + 2 * b - 2 * c)) = true
theorem num {a b c u : Nat} (ha0 : 0 < a) (ha : a ≤ 5) (hb0 : 0 < b) (hb : b ≤ 5) (hca : c ≤ a) (hcb : c ≤ b) (hu : c + u = a + b) : Num c u a b := by
  have h := ff_all ha0 ha hb0 hb hca hcb
  have e : a + b - c = u := by omega
  unfold FF at h
  rw [e] at h
  simp only [Bool.and_eq_true, Bool.not_eq_true', decide_eq_true_eq, beq_iff_eq] at h
  obtain ⟨⟨⟨⟨⟨⟨⟨⟨⟨⟨⟨⟨⟨⟨⟨⟨⟨q1, q2⟩, q3⟩, q3'⟩, q4⟩, q5⟩, q6⟩, q7⟩, q8⟩, q9⟩, q10⟩, q11⟩, q12⟩, q13⟩, q14⟩, q15⟩, q16⟩, q17⟩ := h
  exact ⟨q1, q2, q3, q3', q4, beq_iff_eq.mpr q5, q6, ⟨by omega, by omega, q7, q8⟩, q9, beq_iff_eq.mpr q10, q11, beq_iff_eq.mpr q12, beq_iff_eq.mpr q13, q14, beq_iff_eq.mpr q15, q16, beq_iff_eq.mpr q17⟩
/-- an int compared with the float of one -/
theorem one_div : ∀ a, 0 < a → a ≤ 5 → Float64.isInf (frac a a) = false ∧ Float64.cmpInt (frac a a) 1 = some Ordering.eq := by
  intro a h0 h5
  rcases (by omega : a = 1 ∨ a = 2 ∨ a = 3 ∨ a = 4 ∨ a = 5) with q | q | q | q | q <;> subst q <;> exact ⟨by decide +kernel, by decide +kernel⟩
theorem one_big : Float64.isInf (frac 55440 55440) = false ∧ Float64.cmpInt (frac 55440 55440) 1 = some Ordering.eq := ⟨by decide +kernel, by decide +kernel⟩
end Mine
end

noncomputable section
open PySem PySem.Calls PySem.W PyProof.Rows Builtin Builtin.ObjectAttr
set_option maxRecDepth 100000
set_option maxHeartbeats 4000000
namespace Mine
/-- two words and their counts -/
structure PI (sets : Bool) (x y : Str) (c u a b : Nat) : Prop where
  sx : x.cps.size ≤ 5
  sy : y.cps.size ≤ 5
  cts : Cts sets x y c u a b
  sum : c + u = a + b
  ca : c ≤ a
  cb : c ≤ b
  a5 : a ≤ 5
  b5 : b ≤ 5
  a0 : x.cps.size = 0 ↔ a = 0
  b0 : y.cps.size = 0 ↔ b = 0
  same : x = y → c = a ∧ c = b
theorem str_nil {x : Str} (h : x.cps.size = 0) : x = ⟨#[]⟩ := by
  obtain ⟨l⟩ := x
  have : l = #[] := Array.eq_empty_of_size_eq_zero h
  rw [this]
section
variable {sets : Bool} {x y : Str} {c u a b : Nat}
theorem PI.num (p : PI sets x y c u a b) (hx : x.cps.size ≠ 0) (hy : y.cps.size ≠ 0) : Num c u a b :=
  Mine.num (Nat.pos_of_ne_zero fun e => hx (p.a0.mpr e)) p.a5 (Nat.pos_of_ne_zero fun e => hy (p.b0.mpr e)) p.b5 p.ca p.cb p.sum
theorem Dn_self {u c : Nat} (h : u = c) : Dn c u = 0 := by subst h; unfold Dn; rw [Nat.sub_self, Nat.mul_zero, Nat.zero_div]
theorem PI.d_same (p : PI sets x y c u a b) (h : x = y) : Dn c u = 0 := by
  have := p.same h
  exact Dn_self (by have := p.sum; omega)
theorem PI.d_empty (p : PI sets x y c u a b) (h : x ≠ y) (e : x.cps.size = 0 ∨ y.cps.size = 0) : Dn c u = 27720 ∧ c = 0 ∧ 0 < u := by
  have hc : c = 0 := by
    rcases e with e | e
    · have := p.a0.mp e; have := p.ca; omega
    · have := p.b0.mp e; have := p.cb; omega
  have hu : 0 < u := by
    rcases Nat.eq_zero_or_pos u with q | q
    · exfalso
      have := p.sum
      exact h ((str_nil (p.a0.mpr (by omega))).trans (str_nil (p.b0.mpr (by omega))).symm)
    · exact q
  refine ⟨?_, hc, hu⟩
  rw [hc]; unfold Dn
  rw [Nat.sub_zero]; exact Nat.mul_div_cancel _ hu
theorem PI.d_le (p : PI sets x y c u a b) : Dn c u ≤ 27720 := by
  unfold Dn
  rcases Nat.eq_zero_or_pos u with q | q
  · rw [q]; simp
  · exact Nat.div_le_of_le_mul (by rw [Nat.mul_comm]; exact Nat.mul_le_mul_right _ (Nat.sub_le _ _))
end
section
variable {w : World} {A : Around} {s s' s₀ s₁ : Shared} {K : Frag} {mg mb : Str → Option Value} {n k : Nat} {E : Value → Shared → Prop} {sets : Bool} {x y : Str} {c u a b : Nat}
theorem callJ {o : Addr} (F : KF K) (C4 : K4 K) (B : Base K mg mb s₁) (G : Good s₁ s) (ob : Ob 270 sets o s.heap) (p : PI sets x y c u a b) : CallOk w s₁ s 267 o (n + 16) x y (frac c u) := fun A s' R tu tv g r h => by
  obtain ⟨f, q, i, ns, hq, has⟩ := ob
  exact c_jcall F C4.j B g.good r (g.isO i) ns ⟨q, hq⟩ has (by have := p.sx; omega) (by have := p.sy; omega) (fun _ hx hy => ⟨p.cts, (p.num hx hy).u0, (p.num hx hy).infj⟩) h
theorem callS {o : Addr} (F : KF K) (C4 : K4 K) (B : Base K mg mb s₁) (G : Good s₁ s) (ob : Ob 304 sets o s.heap) (p : PI sets x y c u a b) : CallOk w s₁ s 301 o (n + 16) x y (sor c (a + b)) := fun A s' R tu tv g r h => by
  obtain ⟨f, q, i, ns, hq, has⟩ := ob
  exact c_scall F C4.s B g.good r (g.isO i) ns ⟨q, hq⟩ has (by have := p.sx; omega) (by have := p.sy; omega) (fun _ hx hy => ⟨p.cts, by have := (p.num hx hy).u0; have := p.sum; omega, (p.num hx hy).sorok⟩) h
theorem callO {o : Addr} (F : KF K) (C4 : K4 K) (B : Base K mg mb s₁) (G : Good s₁ s) (ob : Ob 368 sets o s.heap) (p : PI sets x y c u a b) : CallOk w s₁ s 365 o (n + 16) x y (frac c (min a b)) := fun A s' R tu tv g r h => by
  obtain ⟨f, q, i, ns, hq, has⟩ := ob
  exact c_ocall F C4.o B g.good r (g.isO i) ns ⟨q, hq⟩ has (by have := p.sx; omega) (by have := p.sy; omega) (fun _ hx hy => ⟨p.cts, by have := p.a0; have := p.b0; omega, (p.num hx hy).o1⟩) h
theorem callT {o : Addr} {k1 k2 : NV} {fl : UInt64} (F : KF K) (C4 : K4 K) (B : Base K mg mb s₁) (G : Good s₁ s) (ob : ObT sets k1 k2 o s.heap) (p : PI sets x y c u a b) (ht : x.cps.size ≠ 0 → y.cps.size ≠ 0 → TvOk k1 k2 c a b fl) : CallOk w s₁ s 333 o (n + 16) x y fl := fun A s' R tu tv g r h => by
  obtain ⟨f, q, i, ns, hq, has, hb, hk⟩ := ob
  exact c_tcall F C4.t B g.good r (g.isO i) ns ⟨q, hq⟩ has (by have := p.sx; omega) (by have := p.sy; omega) (fun _ hx hy => ⟨p.cts, ht hx hy, p.ca, p.cb, by have := p.a5; omega, by have := p.b5; omega⟩) hb (hk.ext g.Ext) h
theorem tv1 (p : PI sets x y c u a b) (hx : x.cps.size ≠ 0) (hy : y.cps.size ≠ 0) : TvOk (.i 1) (.i 1) c a b (frac c u) := by
  refine .int u ?_ (p.num hx hy).u0 (p.num hx hy).infj
  show NV.i ((c : Int) + 1 * ((a : Int) - c) + 1 * ((b : Int) - c)) = _
  have := p.sum
  congr 1; omega
theorem tv2 (p : PI sets x y c u a b) (hx : x.cps.size ≠ 0) (hy : y.cps.size ≠ 0) : TvOk (.i 1) (.i 2) c a b (frac c (a + 2 * b - 2 * c)) := by
  have := p.ca
  have := p.cb
  have := p.a0
  refine .int (a + 2 * b - 2 * c) ?_ (by omega) (p.num hx hy).v1
  show NV.i ((c : Int) + 1 * ((a : Int) - c) + 2 * ((b : Int) - c)) = _
  congr 1; omega
theorem tvh (p : PI sets x y c u a b) (hx : x.cps.size ≠ 0) (hy : y.cps.size ≠ 0) : TvOk (.f hf) (.f hf) c a b (hsim c a b) :=
  .flt (hsum c a b) rfl (p.num hx hy).h1
/-- round(27720 * ..) -/
theorem far_val {z : Value} {t : Tok} {Q : Value → Shared → Prop} (hA : A.handled = none) (p : PI sets x y c u a b) (hz : DistOk x y (frac c u) z) (h : ∀ tk t', Q (.int (Dn c u : Nat) t') { s with toks := tk }) :
    wpAny (model PG w) A (binaryOp .Mult (.int 27720 t) z) (fun v s' => wpAny (model PG w) A (call (.builtin "round") [v]) Q E s') E s := by
  rcases hz with ⟨tu, e⟩ | ⟨tu, e, e'⟩ | ⟨tu, e, e1, e2⟩
  · refine mul_int (call_round_int ?_)
    have := p.d_same e
    rw [this] at h
    exact h _ _
  · refine mul_int (call_round_int ?_)
    have := (p.d_empty e e').1
    rw [this] at h
    exact h _ _
  · refine mul_if_fits (by decide +kernel) (Flt.call_round_float hA (fun q => ?_) (fun q => ?_) (fun _ => ?_))
    · exact absurd ((p.num e1 e2).nan.symm.trans q) (by decide)
    · exact absurd ((p.num e1 e2).inf.symm.trans q) (by decide)
    · have := (p.num e1 e2).near
      unfold ffar fdist at this
      rw [this]
      exact h _ _
end
end Mine
end

noncomputable section
open PySem PySem.Calls PySem.W PyProof.Rows Builtin Builtin.ObjectAttr
set_option maxRecDepth 100000
set_option maxHeartbeats 4000000
namespace Mine
/-- an object whose similarity is at hand -/
structure Way0 (w : World) (s₁ : Shared) (K : Frag) (k : Nat) (o : Addr) (x y : Str) (fl : UInt64) (s : Shared) (C fm fc fi cdc : Addr) (qc : Str) (fdc : FD) (dvc : Value) (f : Str → Option Value) : Prop where
  kc : KC K C fm fc fi
  kf : FnIn K fc qc fdc dvc cdc
  i : IsO s.heap o C f
  ns : NoShadow f
  c : CallOk w s₁ s fc o k x y fl
def Way (w : World) (s₁ : Shared) (K : Frag) (k : Nat) (o : Addr) (x y : Str) (fl : UInt64) (s : Shared) : Prop := ∃ C fm fc fi cdc qc fdc dvc f, Way0 w s₁ K k o x y fl s C fm fc fi cdc qc fdc dvc f
section
variable {w : World} {A : Around} {s s' s₀ s₁ : Shared} {K : Frag} {mg mb : Str → Option Value} {n k : Nat} {E : Value → Shared → Prop} {sets : Bool} {x y : Str} {c u a b : Nat} {fl : UInt64} {o : Addr}
theorem Way.go (W : Way w s₁ K k o x y fl s) (g : Go s₁ true s s') : Way w s₁ K k o x y fl s' :=
  let ⟨C, fm, fc, fi, cdc, qc, fdc, dvc, f, W⟩ := W; ⟨C, fm, fc, fi, cdc, qc, fdc, dvc, f, W.kc, W.kf, g.isO W.i, W.ns, W.c.go g⟩
theorem wayJ (F : KF K) (C4 : K4 K) (B : Base K mg mb s₁) (G : Good s₁ s) (ob : Ob 270 sets o s.heap) (p : PI sets x y c u a b) : Way w s₁ K (n + 16) o x y (frac c u) s :=
  let ⟨f, q, i, ns, hq, has⟩ := ob; ⟨_, _, _, _, _, _, _, _, f, C4.j, F.j_call, i, ns, callJ F C4 B G ⟨f, q, i, ns, hq, has⟩ p⟩
theorem wayS (F : KF K) (C4 : K4 K) (B : Base K mg mb s₁) (G : Good s₁ s) (ob : Ob 304 sets o s.heap) (p : PI sets x y c u a b) : Way w s₁ K (n + 16) o x y (sor c (a + b)) s :=
  let ⟨f, q, i, ns, hq, has⟩ := ob; ⟨_, _, _, _, _, _, _, _, f, C4.s, F.s_call, i, ns, callS F C4 B G ⟨f, q, i, ns, hq, has⟩ p⟩
theorem wayO (F : KF K) (C4 : K4 K) (B : Base K mg mb s₁) (G : Good s₁ s) (ob : Ob 368 sets o s.heap) (p : PI sets x y c u a b) : Way w s₁ K (n + 16) o x y (frac c (min a b)) s :=
  let ⟨f, q, i, ns, hq, has⟩ := ob; ⟨_, _, _, _, _, _, _, _, f, C4.o, F.o_call, i, ns, callO F C4 B G ⟨f, q, i, ns, hq, has⟩ p⟩
theorem wayT {k1 k2 : NV} (F : KF K) (C4 : K4 K) (B : Base K mg mb s₁) (G : Good s₁ s) (ob : ObT sets k1 k2 o s.heap) (p : PI sets x y c u a b) (ht : x.cps.size ≠ 0 → y.cps.size ≠ 0 → TvOk k1 k2 c a b fl) : Way w s₁ K (n + 16) o x y fl s :=
  let ⟨f, q, i, ns, r⟩ := ob; ⟨_, _, _, _, _, _, _, _, f, C4.t, F.t_call, i, ns, callT F C4 B G ⟨f, q, i, ns, r⟩ p ht⟩
/-- X.similarity(one, other) -/
theorem Way.sim {env : Env} {nm : Str} {px pa p1 p2 pos : Pos} {pl : Sem Bool} {tx ty : Tok} {Q : Value → Shared → Prop} (W : Way w s₁ K k o x y fl s) (F : KF K) (B : Base K mg mb s₁) (G : Good s₁ s) (r : Rm A (k + 1))
    (hX : ∀ {Q : Value → Shared → Prop}, Q (.ref o) s → wpAny (model PG w) A (PySem.eval (.Name nm px) env) Q E s)
    (h1 : ∀ {Q : Value → Shared → Prop}, Q (.str x tx) s → wpAny (model PG w) A (PySem.eval (.Name "one" p1) env) Q E s)
    (h2 : ∀ {Q : Value → Shared → Prop}, Q (.str y ty) s → wpAny (model PG w) A (PySem.eval (.Name "other" p2) env) Q E s)
    (h : ∀ s' z, Go s₁ true s s' → SimOk x y fl z → Q z s')
    (he : PySem.eval (.Call (.Attribute (.Name nm px) "similarity" pa) [.Name "one" p1, .Name "other" p2] [] pos) env = (do
      let ov ← PySem.eval (.Name nm px) env
      standAt pa.atName
      let (f, first) ← holding [ov] (getMethod ov "similarity" pl)
      callWith pos f first (backTo pos (starEach [.Name "one" p1, .Name "other" p2] env)) (backToKw pos (keywordEach [] env))) := by rfl) :
    wpAny (model PG w) A (PySem.eval (.Call (.Attribute (.Name nm px) "similarity" pa) [.Name "one" p1, .Name "other" p2] [] pos) env) Q E s := by
  obtain ⟨C, fm, fc, fi, cdc, qc, fdc, dvc, f, W⟩ := W
  refine callM (hX (methO W.kc (G.kin B) W.i W.kc.m_sim F.f_sim.ty W.ns.2.2.2.2.2.2.2.2.1 (args_cons (h1 (args_cons (h2 (args_nil ⟨keeper_K F.f_sim.keep (G.kin B), wpAny_call ?_⟩))))))) he
  exact c_sim F W.kc W.kf B G r W.i W.c h
/-- jaccard.distance(one, other) -/
theorem ev_dist {env : Env} {nm : Str} {px pa p1 p2 pos : Pos} {pl : Sem Bool} {tx ty : Tok} {Q : Value → Shared → Prop} (F : KF K) (C4 : K4 K) (B : Base K mg mb s₁) (G : Good s₁ s) (r : Rm A (n + 19)) (ob : Ob 270 sets o s.heap) (p : PI sets x y c u a b)
    (hX : ∀ {Q : Value → Shared → Prop}, Q (.ref o) s → wpAny (model PG w) A (PySem.eval (.Name nm px) env) Q E s)
    (h1 : ∀ {Q : Value → Shared → Prop}, Q (.str x tx) s → wpAny (model PG w) A (PySem.eval (.Name "one" p1) env) Q E s)
    (h2 : ∀ {Q : Value → Shared → Prop}, Q (.str y ty) s → wpAny (model PG w) A (PySem.eval (.Name "other" p2) env) Q E s)
    (h : ∀ s' z, Go s₁ true s s' → DistOk x y (frac c u) z → Q z s')
    (he : PySem.eval (.Call (.Attribute (.Name nm px) "distance" pa) [.Name "one" p1, .Name "other" p2] [] pos) env = (do
      let ov ← PySem.eval (.Name nm px) env
      standAt pa.atName
      let (f, first) ← holding [ov] (getMethod ov "distance" pl)
      callWith pos f first (backTo pos (starEach [.Name "one" p1, .Name "other" p2] env)) (backToKw pos (keywordEach [] env))) := by rfl) :
    wpAny (model PG w) A (PySem.eval (.Call (.Attribute (.Name nm px) "distance" pa) [.Name "one" p1, .Name "other" p2] [] pos) env) Q E s := by
  have cj := callJ (w := w) (n := n) F C4 B G ob p
  obtain ⟨f, q, i, ns, hq, has⟩ := ob
  refine callM (hX (methO C4.j (G.kin B) i C4.j.m_dist F.f_dist.ty ns.2.2.2.2.2.2.2.1 (args_cons (h1 (args_cons (h2 (args_nil ⟨keeper_K F.f_dist.keep (G.kin B), wpAny_call ?_⟩))))))) he
  exact c_dist F C4.j (maxJ F) F.j_max F.j_call B G r i ns cj h
end
end Mine
end

noncomputable section
open PySem PySem.Calls PySem.W PyProof.Rows Builtin Builtin.ObjectAttr
set_option maxRecDepth 100000
set_option maxHeartbeats 4000000
namespace Mine
structure Obs (sets : Bool) (WL : Addr) (W : Nat → Str) (j so ov p hh un : Addr) (h : Heap) : Prop where
  wl : Wl h WL W
  j : Ob 270 sets j h
  so : Ob 304 sets so h
  ov : Ob 368 sets ov h
  p : ObT sets (.i 1) (.i 1) p h
  hh : ObT sets (.f hf) (.f hf) hh h
  un : ObT sets (.i 1) (.i 2) un h
def Row (h : Heap) (R : Addr) (D : Nat → Nat) : Prop := ∃ t0 t1 t2, h.IsList R #[.int (D 0) t0, .int (D 1) t1, .int (D 2) t2]
def Far (h : Heap) (FL : Addr) (D : Nat → Nat → Nat) : Prop := ∃ R0 R1 R2, h.IsList FL #[.ref R0, .ref R1, .ref R2] ∧ Row h R0 (D 0) ∧ Row h R1 (D 1) ∧ Row h R2 (D 2)
/-- the pairs of the words -/
structure Pairs (sets : Bool) (W : Nat → Str) (C U : Nat → Nat → Nat) (S : Nat → Nat) : Prop where
  p : ∀ i j, i < 3 → j < 3 → PI sets (W i) (W j) (C i j) (U i j) (S i) (S j)
section
variable {w : World} {A : Around} {s s' s₀ s₁ : Shared} {K : Frag} {mg mb : Str → Option Value} {n k : Nat} {E : Value → Shared → Prop} {L : Addr} {l : Ls} {c : Cs} {O P : Heap → Prop} {sets : Bool} {WL : Addr} {W : Nat → Str} {j so ov p hh un : Addr}
theorem Obs.ext {h h' : Heap} (x : Obs sets WL W j so ov p hh un h) (e : Ext h h') : Obs sets WL W j so ov p hh un h' :=
  ⟨x.wl.ext fun o z q => e _ _ z q, x.j.ext e, x.so.ext e, x.ov.ext e, x.p.ext e, x.hh.ext e, x.un.ext e⟩
theorem Stb.obs : Stb L (Obs sets WL W j so ov p hh un) := fun h h' l c F x e =>
  ⟨Stb.wl h h' l c F x.wl e, Stb.ob h h' l c F x.j e, Stb.ob h h' l c F x.so e, Stb.ob h h' l c F x.ov e, Stb.obT h h' l c F x.p e, Stb.obT h h' l c F x.hh e, Stb.obT h h' l c F x.un e⟩
theorem Row.but {h h' : Heap} {R a : Addr} {D : Nat → Nat} (x : Row h R D) (e : Heap.ExtBut a h h') (n : R ≠ a) : Row h' R D := let ⟨t0, t1, t2, q⟩ := x; ⟨t0, t1, t2, q.extBut e n⟩
theorem Row.ext {h h' : Heap} {R : Addr} {D : Nat → Nat} (x : Row h R D) (e : Ext h h') : Row h' R D := let ⟨t0, t1, t2, q⟩ := x; ⟨t0, t1, t2, e.list q⟩
theorem Stb.row {R : Addr} {D : Nat → Nat} : Stb L (fun h => Row h R D) := fun h h' l c F ⟨t0, t1, t2, q⟩ e => ⟨t0, t1, t2, e.list q (F.offList q)⟩
theorem Stb.far {FL : Addr} {D : Nat → Nat → Nat} : Stb L (fun h => Far h FL D) := fun h h' l c F ⟨R0, R1, R2, q, a, b, d⟩ e =>
  ⟨R0, R1, R2, e.list q (F.offList q), Stb.row h h' l c F a e, Stb.row h h' l c F b e, Stb.row h h' l c F d e⟩
theorem itList {D : Addr} {items : Array Value} {Q : Value → Shared → Prop} (hl : s.heap.IsList D items)
    (h : ∀ h' I, Keep s.heap h' → s.heap.get? I = none → D ≠ I → h'.IsListIter I D 0 → h'.IsList D items → Q (.ref I) { s with heap := h' }) : wpAny (model PG w) A (pyIter (.ref D)) Q E s := by
  refine wpAny_pyIter_list hl ?_
  obtain ⟨o, e⟩ := list_lt hl
  exact h _ _ (Keep.push _ _) (get_size _) (Nat.ne_of_lt (Heap.lt_size e)) ⟨_, Heap.get?_push_size _ rfl, rfl, rfl⟩ (hl.push _)
theorem snocAt {P : Nat → Value → Prop} {ys : List Value} {y : Value} (h : ∀ q v, ys[q]? = some v → P q v) (hy : P ys.length y) : ∀ q v, (ys ++ [y])[q]? = some v → P q v := by
  intro q v e
  by_cases hq : q < ys.length
  · rw [List.getElem?_append_left hq] at e; exact h q v e
  · have hq' : q = ys.length := by
      rcases Nat.lt_or_ge q (ys.length + 1) with z | z
      · omega
      · rw [List.getElem?_eq_none (by simpa using z)] at e; cases e
    subst hq'
    rw [List.getElem?_append_right (Nat.le_refl _), Nat.sub_self] at e
    cases e; exact hy
theorem list3 {ys : List Value} (h : ys.length = 3) : ∃ a b c, ys = [a, b, c] := by
  match ys, h with
  | [a, b, c], _ => exact ⟨a, b, c, rfl⟩
theorem fresh_of {h h' : Heap} {a : Addr} (k : Keep h h') (e : h'.get? a = none) : h.get? a = none := by
  cases q : h.get? a with
  | none => rfl
  | some o => rw [k _ _ q] at e; cases e
/-- far = [[..] ..] -/
theorem c_s6 {C U : Nat → Nat → Nat} {S : Nat → Nat} {Q : Flow → Shared → Prop} (F : KF K) (C4 : K4 K) (B : Base K mg mb s₁) (G₀ : Good s₁ s₀) (r : Rm A (n + 19)) (hL : ∀ a ∈ FA L, s₀.heap.get? a = none) (x : St s₁ s₀ L (Obs sets WL W j so ov p hh un) l c s) (PP : Pairs sets W C U S) (hj : c.k_jaccard = some (.ref j)) (hw : c.k_words = some (.ref WL))
    (h : ∀ s' FL, St s₁ s₀ L (fun h => Obs sets WL W j so ov p hh un h ∧ Far h FL (fun i k => Dn (C i k) (U i k))) l { c with k_far := some (.ref FL) } s' → Q .next s') :
    wpAny (model PG w) A (exec (lawS 6) (EL L)) Q E s := by
  refine wpAny_Assign_Name ?_
  show wpAny _ _ (eval (.ListComp _ _ _ _) _) _ _ _
  rw [eval_ListComp]
  have GS : Go s₁ true s s := Go.start x.go.good
  obtain ⟨w0, w1, w2, hWL⟩ := x.o.wl
  refine compMC (t := true) (cl := [("words", L + 3), ("jaccard", L + 4)]) [] B x.go.good r.h (by rfl) (by intro _; rfl) (by intro _; rfl) rfl (by decide) (by intro _; rfl) (rd_words x.fm hw (itList hWL fun h1 I k1 hI hne hit hl1 => ?_))
  have hWLlt : WL < h1.objs.size := by obtain ⟨o, e⟩ := list_lt hl1; exact Heap.lt_size e
  refine ⟨I, _, _, _, _, fun D Ca i ys s' => ys.length = i ∧ ∀ q v, ys[q]? = some v → ∃ R, v = Value.ref R ∧ R ≠ I ∧ R ≠ D ∧ R ≠ Ca ∧ R ≠ Ca + 1 ∧ Row s'.heap R (fun k => Dn (C q k) (U q k)), rfl, GS.keep k1, hI, wkList (prog := PG) (w := w) (items := #[.str (W 0) w0, .str (W 1) w1, .str (W 2) w2]) hne, ⟨hit, hl1⟩, by simp, fun b hb => ?_, nofun, fun D Ca h' tk k2 => ⟨rfl, fun q v e => by simp at e⟩, ?_, ?_, ?_⟩
  · simp only [List.mem_cons, List.not_mem_nil, or_false] at hb
    rcases hb with rfl | rfl
    · obtain ⟨o, e, _⟩ := hit; exact Heap.lt_size e
    · exact hWLlt
  · rintro D Ca i ys s' h' tk a ha ⟨e1, e2⟩ hb
    refine ⟨e1, fun q v e => ?_⟩
    obtain ⟨R, rfl, n1, n2, n3, n4, hR⟩ := e2 q v e
    exact ⟨R, rfl, n1, n2, n3, n4, hR.but hb (by rcases ha with rfl | rfl | rfl | rfl <;> assumption)⟩
  · rintro D i ys v s' Ca m N hi hv ⟨e1, e2⟩ hDl hI' nD g nC nC1 hm hc
    refine wpAny_tests_nil ?_
    simp only [if_true]
    rw [eval_ListComp]
    have f' := x.fm.ext g.Ext
    have o' := x.o.ext g.Ext
    obtain ⟨tv, rfl⟩ : ∃ tv, v = .str (W i) tv := by
      match i, hi, hv with
      | 0, _, hv => exact ⟨w0, by cases hv; rfl⟩
      | 1, _, hv => exact ⟨w1, by cases hv; rfl⟩
      | 2, _, hv => exact ⟨w2, by cases hv; rfl⟩
    have hi3 : i < 3 := hi
    obtain ⟨y0, y1, y2, hWL'⟩ := o'.wl
    have GS' : Go s₁ true s' s' := Go.start g.good
    refine compM (t := true) (cl := [("one", Ca + 1), ("jaccard", L + 4)]) [] B g.good r.h (by rfl) (by decide) rfl (by decide) (by intro _; rfl) (nmC (by rfl) (hw ▸ f'.k_words) (itList hWL' fun h2 I2 k2 hI2 hne2 hit2 hl2 => ?_))
    have hWLlt2 : WL < h2.objs.size := by obtain ⟨o, e⟩ := list_lt hl2; exact Heap.lt_size e
    refine ⟨I2, _, _, _, _, fun k ys s' => ys.length = k ∧ ∀ q v, ys[q]? = some v → ∃ t, v = Value.int (Dn (C i q) (U i q) : Nat) t, rfl, GS'.keep k2, hI2, wkList (prog := PG) (w := w) (items := #[.str (W 0) y0, .str (W 1) y1, .str (W 2) y2]) hne2, ⟨hit2, hl2⟩, by simp, fun b hb => ?_, nofun, fun h' tk k2 => ⟨rfl, fun q v e => by simp at e⟩, fun _ _ _ _ _ _ _ u _ => u, ?_, ?_⟩
    · simp only [List.mem_cons, List.not_mem_nil, or_false] at hb
      rcases hb with rfl | rfl
      · obtain ⟨o, e, _⟩ := hit2; exact Heap.lt_size e
      · exact hWLlt2
    · rintro k zs v s3 C3 m3 N3 hk hv3 ⟨z1, z2⟩ g3 nC3 hm3 hmo hC3
      refine wpAny_tests_nil ?_
      simp only [if_true]
      have f3 := f'.ext g3.Ext
      have o3 := o'.ext g3.Ext
      have hk3 : k < 3 := hk
      obtain ⟨tv3, rfl⟩ : ∃ tv, v = .str (W k) tv := by
        match k, hk, hv3 with
        | 0, _, hv => exact ⟨y0, by cases hv; rfl⟩
        | 1, _, hv => exact ⟨y1, by cases hv; rfl⟩
        | 2, _, hv => exact ⟨y2, by cases hv; rfl⟩
      refine callP (nmB B g3.good F.g_round boot_round (args_cons (wpAny_BinOp (wpAny_Constant_int ?_))))
      refine ev_dist (n := n) F C4 B (g3.good.tok _) r o3.j (PP.p i k hi3 hk3) (fun q => nmC (by rfl) (hj ▸ f3.k_jaccard) q) (fun q => nmC (by rfl) (g3.cell hc) q) (fun q => nmL hm3 (by exact hmo) q) fun s4 z g4 hz => ?_
      refine wpAny_mono (far_val r.h (PP.p i k hi3 hk3) hz fun tk tt => ?_) (fun v s5 q => args_nil ⟨keeper_bi, q⟩) fun _ _ e => e
      refine ⟨ExtM.of_ext g4.Ext, (g3.trans ((Go.start g3.good).tok _)).trans g4 |>.tok _, by simp [z1], snocAt z2 ⟨tt, by rw [z1]⟩⟩
    · rintro zs s3 D3 C3 m3 ⟨z1, z2⟩ g3 hD3 hC3 nD3 nC3 hne3
      refine ⟨m3, hC3, fun h9 hs9 => ?_⟩
      have nC3' := fresh_of k2 nC3
      have nD3' := fresh_of k2 nD3
      have g9 := g3.same B nC3' hs9 g.good (tk := s3.toks)
      have hex : ∀ {b o}, s'.heap.get? b = some o → D3 ≠ b := fun e q => by rw [← q, nD3'] at e; cases e
      refine ⟨ExtM.of_ext g9.Ext, g.trans g9, by simp [e1], snocAt (fun q v e => ?_) ?_⟩
      · obtain ⟨R, rfl, n1, n2, n3, n4, hR⟩ := e2 q v e
        exact ⟨R, rfl, n1, n2, n3, n4, hR.ext g9.Ext⟩
      · obtain ⟨a0, a1, a2, rfl⟩ := list3 z1
        obtain ⟨t0, rfl⟩ := z2 0 a0 rfl
        obtain ⟨t1, rfl⟩ := z2 1 a1 rfl
        obtain ⟨t2, rfl⟩ := z2 2 a2 rfl
        refine ⟨D3, rfl, fun q => hI' (q ▸ nD3'), ?_, ?_, ?_, t0, t1, t2, by rw [e1]; exact (hD3.extBut hs9.extBut hne3).isList⟩
        · obtain ⟨_, e⟩ := hDl; exact hex e
        · obtain ⟨_, _, _, e, _⟩ := hm; exact hex e
        · obtain ⟨_, e, _⟩ := hc; exact hex e
  · rintro ys s' D Ca m ⟨e1, e2⟩ g hD hC nD nC hne
    refine ⟨m, hC, fun h9 hs9 => ?_⟩
    have g9 := g.same B (fresh_of k1 nC) hs9 x.go.good (tk := s'.toks)
    obtain ⟨a0, a1, a2, rfl⟩ := list3 e1
    obtain ⟨R0, rfl, _, _, n0, _, hR0⟩ := e2 0 a0 rfl
    obtain ⟨R1, rfl, _, _, n1, _, hR1⟩ := e2 1 a1 rfl
    obtain ⟨R2, rfl, _, _, n2, _, hR2⟩ := e2 2 a2 rfl
    have x9 := (x.run Stb.obs g9).with (P := fun h => Far h D (fun i k => Dn (C i k) (U i k))) ⟨R0, R1, R2, (hD.extBut hs9.extBut hne).isList, hR0.but hs9.extBut n0, hR1.but hs9.extBut n1, hR2.but hs9.extBut n2⟩
    exact st_far x9.fm fun h10 f10 hs10 => h _ D (x9.cell (Stb.obs.and .far) B G₀ hL (mFA7 L) f10 hs10)
end
end Mine
end

noncomputable section
open PySem PySem.Calls PySem.W PyProof.Rows Builtin Builtin.ObjectAttr
set_option maxRecDepth 100000
set_option maxHeartbeats 4000000
namespace Mine
section
variable {w : World} {A : Around} {s s' s₀ s₁ : Shared} {K : Frag} {mg mb : Str → Option Value} {n k : Nat} {E : Value → Shared → Prop} {L : Addr} {l : Ls} {c : Cs} {O P : Heap → Prop}
theorem rangeIter_off {h : Heap} {I : Addr} {a b d : Int} (F : Fm h L l c) (x : IsRangeIter h I a b d) : I ∉ FA L := F.off x (fun _ _ e => nomatch e) (fun _ e => nomatch e)
theorem Stb.rng {I : Addr} {a b d : Int} : Stb L (fun h => IsRangeIter h I a b d) := fun h h' l c F x e => e _ _ (rangeIter_off F x) (isTab_cls (by nofun)) x
theorem Stb.base {hB : Heap} : Stb L (fun h => ExtM (FA L) hB h) := fun h h' l c F x e => x.trans e
/-- for nm in range(3): .. -/
theorem loop3 {nm : Str} {ck : Addr} {upd : Cs → Value → Cs} {px pr pc pcall pos : Pos} {kk : Nat} {body : List Stmt} {Inv : Ls → Cs → Prop} {Q : Flow → Shared → Prop} (F : KF K) (B : Base K mg mb s₁) (G₀ : Good s₁ s₀) (hA : A.handled = none) (hL : ∀ a ∈ FA L, s₀.heap.get? a = none)
    (hck : ck ∈ FA L)
    (store : ∀ {s : Shared} {l : Ls} {c : Cs} {v : Value} {Q : Unit → Shared → Prop} {N : Value → Shared → Prop}, Fm s.heap L l c → (∀ h', Fm h' L l (upd c v) → Heap.SameBut ck s.heap h' → Q () { s with heap := h' }) → wpAny (model PG w) A (storeName (EL L) nm v) Q N s)
    (X : Stb L O) (x : St s₁ s₀ L O l c s) (iv : Inv l c)
    (turn : ∀ (O' : Heap → Prop), Stb L O' → (∀ h, O' h → O h) → ∀ i l c s' t N, i < 3 → Inv l c → St s₁ s₀ L O' l (upd c (.int (i : Nat) t)) s' →
      wpAny (model PG w) A (execs body (EL L)) (fun f s'' => (f = .next ∨ f = .cont) ∧ ∃ l' c', St s₁ s₀ L O' l' c' s'' ∧ Inv l' c') N s')
    (h : ∀ s' l' c', St s₁ s₀ L O l' c' s' → Inv l' c' → Q .next s')
    (hs : ∀ x, foldedSetIterable (.Call (.Name "range" pr) [.Constant (.int 3) kk pc] [] pcall) (EL L) x = pure x := by intro _; rfl) :
    wpAny (model PG w) A (exec (.For (.Name nm px) (.Call (.Name "range" pr) [.Constant (.int 3) kk pc] [] pcall) body [] pos) (EL L)) Q E s := by
  refine wpAny_For (callP (nmB B x.go.good F.g_range boot_range (args_cons (wpAny_Constant_int (args_nil ⟨keeper_ty, itRange (n := 3) (by decide) fun h1 tk1 I k1 hI hR => ?_⟩)))) (by rfl) (by rfl)) hs
  have hI' : s.heap.get? I = none := hI
  have hIs₀ : s₀.heap.get? I = none := x.go.fresh _ hI'
  have back : ∀ {h' : Heap}, ExtM (FA L) s.heap h' → O h' := fun e => X _ _ _ _ x.fm x.o e
  refine for_W (wkRange (w := w) (I := I) (n := 3)) hA (fun i s' => ∃ l c, St s₁ s₀ L (fun h => ExtM (FA L) s.heap h ∧ IsRangeIter h I (i : Nat) ((3 : Nat) - (i : Nat) : Int) 1) l c s' ∧ Inv l c) (fun i s' ⟨_, _, x', _⟩ => x'.o.2) ?_ ?_ ?_
  · rintro i s2 v h' tk hi ⟨l2, c2, x2, iv2⟩ ⟨t, rfl⟩ hR' hb N
    have off := rangeIter_off x2.fm x2.o.2
    have hx : ExtM (FA L) s.heap h' := fun b o hm z e => hb b o (fun q => by rw [q, hI'] at e; cases e) (x2.o.1 b o hm z e)
    have f3 : Fm h' L l2 c2 := x2.fm.extBut hb off
    have X3 : Stb L (fun h => ExtM (FA L) s.heap h ∧ IsRangeIter h I ((i + 1 : Nat)) ((3 : Nat) - ((i + 1 : Nat)) : Int) 1) := Stb.base.and .rng
    have x3 : St s₁ s₀ L (fun h => ExtM (FA L) s.heap h ∧ IsRangeIter h I ((i + 1 : Nat)) ((3 : Nat) - ((i + 1 : Nat)) : Int) 1) l2 c2 { s2 with heap := h', toks := tk } := ⟨x2.go.but B hIs₀ hb G₀, f3, hx, hR'⟩
    refine store x3.fm fun h4 f4 hs4 => ?_
    have x4 := x3.cell X3 B G₀ hL hck f4 hs4 (tk := tk)
    refine wpAny_mono (turn _ X3 (fun h o => back o.1) i l2 c2 _ t _ hi iv2 x4) (fun f s5 q => ?_) fun _ _ e => e
    obtain ⟨hf, l5, c5, x5, iv5⟩ := q
    rcases hf with rfl | rfl
    · exact ⟨l5, c5, x5, iv5⟩
    · exact ⟨l5, c5, x5, iv5⟩
  · rintro s2 h' tk ⟨l2, c2, x2, iv2⟩ hb
    have off := rangeIter_off x2.fm x2.o.2
    have hx : ExtM (FA L) s.heap h' := fun b o hm z e => hb b o (fun q => by rw [q, hI'] at e; cases e) (x2.o.1 b o hm z e)
    exact h _ l2 c2 ⟨x2.go.but B hIs₀ hb G₀, x2.fm.extBut hb off, back hx⟩ iv2
  · refine ⟨l, c, ⟨x.go.keep k1, x.fm.ext (.of_keep k1), ExtM.of_ext (.of_keep k1), ?_⟩, iv⟩
    simpa using hR
end
end Mine
end

noncomputable section
open PySem PySem.Calls PySem.W PyProof.Rows Builtin Builtin.ObjectAttr
set_option maxRecDepth 100000
set_option maxHeartbeats 4000000
namespace Mine
def forBody : Stmt → List Stmt
  | .For _ _ b _ _ => b
  | _ => []
def lawF : Stmt := (forBody (lawS 7)).getD 0 (.Pass default)
def bS (n : Nat) : Stmt := (forBody lawF).getD n (.Pass default)
/-- a list of texts -/
def Bl (h : Heap) (a : Addr) (ss : List Str) : Prop := ∃ vs, h.PlainList a (List.toArray vs) ∧ StrsAre vs ss
theorem strsAre_at {vs : List Value} {ss : List Str} (h : StrsAre vs ss) : ∀ (j : Nat) (h1 : j < vs.length), ∃ (h2 : j < ss.length) (t : Tok), vs[j] = .str ss[j] t := by
  induction h with
  | nil => intro j h1; exact absurd h1 (Nat.not_lt_zero _)
  | cons y t r ih =>
    intro j h1
    cases j with
    | zero => exact ⟨Nat.succ_pos _, t, rfl⟩
    | succ j =>
      obtain ⟨h2, u, e⟩ := ih j (Nat.lt_of_succ_lt_succ h1)
      exact ⟨Nat.succ_lt_succ h2, u, e⟩
section
variable {w : World} {A : Around} {s s' s₀ s₁ : Shared} {K : Frag} {mg mb : Str → Option Value} {n k : Nat} {E : Value → Shared → Prop} {L : Addr} {l : Ls} {c : Cs} {O P : Heap → Prop}
theorem Bl.ext {h h' : Heap} {a : Addr} {ss : List Str} (x : Bl h a ss) (e : Ext h h') : Bl h' a ss := let ⟨vs, ⟨n, p⟩, q⟩ := x; ⟨vs, ⟨n, e _ _ (isTab_cls (by nofun)) p⟩, q⟩
theorem Stb.bl {a : Addr} {ss : List Str} : Stb L (fun h => Bl h a ss) := fun h h' l c F ⟨vs, p, q⟩ e => ⟨vs, e.plain p (F.offList p.isList), q⟩
theorem eqS {a b : Addr} {ss tt : List Str} {Q : Value → Shared → Prop} (hu : A.units < cLine) (x : Bl s.heap a ss) (y : Bl s.heap b tt) (h : Q (.bool (decide (ss = tt))) s) : wpAny (model PG w) A (compareOp .Eq (.ref a) (.ref b)) Q E s := by
  obtain ⟨vs, hx, sx⟩ := x
  obtain ⟨us, hy, sy⟩ := y
  have l1 := strsAre_len sx
  have l2 := strsAre_len sy
  by_cases hl : vs.length = us.length
  · refine SeqAt.eq_listAt (e := fun j => ss[j]? == tt[j]?) hx.isList hy.isList (by simpa using hl) hu (fun j h1 h2 => ?_) ?_
    · have h1' : j < vs.length := by simpa using h1
      have h2' : j < us.length := by simpa using h2
      obtain ⟨p1, t1, e1⟩ := strsAre_at sx j h1'
      obtain ⟨p2, t2, e2⟩ := strsAre_at sy j h2'
      have e1' : (List.toArray vs)[j] = .str ss[j] t1 := by simpa using e1
      have e2' : (List.toArray us)[j] = .str tt[j] t2 := by simpa using e2
      rw [e1', e2']
      have e3 : (ss[j]? == tt[j]?) = (ss[j] == tt[j]) := by rw [List.getElem?_eq_getElem p1, List.getElem?_eq_getElem p2]; rfl
      rw [e3]
      exact (eqGives_str _ _ _ _).at _ _
    · have e : (List.range (List.toArray vs).size).all (fun j => ss[j]? == tt[j]?) = decide (ss = tt) := by
        rw [Bool.eq_iff_iff, List.all_eq_true, decide_eq_true_iff]
        constructor
        · intro z
          refine List.ext_getElem? fun j => ?_
          by_cases hj : j < vs.length
          · exact beq_iff_eq.mp (z j (List.mem_range.mpr (by simpa using hj)))
          · rw [List.getElem?_eq_none (by omega), List.getElem?_eq_none (by omega)]
        · rintro rfl j _
          exact beq_iff_eq.mpr rfl
      rw [e]; exact h
  · refine SeqAt.eq_list_lengthsAt hx.isList hy.isList (by simpa using hl) hu ?_
    have e : decide (ss = tt) = false := decide_eq_false fun q => hl (by rw [l1, l2, q])
    rw [e] at h; exact h
/-- two empty lists are not unequal -/
theorem neNil {a b : Addr} {Q : Value → Shared → Prop} (hu : A.units < cLine) (x : s.heap.IsList a #[]) (y : s.heap.IsList b #[]) (h : Q (.bool false) s) : wpAny (model PG w) A (compareOp .NotEq (.ref a) (.ref b)) Q E s :=
  EqBoolInt.of_rcne (SeqAt.RcNeAt.lists (e := fun _ => true) x y rfl hu (fun j h1 _ => absurd h1 (Nat.not_lt_zero _))) h
theorem wl_at {h : Heap} {WL : Addr} {W : Nat → Str} (x : Wl h WL W) {i : Nat} (hi : i < 3) : ∃ items t, h.IsList WL items ∧ items[i]? = some (.str (W i) t) := by
  obtain ⟨t0, t1, t2, q⟩ := x
  match i, hi with
  | 0, _ => exact ⟨_, t0, q, rfl⟩
  | 1, _ => exact ⟨_, t1, q, rfl⟩
  | 2, _ => exact ⟨_, t2, q, rfl⟩
theorem Row.at {h : Heap} {R : Addr} {D : Nat → Nat} (x : Row h R D) {i : Nat} (hi : i < 3) : ∃ items t, h.IsList R items ∧ items[i]? = some (.int (D i) t) := by
  obtain ⟨t0, t1, t2, q⟩ := x
  match i, hi with
  | 0, _ => exact ⟨_, t0, q, rfl⟩
  | 1, _ => exact ⟨_, t1, q, rfl⟩
  | 2, _ => exact ⟨_, t2, q, rfl⟩
theorem Far.at {h : Heap} {FL : Addr} {D : Nat → Nat → Nat} (x : Far h FL D) {i : Nat} (hi : i < 3) : ∃ items R, h.IsList FL items ∧ items[i]? = some (.ref R) ∧ Row h R (D i) := by
  obtain ⟨R0, R1, R2, q, a, b, d⟩ := x
  match i, hi with
  | 0, _ => exact ⟨_, R0, q, rfl, a⟩
  | 1, _ => exact ⟨_, R1, q, rfl, b⟩
  | 2, _ => exact ⟨_, R2, q, rfl, d⟩
theorem small_idx {i : Nat} (hi : i < 3) : (0 : Int) ≤ i ∧ (i : Int) < 2 ^ 63 := by omega
/-- words[nm] -/
theorem ev_word {env : Env} {nm : Str} {WL : Addr} {W : Nat → Str} {i : Nat} {ti : Tok} {pw pn pos : Pos} {Q : Value → Shared → Prop} (x : Wl s.heap WL W) (hi : i < 3)
    (hW : ∀ {Q : Value → Shared → Prop}, Q (.ref WL) s → wpAny (model PG w) A (PySem.eval (.Name "words" pw) env) Q E s)
    (h1 : ∀ {Q : Value → Shared → Prop}, Q (.int i ti) s → wpAny (model PG w) A (PySem.eval (.Name nm pn) env) Q E s)
    (h : ∀ t, Q (.str (W i) t) s) : wpAny (model PG w) A (PySem.eval (.Subscript (.Name "words" pw) (.Name nm pn) pos) env) Q E s := by
  obtain ⟨items, t, q, e⟩ := wl_at x hi
  exact item_M (hW (h1 ⟨WL, items, i, ti, _, rfl, rfl, q, (small_idx hi).1, (small_idx hi).2, by rw [Int.toNat_natCast]; exact e, h t⟩))
/-- far[n1][n2] -/
theorem ev_far {env : Env} {n1 n2 : Str} {FL : Addr} {D : Nat → Nat → Nat} {i k : Nat} {ti tk : Tok} {pf p1 p2 p3 p4 : Pos} {Q : Value → Shared → Prop} (x : Far s.heap FL D) (hi : i < 3) (hk : k < 3)
    (hF : ∀ {Q : Value → Shared → Prop}, Q (.ref FL) s → wpAny (model PG w) A (PySem.eval (.Name "far" pf) env) Q E s)
    (h1 : ∀ {Q : Value → Shared → Prop}, Q (.int i ti) s → wpAny (model PG w) A (PySem.eval (.Name n1 p1) env) Q E s)
    (h2 : ∀ {Q : Value → Shared → Prop}, Q (.int k tk) s → wpAny (model PG w) A (PySem.eval (.Name n2 p2) env) Q E s)
    (h : ∀ t, Q (.int (D i k) t) s) : wpAny (model PG w) A (PySem.eval (.Subscript (.Subscript (.Name "far" pf) (.Name n1 p1) p3) (.Name n2 p2) p4) env) Q E s := by
  obtain ⟨items, R, q, e, r⟩ := x.at hi
  obtain ⟨its, t, q2, e2⟩ := r.at hk
  exact item_M (item_M (hF (h1 ⟨FL, items, i, ti, _, rfl, rfl, q, (small_idx hi).1, (small_idx hi).2, by rw [Int.toNat_natCast]; exact e, h2 ⟨R, its, k, tk, _, rfl, rfl, q2, (small_idx hk).1, (small_idx hk).2, by rw [Int.toNat_natCast]; exact e2, h t⟩⟩)))
end
end Mine
end

noncomputable section
open PySem PySem.Calls PySem.W PyProof.Rows Builtin Builtin.ObjectAttr
set_option maxRecDepth 100000
set_option maxHeartbeats 4000000
namespace Mine
/-- what the plain law gives -/
structure PF (sets : Bool) (W : Nat → Str) (C U : Nat → Nat → Nat) (S : Nat → Nat) : Prop where
  pp : Pairs sets W C U S
  eq : ∀ i k ss tt, i < 3 → k < 3 → BagL sets (W i) ss → BagL sets (W k) tt → (ss = tt ↔ Dn (C i k) (U i k) = 0)
  len : ∀ i ss, i < 3 → BagL sets (W i) ss → ss.length = S i
  cnt : ∀ i k ss tt, i < 3 → k < 3 → BagL sets (W i) ss → BagL sets (W k) tt → (letters.map fun x => min (ss.count x) (tt.count x)).sum = C i k
  sym : ∀ i k, i < 3 → k < 3 → Dn (C i k) (U i k) = Dn (C k i) (U k i)
  tri : ∀ i k q, i < 3 → k < 3 → q < 3 → Dn (C i k) (U i k) ≤ Dn (C i q) (U i q) + Dn (C q k) (U q k)
/-- what stands in the loops -/
def OB (sets : Bool) (WL : Addr) (W : Nat → Str) (j so ov p hh un FL : Addr) (C U : Nat → Nat → Nat) (h : Heap) : Prop := Obs sets WL W j so ov p hh un h ∧ Far h FL (fun i k => Dn (C i k) (U i k))
structure Kn (sets : Bool) (WL j so ov p hh un FL : Addr) (l : Ls) (c : Cs) : Prop where
  w : c.k_words = some (.ref WL)
  j : c.k_jaccard = some (.ref j)
  f : c.k_far = some (.ref FL)
  sets : l.v_sets = some (.bool sets)
  so : l.v_sorensen = some (.ref so)
  ov : l.v_overlap = some (.ref ov)
  p : l.v_plain = some (.ref p)
  hh : l.v_half = some (.ref hh)
  un : l.v_uneven = some (.ref un)
section
variable {w : World} {A : Around} {s s' s₀ s₁ : Shared} {K : Frag} {mg mb : Str → Option Value} {n k : Nat} {E : Value → Shared → Prop} {L : Addr} {l : Ls} {c : Cs} {O P : Heap → Prop}
  {sets : Bool} {WL : Addr} {W : Nat → Str} {j so ov p hh un FL : Addr} {C U : Nat → Nat → Nat} {S : Nat → Nat} {i q : Nat} {ti tq : Tok}
/-- one, other = words[i], words[j] -/
theorem c_b0 {Q : Flow → Shared → Prop} (B : Base K mg mb s₁) (G₀ : Good s₁ s₀) (hA : A.handled = none) (hL : ∀ a ∈ FA L, s₀.heap.get? a = none) (X : Stb L O) (hO : ∀ h, O h → OB sets WL W j so ov p hh un FL C U h) (x : St s₁ s₀ L O l c s) (kn : Kn sets WL j so ov p hh un FL l c)
    (hi : c.k_i = some (.int i ti)) (hq : c.k_j = some (.int q tq)) (i3 : i < 3) (q3 : q < 3)
    (h : ∀ s' t1 t2, St s₁ s₀ L O l { c with k_one := some (.str (W i) t1), k_other := some (.str (W q) t2) } s' → Q .next s') :
    wpAny (model PG w) A (exec (bS 0) (EL L)) Q E s := by
  have o := hO _ x.o
  refine asg2 hA (ev_word o.1.wl i3 (fun q => rd_words x.fm kn.w q) (fun q => rd_i x.fm hi q) fun t1 => ev_word o.1.wl q3 (fun q => rd_words x.fm kn.w q) (fun q => rd_j x.fm hq q) fun t2 h1 k1 => ?_)
  have x1 := x.keep X k1 (tk := s.toks)
  refine st_one (s := { s with heap := h1 }) x1.fm fun h2 f2 hs2 => ?_
  have x2 := x1.cell X B G₀ hL (mFA5 L) f2 hs2 (tk := s.toks)
  refine st_other (s := { s with heap := h2 }) x2.fm fun h3 f3 hs3 => ?_
  exact h _ t1 t2 (x2.cell X B G₀ hL (mFA6 L) f3 hs3 (tk := s.toks))
/-- first, second = _law_bag(one, sets), _law_bag(other, sets) -/
theorem c_b1 {x1 x2 : Str} {t1 t2 : Tok} {Q : Flow → Shared → Prop} (F : KF K) (KLL : KL K) (B : Base K mg mb s₁) (G₀ : Good s₁ s₀) (r : Rm A (n + 2)) (hL : ∀ a ∈ FA L, s₀.heap.get? a = none) (X : Stb L O) (x : St s₁ s₀ L O l c s)
    (h1 : c.k_one = some (.str x1 t1)) (h2 : c.k_other = some (.str x2 t2)) (hs : l.v_sets = some (.bool sets)) (z1 : x1.cps.size ≤ 5) (z2 : x2.cps.size ≤ 5)
    (h : ∀ s' D1 D2 ss tt, BagL sets x1 ss → BagL sets x2 tt → St s₁ s₀ L (fun h => (O h ∧ Bl h D1 ss) ∧ Bl h D2 tt) l { c with k_first := some (.ref D1), k_second := some (.ref D2) } s' → Q .next s') :
    wpAny (model PG w) A (exec (bS 1) (EL L)) Q E s := by
  refine asg2 r.h (callP (nmG B x.go.good KLL.g_bag (args_cons (rd_one x.fm h1 (args_cons (rd_sets x.fm hs (args_nil ⟨keeper_K F.f_bag.keep (x.go.good.kin B), wpAny_call ?_⟩)))))))
  refine c_bag F B x.go.good r (by omega) fun s3 D1 vs ss g3 hD1 nD1 hS1 hb1 => ?_
  have x3 := (x.run X g3).with (P := fun h => Bl h D1 ss) ⟨vs, hD1, hS1⟩
  have X3 : Stb L (fun h => O h ∧ Bl h D1 ss) := X.and .bl
  refine callP (nmG B x3.go.good KLL.g_bag (args_cons (rd_other x3.fm h2 (args_cons (rd_sets x3.fm hs (args_nil ⟨keeper_K F.f_bag.keep (x3.go.good.kin B), wpAny_call ?_⟩))))))
  refine c_bag F B x3.go.good r (by omega) fun s4 D2 us tt g4 hD2 nD2 hS2 hb2 => ?_
  have x4 := (x3.run X3 g4).with (P := fun h => Bl h D2 tt) ⟨us, hD2, hS2⟩
  have X4 : Stb L (fun h => (O h ∧ Bl h D1 ss) ∧ Bl h D2 tt) := X3.and .bl
  intro h5 k5
  have x5 := x4.keep X4 k5 (tk := s4.toks)
  refine st_first (s := { s4 with heap := h5 }) x5.fm fun h6 f6 hs6 => ?_
  have x6 := x5.cell X4 B G₀ hL (mFA10 L) f6 hs6 (tk := s4.toks)
  refine st_second (s := { s4 with heap := h6 }) x6.fm fun h7 f7 hs7 => ?_
  exact h _ D1 D2 ss tt hb1 hb2 (x6.cell X4 B G₀ hL (mFA11 L) f7 hs7 (tk := s4.toks))
/-- if (far[i][j] == 0) != (first == second) or ..: return False -/
theorem c_b2 {D1 D2 : Addr} {ss tt : List Str} {Q : Flow → Shared → Prop} (hu : A.units < cLine) (pf : PF sets W C U S) (hO : ∀ h, O h → OB sets WL W j so ov p hh un FL C U h) (x : St s₁ s₀ L O l c s) (kn : Kn sets WL j so ov p hh un FL l c)
    (hi : c.k_i = some (.int i ti)) (hq : c.k_j = some (.int q tq)) (i3 : i < 3) (q3 : q < 3) (h1 : c.k_first = some (.ref D1)) (h2 : c.k_second = some (.ref D2)) (b1 : Bl s.heap D1 ss) (b2 : Bl s.heap D2 tt) (bb1 : BagL sets (W i) ss) (bb2 : BagL sets (W q) tt)
    (h : ∀ tk, Q .next { s with toks := tk }) :
    wpAny (model PG w) A (exec (bS 2) (EL L)) Q E s := by
  have o := hO _ x.o
  have fr := o.2
  refine wpAny_If (isTrue_or (wpAny_isTrue_Compare1 (wpAny_Compare1 (ev_far fr i3 q3 (fun q => rd_far x.fm kn.f q) (fun q => rd_i x.fm hi q) (fun q => rd_j x.fm hq q) fun t1 => wpAny_Constant_int (eq_int ?_)))))
  refine wpAny_Compare1 (rd_first (s := { s with toks := _ }) x.fm h1 (rd_second (s := { s with toks := _ }) x.fm h2 (eqS hu b1 b2 (ne_bool (wpAny_truthy_bool ?_)))))
  have e : (((Dn (C i q) (U i q) : Nat) : Int) == 0) = decide (ss = tt) := by
    rw [Bool.eq_iff_iff, beq_iff_eq, decide_eq_true_iff, pf.eq i q ss tt i3 q3 bb1 bb2]
    omega
  rw [e]
  simp only [bne_self_eq_false, Bool.false_eq_true, if_false]
  refine isTrue_or (wpAny_isTrue_Compare1 (ev_far (s := { s with toks := _ }) fr i3 q3 (fun q => rd_far (s := { s with toks := _ }) x.fm kn.f q) (fun q => rd_i (s := { s with toks := _ }) x.fm hi q) (fun q => rd_j (s := { s with toks := _ }) x.fm hq q) fun t2 =>
    ev_far (s := { s with toks := _ }) fr q3 i3 (fun q => rd_far (s := { s with toks := _ }) x.fm kn.f q) (fun q => rd_j (s := { s with toks := _ }) x.fm hq q) (fun q => rd_i (s := { s with toks := _ }) x.fm hi q) fun t3 => ne_int (wpAny_truthy_bool ?_)))
  have e2 : (((Dn (C i q) (U i q) : Nat) : Int) != ((Dn (C q i) (U q i) : Nat) : Int)) = false := by
    rw [pf.sym i q i3 q3]; exact bne_self_eq_false _
  rw [e2]
  simp only [Bool.false_eq_true, if_false]
  refine isTrue_or (isTrue_not (isTrue_chain (wpAny_Constant_int (test_link (ev_far (s := { s with toks := _ }) fr i3 q3 (fun q => rd_far (s := { s with toks := _ }) x.fm kn.f q) (fun q => rd_i (s := { s with toks := _ }) x.fm hi q) (fun q => rd_j (s := { s with toks := _ }) x.fm hq q) fun t4 => le_int (wpAny_truthy_bool ?_))))))
  rw [decide_eq_true (Int.natCast_nonneg _)]
  simp only [if_true]
  refine test_last (wpAny_Constant_int (le_int (wpAny_truthy_bool ?_)))
  have hle : ((Dn (C i q) (U i q) : Nat) : Int) ≤ 27720 := by have := (pf.pp.p i q i3 q3).d_le; omega
  rw [decide_eq_true hle]
  simp only [Bool.not_true, Bool.false_eq_true, if_false]
  refine isTrue_or_nil ?_
  simp only [Bool.false_eq_true, if_false]
  exact wpAny_execs_nil (h _)
end
end Mine
end

noncomputable section
open PySem PySem.Calls PySem.W PyProof.Rows Builtin Builtin.ObjectAttr
set_option maxRecDepth 100000
set_option maxHeartbeats 4000000
namespace Mine
section
variable {w : World} {A : Around} {s s' s₀ s₁ : Shared} {K : Frag} {mg mb : Str → Option Value} {n k : Nat} {E : Value → Shared → Prop} {L : Addr} {l : Ls} {c : Cs} {O P : Heap → Prop}
  {sets : Bool} {WL : Addr} {W : Nat → Str} {j so ov p hh un FL : Addr} {C U : Nat → Nat → Nat} {S : Nat → Nat} {i q : Nat} {ti tq : Tok}
theorem Far.ext {h h' : Heap} {FL : Addr} {D : Nat → Nat → Nat} (x : Far h FL D) (e : Ext h h') : Far h' FL D :=
  let ⟨R0, R1, R2, q, a, b, d⟩ := x; ⟨R0, R1, R2, e.list q, a.ext e, b.ext e, d.ext e⟩
/-- if [k for k in range(3) if ..] != []: return False -/
theorem c_b3 {Q : Flow → Shared → Prop} (F : KF K) (B : Base K mg mb s₁) (hA : A.handled = none) (hu : A.units < cLine) (pf : PF sets W C U S) (X : Stb L O) (hO : ∀ h, O h → OB sets WL W j so ov p hh un FL C U h) (x : St s₁ s₀ L O l c s) (kn : Kn sets WL j so ov p hh un FL l c)
    (hi : c.k_i = some (.int i ti)) (hq : c.k_j = some (.int q tq)) (i3 : i < 3) (q3 : q < 3)
    (h : ∀ s', St s₁ s₀ L O l c s' → Q .next s') :
    wpAny (model PG w) A (exec (bS 3) (EL L)) Q E s := by
  have o := hO _ x.o
  have GS : Go s₁ true s s := Go.start x.go.good
  refine wpAny_If (wpAny_isTrue_Compare1 ?_)
  show wpAny _ _ (eval (.ListComp _ _ _ _) _) _ _ _
  rw [eval_ListComp]
  refine compM (t := true) (cl := [("j", L + 9), ("i", L + 8), ("far", L + 7)]) [] B x.go.good hA (by rfl) (by decide) rfl (by decide) (by intro _; rfl) (callP (nmB B x.go.good F.g_range boot_range (args_cons (wpAny_Constant_int (args_nil ⟨keeper_ty, itRange (n := 3) (by decide) fun h1 tk1 I k1 hI hR => ?_⟩)))))
  refine ⟨I, _, _, _, _, fun _ ys s' => ys = [], rfl, (GS.tok _).keep k1, hI, wkRange (w := w) (I := I) (n := 3), hR, by decide, fun b hb => ?_, nofun, fun h' tk k2 => rfl, fun _ _ _ _ _ _ _ u _ => u, ?_, ?_⟩
  · cases hb with
    | head => exact Heap.lt_size hR
    | tail _ q => cases q
  · rintro k ys v s' Ca m N hk ⟨tv, rfl⟩ rfl g hC hm' hm _
    have f' := x.fm.ext g.Ext
    have fr := o.2.ext g.Ext
    have hk3 : k < 3 := hk
    refine wpAny_tests_one (wpAny_isTrue_Compare1 (ev_far fr i3 q3 (fun q => nmC (by rfl) (kn.f ▸ f'.k_far) q) (fun q => nmC (by rfl) (hi ▸ f'.k_i) q) (fun q => nmC (by rfl) (hq ▸ f'.k_j) q) fun t1 => wpAny_BinOp
      (ev_far fr i3 hk3 (fun q => nmC (by rfl) (kn.f ▸ f'.k_far) q) (fun q => nmC (by rfl) (hi ▸ f'.k_i) q) (fun q => nmL hm' (by exact hm) q) fun t2 =>
      ev_far fr hk3 q3 (fun q => nmC (by rfl) (kn.f ▸ f'.k_far) q) (fun q => nmL hm' (by exact hm) q) (fun q => nmC (by rfl) (hq ▸ f'.k_j) q) fun t3 => add_int (gt_int (wpAny_truthy_bool ?_)))))
    have e : decide (((Dn (C i k) (U i k) : Nat) : Int) + ((Dn (C k q) (U k q) : Nat) : Int) < ((Dn (C i q) (U i q) : Nat) : Int)) = false :=
      decide_eq_false (by have := pf.tri i q k i3 q3 hk3; omega)
    rw [e]
    simp only [Bool.false_eq_true, if_false]
    exact ⟨ExtM.refl _ _, g.tok _, by trivial⟩
  · rintro ys s' D Ca m rfl g hD hC nD nC hne
    refine ⟨m, hC, fun h9 hs9 => ?_⟩
    have g9 := g.same B (fresh_of k1 nC) hs9 x.go.good (tk := s'.toks)
    have x9 := x.run X g9
    refine wpAny_List (args_nil ⟨Nat.zero_le _, ?_⟩)
    have hD9 := (hD.extBut hs9.extBut hne).isList
    have kp : Keep h9 (h9.push { cls := .type "list", data := .seq [].toArray }) := Keep.push _ _
    refine neNil hu (hD9.at fun o e => kp _ _ e) ⟨_, Heap.get?_push_size _ rfl, rfl, 0, rfl⟩ (wpAny_truthy_bool ?_)
    simp only [Bool.false_eq_true, if_false]
    exact wpAny_execs_nil (h _ (x9.keep X kp (tk := s'.toks)))
end
end Mine
end

noncomputable section
open PySem PySem.Calls PySem.W PyProof.Rows Builtin Builtin.ObjectAttr
set_option maxRecDepth 100000
set_option maxHeartbeats 4000000
namespace Mine
section
variable {w : World} {A : Around} {s s' s₀ s₁ : Shared} {K : Frag} {mg mb : Str → Option Value} {n k : Nat} {E : Value → Shared → Prop} {L : Addr} {l : Ls} {c : Cs} {O P : Heap → Prop}
  {sets : Bool} {WL : Addr} {W : Nat → Str} {j so ov p hh un FL : Addr} {C U : Nat → Nat → Nat} {S : Nat → Nat} {i q : Nat} {ti tq t1 t2 : Tok}
/-- share, told_share = 27720 - far[i][j], jaccard.similarity(one, other) -/
theorem c_b4 {Q : Flow → Shared → Prop} (F : KF K) (C4 : K4 K) (B : Base K mg mb s₁) (G₀ : Good s₁ s₀) (r : Rm A (n + 17)) (hL : ∀ a ∈ FA L, s₀.heap.get? a = none) (pf : PF sets W C U S) (X : Stb L O) (hO : ∀ h, O h → OB sets WL W j so ov p hh un FL C U h) (x : St s₁ s₀ L O l c s) (kn : Kn sets WL j so ov p hh un FL l c)
    (hi : c.k_i = some (.int i ti)) (hq : c.k_j = some (.int q tq)) (i3 : i < 3) (q3 : q < 3) (h1 : c.k_one = some (.str (W i) t1)) (h2 : c.k_other = some (.str (W q) t2))
    (h : ∀ s' z t, SimOk (W i) (W q) (frac (C i q) (U i q)) z → St s₁ s₀ L O { l with v_told_share := some z, v_share := some (.int (27720 - (Dn (C i q) (U i q) : Nat)) t) } c s' → Q .next s') :
    wpAny (model PG w) A (exec (bS 4) (EL L)) Q E s := by
  have o := hO _ x.o
  refine asg2s r.h (wpAny_BinOp (wpAny_Constant_int (ev_far (s := { s with toks := _ }) o.2 i3 q3 (fun q => rd_far (s := { s with toks := _ }) x.fm kn.f q) (fun q => rd_i (s := { s with toks := _ }) x.fm hi q) (fun q => rd_j (s := { s with toks := _ }) x.fm hq q) fun t => sub_int ?_)))
  have W := wayJ (w := w) (n := n) F C4 B (x.go.good.tok (s.toks + 1 + 1)) o.1.j (pf.pp.p i q i3 q3)
  refine W.sim F B (x.go.good.tok _) r (fun q => rd_jaccard (s := { s with toks := _ }) x.fm kn.j q) (fun q => rd_one (s := { s with toks := _ }) x.fm h1 q) (fun q => rd_other (s := { s with toks := _ }) x.fm h2 q) fun s2 z g hz => ?_
  have x2 := (x.tok _).run X g
  intro h3 k3
  have x3 := x2.keep X k3 (tk := s2.toks)
  refine st_told_share (s := { s2 with heap := h3 }) x3.fm fun h4 f4 hs4 => ?_
  have x4 := x3.cell X B G₀ hL (mFA0 L) f4 hs4 (tk := s2.toks + 1)
  refine st_share (s := { s2 with heap := h4, toks := s2.toks + 1 }) x4.fm fun h5 f5 hs5 => ?_
  exact h _ z _ hz (x4.cell X B G₀ hL (mFA0 L) f5 hs5 (tk := s2.toks + 1 + 1))
theorem simOk_same {x : Str} {fl : UInt64} {z : Value} (h : SimOk x x fl z) : ∃ t, z = .int 1 t := by
  rcases h with ⟨t, _⟩ | ⟨t, e, _⟩ | ⟨t, e, _⟩
  · exact ⟨t, rfl⟩
  · exact absurd rfl e
  · exact absurd rfl e
theorem simOk_empty {x y : Str} {fl : UInt64} {z : Value} (h : SimOk x y fl z) (n : x ≠ y) (e : x.cps.size = 0 ∨ y.cps.size = 0) : ∃ t, z = .int 0 t := by
  rcases h with ⟨t, e'⟩ | ⟨t, _, _⟩ | ⟨t, _, e1, e2⟩
  · exact absurd e' n
  · exact ⟨t, rfl⟩
  · exact (e.elim e1 e2).elim
theorem simOk_go {x y : Str} {fl : UInt64} {z : Value} (h : SimOk x y fl z) (n : x ≠ y) (e1 : x.cps.size ≠ 0) (e2 : y.cps.size ≠ 0) : ∃ t, z = .float fl t := by
  rcases h with ⟨t, e'⟩ | ⟨t, _, e⟩ | ⟨t, _, _, _⟩
  · exact absurd e' n
  · exact (e.elim e1 e2).elim
  · exact ⟨t, rfl⟩
theorem distOk_same {x : Str} {fl : UInt64} {z : Value} (h : DistOk x x fl z) : ∃ t, z = .int 0 t := by
  rcases h with ⟨t, _⟩ | ⟨t, e, _⟩ | ⟨t, e, _⟩
  · exact ⟨t, rfl⟩
  · exact absurd rfl e
  · exact absurd rfl e
theorem distOk_empty {x y : Str} {fl : UInt64} {z : Value} (h : DistOk x y fl z) (n : x ≠ y) (e : x.cps.size = 0 ∨ y.cps.size = 0) : ∃ t, z = .int 1 t := by
  rcases h with ⟨t, e'⟩ | ⟨t, _, _⟩ | ⟨t, _, e1, e2⟩
  · exact absurd e' n
  · exact ⟨t, rfl⟩
  · exact (e.elim e1 e2).elim
theorem distOk_go {x y : Str} {fl : UInt64} {z : Value} (h : DistOk x y fl z) (n : x ≠ y) (e1 : x.cps.size ≠ 0) (e2 : y.cps.size ≠ 0) : ∃ t, z = .float (fdist fl) t := by
  rcases h with ⟨t, e'⟩ | ⟨t, _, e⟩ | ⟨t, _, _, _⟩
  · exact absurd e' n
  · exact (e.elim e1 e2).elim
  · exact ⟨t, rfl⟩
/-- the three ways of two words -/
theorem three (x y : Str) : x = y ∨ (x ≠ y ∧ (x.cps.size = 0 ∨ y.cps.size = 0)) ∨ (x ≠ y ∧ x.cps.size ≠ 0 ∧ y.cps.size ≠ 0) := by
  by_cases e : x = y
  · exact .inl e
  · by_cases e1 : x.cps.size = 0
    · exact .inr (.inl ⟨e, .inl e1⟩)
    · by_cases e2 : y.cps.size = 0
      · exact .inr (.inl ⟨e, .inr e2⟩)
      · exact .inr (.inr ⟨e, e1, e2⟩)
/-- if jaccard.distance(one, other) != 1 - told_share or abs(..) * 1000000 > 1: return False -/
theorem c_b5 {z : Value} {t : Tok} {Q : Flow → Shared → Prop} (F : KF K) (C4 : K4 K) (B : Base K mg mb s₁) (r : Rm A (n + 19)) (pf : PF sets W C U S) (X : Stb L O) (hO : ∀ h, O h → OB sets WL W j so ov p hh un FL C U h) (x : St s₁ s₀ L O l c s) (kn : Kn sets WL j so ov p hh un FL l c)
    (i3 : i < 3) (q3 : q < 3) (h1 : c.k_one = some (.str (W i) t1)) (h2 : c.k_other = some (.str (W q) t2)) (hz : SimOk (W i) (W q) (frac (C i q) (U i q)) z) (hts : l.v_told_share = some z) (hsh : l.v_share = some (.int (27720 - (Dn (C i q) (U i q) : Nat)) t))
    (h : ∀ s', St s₁ s₀ L O l c s' → Q .next s') :
    wpAny (model PG w) A (exec (bS 5) (EL L)) Q E s := by
  have o := hO _ x.o
  have pi := pf.pp.p i q i3 q3
  refine wpAny_If (isTrue_or (wpAny_isTrue_Compare1 ?_))
  refine ev_dist (n := n) F C4 B x.go.good r o.1.j pi (fun q => rd_jaccard x.fm kn.j q) (fun q => rd_one x.fm h1 q) (fun q => rd_other x.fm h2 q) fun s2 d g hd => ?_
  have x2 := x.run X g
  have nx := fun tk => x2.tok tk
  refine wpAny_BinOp (wpAny_Constant_int (rd_told_share (s := { s2 with toks := _ }) x2.fm hts ?_))
  have hend : ∀ tk, wpAny (model PG w) A (execs [] (EL L)) Q E { s2 with toks := tk } := fun tk => wpAny_execs_nil (h _ (x2.tok tk))
  rcases three (W i) (W q) with e | ⟨e, e'⟩ | ⟨e, e1, e2⟩
  · obtain ⟨tz, rfl⟩ : ∃ t, z = .int 1 t := by rw [e] at hz; exact simOk_same hz
    obtain ⟨td, rfl⟩ : ∃ t, d = .int 0 t := by rw [e] at hd; exact distOk_same hd
    have hD := pi.d_same e
    refine sub_int (ne_int (wpAny_truthy_bool ?_))
    simp only [show ((0 : Int) != 1 - 1) = false from rfl, Bool.false_eq_true, if_false]
    refine isTrue_or (wpAny_isTrue_Compare1 (wpAny_BinOp (callP (nmB B (x2.tok _).go.good F.g_abs boot_abs (args_cons ?_)))))
    refine wpAny_BinOp (wpAny_BinOp (wpAny_Constant_int ?_))
    refine rd_told_share (s := { s2 with toks := _ }) x2.fm hts (mul_int ?_)
    refine rd_share (s := { s2 with toks := _ }) x2.fm hsh (sub_int ?_)
    refine args_nil ⟨keeper_bi, call_abs_int fun ta tka => ?_⟩
    refine wpAny_Constant_int (mul_int (wpAny_Constant_int (gt_int (wpAny_truthy_bool ?_))))
    rw [hD]
    simp only [show decide ((1 : Int) < (if (27720 * 1 - (27720 - ((0 : Nat) : Int))) < 0 then -(27720 * 1 - (27720 - ((0 : Nat) : Int))) else 27720 * 1 - (27720 - ((0 : Nat) : Int))) * 1000000) = false from rfl, Bool.false_eq_true, if_false]
    refine isTrue_or_nil ?_
    simp only [Bool.false_eq_true, if_false]
    exact hend _
  · obtain ⟨tz, rfl⟩ := simOk_empty hz e e'
    obtain ⟨td, rfl⟩ := distOk_empty hd e e'
    have hD := (pi.d_empty e e').1
    refine sub_int (ne_int (wpAny_truthy_bool ?_))
    simp only [show ((1 : Int) != 1 - 0) = false from rfl, Bool.false_eq_true, if_false]
    refine isTrue_or (wpAny_isTrue_Compare1 (wpAny_BinOp (callP (nmB B (x2.tok _).go.good F.g_abs boot_abs (args_cons ?_)))))
    refine wpAny_BinOp (wpAny_BinOp (wpAny_Constant_int ?_))
    refine rd_told_share (s := { s2 with toks := _ }) x2.fm hts (mul_int ?_)
    refine rd_share (s := { s2 with toks := _ }) x2.fm hsh (sub_int ?_)
    refine args_nil ⟨keeper_bi, call_abs_int fun ta tka => ?_⟩
    refine wpAny_Constant_int (mul_int (wpAny_Constant_int (gt_int (wpAny_truthy_bool ?_))))
    rw [hD]
    simp only [show decide ((1 : Int) < (if (27720 * 0 - (27720 - ((27720 : Nat) : Int))) < 0 then -(27720 * 0 - (27720 - ((27720 : Nat) : Int))) else 27720 * 0 - (27720 - ((27720 : Nat) : Int))) * 1000000) = false from rfl, Bool.false_eq_true, if_false]
    refine isTrue_or_nil ?_
    simp only [Bool.false_eq_true, if_false]
    exact hend _
  · obtain ⟨tz, rfl⟩ := simOk_go hz e e1 e2
    obtain ⟨td, rfl⟩ := distOk_go hd e e1 e2
    have nm := pi.num e1 e2
    refine sub_if_fits (by decide +kernel) (AutoFloatOps.ne_0 (wpAny_truthy_bool ?_))
    have e3 : (Float64.cmp (fdist (frac (C i q) (U i q))) (Float64.sub (Float64.ofInt 1) (frac (C i q) (U i q))) != some Ordering.eq) = false := by
      have := nm.dd
      unfold feq at this
      show (!(Float64.cmp (fdist (frac (C i q) (U i q))) (fdist (frac (C i q) (U i q))) == some Ordering.eq)) = false
      rw [this]; rfl
    rw [e3]
    simp only [Bool.false_eq_true, if_false]
    refine isTrue_or (wpAny_isTrue_Compare1 (wpAny_BinOp (callP (nmB B (x2.tok _).go.good F.g_abs boot_abs (args_cons ?_)))))
    refine wpAny_BinOp (wpAny_BinOp (wpAny_Constant_int ?_))
    refine rd_told_share (s := { s2 with toks := _ }) x2.fm hts (mul_if_fits (by decide +kernel) ?_)
    have hsm : (27720 - ((Dn (C i q) (U i q) : Nat) : Int)) = ((27720 - Dn (C i q) (U i q) : Nat) : Int) := by have := pi.d_le; omega
    refine rd_share (s := { s2 with toks := _ }) x2.fm hsh (sub_fi_fits (by rw [hsm, Int.natAbs_natCast]; exact Nat.lt_of_le_of_lt (Nat.sub_le _ _) (by decide +kernel)) ?_)
    refine args_nil ⟨keeper_bi, Flt.call_abs_float ?_⟩
    refine wpAny_Constant_int (mul_fi_fits (by decide +kernel) (wpAny_Constant_int (gt_fi (wpAny_truthy_bool ?_))))
    have e4 := nm.err
    unfold ferr at e4
    rw [hsm, e4]
    simp only [Bool.false_eq_true, if_false]
    refine isTrue_or_nil ?_
    simp only [Bool.false_eq_true, if_false]
    exact hend _
end
end Mine
end

noncomputable section
open PySem PySem.Calls PySem.W PyProof.Rows Builtin Builtin.ObjectAttr
set_option maxRecDepth 100000
set_option maxHeartbeats 4000000
namespace Mine
theorem str_empty {x : Str} : (x == ("" : Str)) = decide (x.cps.size = 0) := by
  rw [Bool.eq_iff_iff, beq_iff_eq, decide_eq_true_iff]
  constructor
  · rintro rfl; rfl
  · intro h; exact str_nil h
section
variable {w : World} {A : Around} {s s' s₀ s₁ : Shared} {K : Frag} {mg mb : Str → Option Value} {n k : Nat} {E : Value → Shared → Prop} {L : Addr} {l : Ls} {c : Cs} {O P : Heap → Prop}
  {sets : Bool} {WL : Addr} {W : Nat → Str} {j so ov p hh un FL : Addr} {C U : Nat → Nat → Nat} {S : Nat → Nat} {i q : Nat} {ti tq t1 t2 : Tok}
theorem Obs.ways (F : KF K) (C4 : K4 K) (B : Base K mg mb s₁) (G : Good s₁ s) (o : Obs sets WL W j so ov p hh un s.heap) {x y : Str} {cc u a b : Nat} (pi : PI sets x y cc u a b) :
    Way w s₁ K (n + 16) j x y (frac cc u) s ∧ Way w s₁ K (n + 16) so x y (sor cc (a + b)) s ∧ Way w s₁ K (n + 16) ov x y (frac cc (min a b)) s ∧
    Way w s₁ K (n + 16) p x y (frac cc u) s ∧ Way w s₁ K (n + 16) hh x y (hsim cc a b) s ∧ Way w s₁ K (n + 16) un x y (frac cc (a + 2 * b - 2 * cc)) s :=
  ⟨wayJ F C4 B G o.j pi, wayS F C4 B G o.so pi, wayO F C4 B G o.ov pi, wayT F C4 B G o.p pi (tv1 pi), wayT F C4 B G o.hh pi (tvh pi), wayT F C4 B G o.un pi (tv2 pi)⟩
/-- if one == '' or other == '': .. continue -/
theorem c_b6 {Q : Flow → Shared → Prop} (F : KF K) (C4 : K4 K) (B : Base K mg mb s₁) (G₀ : Good s₁ s₀) (r : Rm A (n + 17)) (hu : A.units < cLine) (hL : ∀ a ∈ FA L, s₀.heap.get? a = none) (pf : PF sets W C U S) (X : Stb L O) (hO : ∀ h, O h → OB sets WL W j so ov p hh un FL C U h) (x : St s₁ s₀ L O l c s) (kn : Kn sets WL j so ov p hh un FL l c)
    (i3 : i < 3) (q3 : q < 3) (h1 : c.k_one = some (.str (W i) t1)) (h2 : c.k_other = some (.str (W q) t2))
    (hn : ∀ tk, (W i).cps.size ≠ 0 → (W q).cps.size ≠ 0 → Q .next { s with toks := tk })
    (hc : ∀ s' v, St s₁ s₀ L O l { c with k_due := v } s' → Q .cont s') :
    wpAny (model PG w) A (exec (bS 6) (EL L)) Q E s := by
  have pi := pf.pp.p i q i3 q3
  refine wpAny_If ?_
  have key : ∀ tk, ((W i).cps.size = 0 ∨ (W q).cps.size = 0) → wpAny (model PG w) A (execs (match bS 6 with | .If _ b _ _ => b | _ => []) (EL L)) Q E { s with toks := tk } := by
    intro tk he
    show wpAny _ _ (execs [_, _, _] _) _ _ _
    refine wpAny_execs_cons (wpAny_Assign_Name (wpAny_IfExp (wpAny_isTrue_Compare1 (rd_one (s := { s with toks := _ }) x.fm h1 (rd_other (s := { s with toks := _ }) x.fm h2 (eq_str (wpAny_truthy_bool ?_)))))))
    have due : ∀ (d : Int) tk td, (d = if W i = W q then 1 else 0) → wpAny (model PG w) A (storeName (EL L) "due" (.int d td)) (fun _ s' => wpAny (model PG w) A (execs ((match bS 6 with | .If _ b _ _ => b | _ => []).drop 1) (EL L)) Q E s') E { s with toks := tk } := by
      intro d tk td hd
      refine st_due (s := { s with toks := tk }) x.fm fun h3 f3 hs3 => ?_
      have x3 := x.cell X B G₀ hL (mFA12 L) f3 hs3 (tk := tk)
      show wpAny _ _ (execs [_, _] _) _ _ _
      refine wpAny_execs_cons (wpAny_If (wpAny_isTrue_Compare1 ?_))
      show wpAny _ _ (eval (.ListComp _ _ _ _) _) _ _ _
      rw [eval_ListComp]
      have o3 := hO _ x3.o
      have GS : Go s₁ true { s with heap := h3, toks := tk } { s with heap := h3, toks := tk } := Go.start x3.go.good
      refine compM (t := true) (cl := [("other", L + 6), ("one", L + 5), ("due", L + 12)]) [] B x3.go.good r.h (by rfl) (by decide) rfl (by decide) (by intro _; rfl)
        (wpAny_Tuple_spliced (args_cons (rd_jaccard (s := { s with heap := h3, toks := tk }) x3.fm kn.j (args_cons (rd_sorensen (s := { s with heap := h3, toks := tk }) x3.fm kn.so (args_cons (rd_overlap (s := { s with heap := h3, toks := tk }) x3.fm kn.ov (args_cons (rd_plain (s := { s with heap := h3, toks := tk }) x3.fm kn.p (args_cons (rd_half (s := { s with heap := h3, toks := tk }) x3.fm kn.hh (args_cons (rd_uneven (s := { s with heap := h3, toks := tk }) x3.fm kn.un (args_nil ⟨by rw [sizeLine_eq]; exact Nat.le_of_ble_eq_true rfl, ?_⟩))))))))))))))
      have hT := Heap.get?_push_size (o := { cls := .type "tuple", data := .seq [Value.ref j, Value.ref so, Value.ref ov, Value.ref p, Value.ref hh, Value.ref un].toArray }) h3 rfl
      have kT : Keep h3 (h3.push { cls := .type "tuple", data := .seq [Value.ref j, Value.ref so, Value.ref ov, Value.ref p, Value.ref hh, Value.ref un].toArray }) := Keep.push _ _
      generalize (h3.push { cls := .type "tuple", data := .seq [Value.ref j, Value.ref so, Value.ref ov, Value.ref p, Value.ref hh, Value.ref un].toArray }) = h4 at hT kT ⊢
      have hTup : h4.IsTuple h3.objs.size #[.ref j, .ref so, .ref ov, .ref p, .ref hh, .ref un] := ⟨_, hT, rfl, 0, rfl⟩
      refine wpAny_pyIter_tuple hTup ?_
      have kI : Keep h4 (h4.push { cls := .type "tuple_iterator", data := .fields #[.ref h3.objs.size, .int 0 0] }) := Keep.push _ _
      have hIn := Heap.get?_push_size (o := { cls := .type "tuple_iterator", data := .fields #[.ref h3.objs.size, .int 0 0] }) h4 rfl
      have hneT : h3.objs.size ≠ h4.objs.size := Nat.ne_of_lt (Heap.lt_size hT)
      dsimp only
      refine ⟨h4.objs.size, _, _, _, _, fun _ ys s' => ys = [], rfl, GS.keep (kT.trans kI), fresh_of kT (get_size _), wkTup (prog := PG) (w := w) (items := #[.ref j, .ref so, .ref ov, .ref p, .ref hh, .ref un]) hneT, ⟨⟨_, hIn, rfl, rfl⟩, hTup.at fun o e => kI _ _ e⟩, by simp, fun b hb => ?_, nofun, fun h' tk k2 => rfl, fun _ _ _ _ _ _ _ u _ => u, ?_, ?_⟩
      · simp only [List.mem_cons, List.not_mem_nil, or_false] at hb
        rcases hb with rfl | rfl
        · exact Heap.lt_size hIn
        · exact Heap.lt_size (kI _ _ hT)
      · rintro k ys v s' Ca m N hk hv rfl g hC hm' hm _
        have f' := x3.fm.ext g.Ext
        have o' := o3.1.ext g.Ext
        have W6 := o'.ways (w := w) (n := n) F C4 B g.good pi
        obtain ⟨a, fl, hva, wa⟩ : ∃ a fl, v = .ref a ∧ Way w s₁ K (n + 16) a (W i) (W q) fl s' := by
          match k, hk, hv with
          | 0, _, hv => exact ⟨j, _, by cases hv; rfl, W6.1⟩
          | 1, _, hv => exact ⟨so, _, by cases hv; rfl, W6.2.1⟩
          | 2, _, hv => exact ⟨ov, _, by cases hv; rfl, W6.2.2.1⟩
          | 3, _, hv => exact ⟨p, _, by cases hv; rfl, W6.2.2.2.1⟩
          | 4, _, hv => exact ⟨hh, _, by cases hv; rfl, W6.2.2.2.2.1⟩
          | 5, _, hv => exact ⟨un, _, by cases hv; rfl, W6.2.2.2.2.2⟩
        subst hva
        refine wpAny_tests_one (wpAny_isTrue_Compare1 ?_)
        refine wa.sim F B g.good r (fun q => nmL hm' (by exact hm) q) (fun q => nmC (by rfl) (h1 ▸ f'.k_one) q) (fun q => nmC (by rfl) (h2 ▸ f'.k_other) q) fun s5 z g5 hz => ?_
        have f5 := f'.ext g5.Ext
        refine nmC (by rfl) f5.k_due ?_
        obtain ⟨ty, rfl⟩ : ∃ ty, z = .int d ty := by
          rcases three (W i) (W q) with e | ⟨e, e'⟩ | ⟨e, e1, e2⟩
          · rw [hd, if_pos e]; rw [e] at hz; exact simOk_same hz
          · rw [hd, if_neg e]; exact simOk_empty hz e e'
          · exact (he.elim e1 e2).elim
        refine ne_int (wpAny_truthy_bool ?_)
        simp only [bne_self_eq_false, Bool.false_eq_true, if_false]
        exact ⟨ExtM.of_ext g5.Ext, g.trans g5, by trivial⟩
      · rintro ys s' D Ca m rfl g hD hC nD nC hne
        refine ⟨m, hC, fun h9 hs9 => ?_⟩
        have g9 := g.same B (fresh_of (kT.trans kI) nC) hs9 x3.go.good (tk := s'.toks)
        have x9 := x3.run X g9
        refine wpAny_List (args_nil ⟨Nat.zero_le _, ?_⟩)
        have hD9 := (hD.extBut hs9.extBut hne).isList
        have kp : Keep h9 (h9.push { cls := .type "list", data := .seq [].toArray }) := Keep.push _ _
        refine neNil hu (hD9.at fun o e => kp _ _ e) ⟨_, Heap.get?_push_size _ rfl, rfl, 0, rfl⟩ (wpAny_truthy_bool ?_)
        simp only [Bool.false_eq_true, if_false]
        refine wpAny_execs_nil (wpAny_execs_cons (wpAny_Continue ?_))
        exact hc _ _ (x9.keep X kp (tk := s'.toks))
    by_cases e : W i = W q
    · have : (W i == W q) = true := beq_iff_eq.mpr e
      rw [this]
      simp only [if_true]
      exact wpAny_Constant_int (due 1 _ _ (by rw [if_pos e]))
    · have : (W i == W q) = false := by rw [← Bool.not_eq_true]; exact fun q => e (beq_iff_eq.mp q)
      rw [this]
      simp only [Bool.false_eq_true, if_false]
      exact wpAny_Constant_int (due 0 _ _ (by rw [if_neg e]))
  refine isTrue_or (wpAny_isTrue_Compare1 (rd_one x.fm h1 (wpAny_Constant_str (eq_str (wpAny_truthy_bool ?_)))))
  rw [str_empty]
  by_cases e1 : (W i).cps.size = 0
  · rw [decide_eq_true e1]
    simp only [if_true]
    exact key _ (.inl e1)
  · rw [decide_eq_false e1]
    simp only [Bool.false_eq_true, if_false]
    refine isTrue_or (wpAny_isTrue_Compare1 (rd_other (s := { s with toks := _ }) x.fm h2 (wpAny_Constant_str (eq_str (wpAny_truthy_bool ?_)))))
    rw [str_empty]
    by_cases e2 : (W q).cps.size = 0
    · rw [decide_eq_true e2]
      simp only [if_true]
      exact key _ (.inr e2)
    · rw [decide_eq_false e2]
      simp only [Bool.false_eq_true, if_false]
      refine isTrue_or_nil ?_
      simp only [Bool.false_eq_true, if_false]
      exact wpAny_execs_nil (hn _ e1 e2)
end
end Mine
end

noncomputable section
open PySem PySem.Calls PySem.W PyProof.Rows Builtin Builtin.ObjectAttr
set_option maxRecDepth 100000
set_option maxHeartbeats 4000000
namespace Mine
theorem countIn_str (k : Str) : ∀ ss : List Str, Spec.countIn (.str k) (ss.map PyData.str) = (ss.count k : Nat)
  | [] => rfl
  | y :: r => by
    rw [List.map_cons, Spec.countIn, countIn_str k r, List.count_cons]
    simp only [Spec.same]
    rcases Bool.eq_false_or_eq_true (y == k) with hb | hb <;> simp only [hb, Bool.false_eq_true, if_true, if_false] <;> push_cast <;> omega
theorem letters_eq : letters = [⟨#[97]⟩, ⟨#[98]⟩, ⟨#[99]⟩, ⟨#[100]⟩] := by decide +kernel
theorem preSum4 (f : Str → Nat) : preSum (fun q => ((f (letters.getD q "") : Nat) : Int)) 4 = ((letters.map f).sum : Nat) := by
  rw [letters_eq]
  simp only [preSum, List.getD_cons_zero, List.getD_cons_succ, List.map_cons, List.map_nil, List.sum_cons, List.sum_nil]
  omega
section
variable {w : World} {A : Around} {s s' s₀ s₁ : Shared} {K : Frag} {mg mb : Str → Option Value} {n k : Nat} {E : Value → Shared → Prop} {L : Addr} {l : Ls} {c : Cs} {O P : Heap → Prop}
  {sets : Bool} {WL : Addr} {W : Nat → Str} {j so ov p hh un FL : Addr} {C U : Nat → Nat → Nat} {S : Nat → Nat} {i q : Nat} {ti tq t1 t2 : Tok}
theorem sum_nats {D : Addr} {ys : List Value} {val : Nat → Int} {Q : Value → Shared → Prop} (hA : A.handled = none) (hD : s.heap.IsList D (List.toArray ys)) (hv : ∀ i v, ys[i]? = some v → ∃ t : Tok, v = Value.int (val i) t)
    (h : ∀ h' tk t, Keep s.heap h' → Q (.int (preSum val ys.length) t) { s with heap := h', toks := tk }) : wpAny (model PG w) A (call (.builtin "sum") [.ref D]) Q E s := by
  refine call_sum_walkG (itList hD fun h1 I k1 hI hne hit hl => ?_)
  have lt : D < h1.objs.size := by obtain ⟨o, e⟩ := list_lt hl; exact Heap.lt_size e
  refine ⟨I, _, _, _, _, _, val, rfl, (wkList (prog := PG) (w := w) (items := List.toArray ys) hne).W A.in1 hA, ⟨hit, hl⟩, fun b hb => ?_, fun i v e => hv i v (by simpa using e), fun h' tk t' hk => ?_⟩
  · simp only [List.mem_cons, List.not_mem_nil, or_false] at hb
    rcases hb with rfl | rfl
    · obtain ⟨o, e, _⟩ := hit; exact Heap.lt_size e
    · exact lt
  · have := h h' tk t' (fun b o e => hk b o (fun q => by
      have q := List.mem_singleton.mp q
      rw [q, hI] at e; cases e) (k1 _ _ e))
    simpa using this
/-- nm.count(letter) -/
theorem ev_count {env : Env} {nm ln : Str} {D : Addr} {ss : List Str} {y : Str} {ty : Tok} {px pa p1 pos : Pos} {pl : Sem Bool} {Q : Value → Shared → Prop} (b : Bl s.heap D ss)
    (hX : ∀ {Q : Value → Shared → Prop}, Q (.ref D) s → wpAny (model PG w) A (PySem.eval (.Name nm px) env) Q E s)
    (h1 : ∀ {Q : Value → Shared → Prop}, Q (.str y ty) s → wpAny (model PG w) A (PySem.eval (.Name ln p1) env) Q E s)
    (h : ∀ tk t, Q (.int (ss.count y : Nat) t) { s with toks := tk })
    (he : PySem.eval (.Call (.Attribute (.Name nm px) "count" pa) [.Name ln p1] [] pos) env = (do
      let ov ← PySem.eval (.Name nm px) env
      standAt pa.atName
      let (f, first) ← holding [ov] (getMethod ov "count" pl)
      callWith pos f first (backTo pos (starEach [.Name ln p1] env)) (backToKw pos (keywordEach [] env))) := by rfl) :
    wpAny (model PG w) A (PySem.eval (.Call (.Attribute (.Name nm px) "count" pa) [.Name ln p1] [] pos) env) Q E s := by
  obtain ⟨vs, hD, hS⟩ := b
  refine callM (hX (getMethod_list_of PySem.F.slot_list_count PySem.F.type_list_count hD.isList (by obtain ⟨n, e⟩ := hD; exact ⟨_, e, rfl⟩) (args_cons (h1 (args_nil ⟨keeper_bi, count_list_strs hD.isList hS ?_⟩))))) he
  rw [countIn_str]
  exact h _ _
/-- common = sum([..]) -/
theorem c_b7 {D1 D2 : Addr} {ss tt : List Str} {Q : Flow → Shared → Prop} (F : KF K) (B : Base K mg mb s₁) (G₀ : Good s₁ s₀) (hA : A.handled = none) (hL : ∀ a ∈ FA L, s₀.heap.get? a = none) (pf : PF sets W C U S) (X : Stb L O) (x : St s₁ s₀ L O l c s)
    (i3 : i < 3) (q3 : q < 3) (h1 : c.k_first = some (.ref D1)) (h2 : c.k_second = some (.ref D2)) (b1 : Bl s.heap D1 ss) (b2 : Bl s.heap D2 tt) (bb1 : BagL sets (W i) ss) (bb2 : BagL sets (W q) tt)
    (h : ∀ s' t, St s₁ s₀ L O { l with v_common := some (.int (C i q : Nat) t) } c s' → Q .next s') :
    wpAny (model PG w) A (exec (bS 7) (EL L)) Q E s := by
  have GS : Go s₁ true s s := Go.start x.go.good
  refine wpAny_Assign_Name (callP (nmB B x.go.good F.g_sum boot_sum (args_cons ?_)))
  rw [eval_ListComp]
  refine compM (t := true) (cl := [("second", L + 11), ("first", L + 10)]) [] B x.go.good hA (by rfl) (by decide) rfl (by decide) (by intro _; rfl) (wpAny_Constant_str (wkStr fun o St W st => ?_))
  refine ⟨_, _, _, _, St, fun k ys s' => ys.length = k ∧ ∀ q v, ys[q]? = some v → ∃ t, v = Value.int (min (ss.count (letters.getD q "")) (tt.count (letters.getD q "")) : Nat) t, rfl, (GS.tok _).keep (Keep.push _ _), get_size _, W, st, (by decide), (fun b hb => ?_), nofun, (fun _ _ _ => ⟨rfl, fun q v e => by simp at e⟩), (fun i ys s' h' tk a _ hu _ => hu), ?_, ?_⟩
  · simp only [List.mem_cons, List.not_mem_nil, or_false] at hb
    subst hb
    show _ < (Heap.push _ _).objs.size
    rw [Heap.size_push]; exact Nat.lt_succ_self _
  · rintro k ys v s' Ca m N hk hv ⟨e1, e2⟩ g hC hm' hm _
    obtain ⟨y, u', e3, rfl⟩ := signs_at hv
    refine wpAny_tests_nil ?_
    simp only [if_true]
    have f' := x.fm.ext g.Ext
    refine callP (nmB B g.good F.g_min boot_min (args_cons ?_))
    refine ev_count (b1.ext g.Ext) (fun q => nmC (by rfl) (h1 ▸ f'.k_first) q) (fun q => nmL hm' (by exact hm) q) fun tk t => args_cons ?_
    refine ev_count (s := { s' with toks := tk }) (b2.ext g.Ext) (fun q => nmC (by rfl) (h2 ▸ f'.k_second) q) (fun q => nmL hm' (by exact hm) q) fun tk2 t2 => args_nil ⟨keeper_bi, ?_⟩
    refine minInts hA fun h9 tk9 t9 k9 => ?_
    rw [lo_min]
    refine ⟨ExtM.of_ext (.of_keep k9), g.keep k9, by simp [e1], snocAt e2 ⟨t9, ?_⟩⟩
    have : letters.getD ys.length "" = y := by
      rw [e1, List.getD_eq_getElem?_getD, show letters[k]? = some y from e3]; rfl
    rw [this]
  · rintro ys s' D Ca m ⟨e1, e2⟩ g hD hC nD nC hne
    refine ⟨m, hC, fun h9 hs9 => ?_⟩
    have fr : s.heap.get? Ca = none := fresh_of (Keep.push s.heap o) nC
    have g9 := g.same B fr hs9 x.go.good (tk := s'.toks)
    refine args_nil ⟨keeper_bi, sum_nats (val := fun q => ((min (ss.count (letters.getD q "")) (tt.count (letters.getD q "")) : Nat) : Int)) hA (hD.extBut hs9.extBut hne).isList e2 fun h10 tk10 t10 k10 => ?_⟩
    have hsum : preSum (fun q => ((min (ss.count (letters.getD q "")) (tt.count (letters.getD q "")) : Nat) : Int)) ys.length = (C i q : Nat) := by
      rw [e1, ← pf.cnt i q ss tt i3 q3 bb1 bb2]
      exact preSum4 fun y => min (ss.count y) (tt.count y)
    rw [hsum]
    have x10 := (x.run X g9).keep X k10 (tk := tk10)
    exact st_common (s := { s' with heap := h10, toks := tk10 }) x10.fm fun h11 f11 hs11 => h _ t10 (x10.cell X B G₀ hL (mFA0 L) f11 hs11)
end
end Mine
end

noncomputable section
open PySem PySem.Calls PySem.W PyProof.Rows Builtin Builtin.ObjectAttr
set_option maxRecDepth 100000
set_option maxHeartbeats 4000000
namespace Mine
section
variable {w : World} {A : Around} {s s' s₀ s₁ : Shared} {K : Frag} {mg mb : Str → Option Value} {n k : Nat} {E : Value → Shared → Prop} {L : Addr} {l : Ls} {c : Cs} {O P : Heap → Prop}
  {sets : Bool} {WL : Addr} {W : Nat → Str} {j so ov p hh un FL : Addr} {C U : Nat → Nat → Nat} {S : Nat → Nat} {i q : Nat} {ti tq t1 t2 : Tok}
theorem not_eq_of {x y : UInt64} (h : feq x y = true) : (Float64.cmp x y != some Ordering.eq) = false := by
  show (!(feq x y)) = false
  rw [h]; rfl
/-- len(nm) -/
theorem ev_len {env : Env} {nm : Str} {D : Addr} {ss : List Str} {pf px pos : Pos} {Q : Value → Shared → Prop} (F : KF K) (B : Base K mg mb s₁) (G : Good s₁ s) (b : Bl s.heap D ss) (hz : ss.length ≤ 1000)
    (hl : wpAny (model PG w) A (PySem.eval (.Name "len" pf) env) (fun f s' => f = .builtin "len" ∧ s' = s) E s)
    (hX : ∀ {Q : Value → Shared → Prop}, Q (.ref D) s → wpAny (model PG w) A (PySem.eval (.Name nm px) env) Q E s)
    (h : ∀ tk t, Q (.int (ss.length : Nat) t) { s with toks := tk })
    (he : PySem.eval (.Call (.Name "len" pf) [.Name nm px] [] pos) env = (do callWith pos (← PySem.eval (.Name "len" pf) env) [] (backTo pos (starEach [.Name nm px] env)) (backToKw pos (keywordEach [] env))) := by rfl) :
    wpAny (model PG w) A (PySem.eval (.Call (.Name "len" pf) [.Name nm px] [] pos) env) Q E s := by
  obtain ⟨vs, hD, hS⟩ := b
  have l1 := strsAre_len hS
  refine callP (wpAny_mono hl (fun f s' e => ?_) fun _ _ e => e) he
  obtain ⟨rfl, rfl⟩ := e
  refine args_cons (hX (args_nil ⟨keeper_bi, len_list hD.isList (by simp; omega) ?_⟩))
  have : (List.toArray vs).size = ss.length := by simpa using l1
  rw [this]
  exact h _ _
/-- what the two words are -/
structure Two (sets : Bool) (W : Nat → Str) (C U : Nat → Nat → Nat) (S : Nat → Nat) (i q : Nat) (D1 D2 : Addr) (l : Ls) (c : Cs) (t1 t2 : Tok) (h : Heap) : Prop where
  h1 : c.k_one = some (.str (W i) t1)
  h2 : c.k_other = some (.str (W q) t2)
  f : c.k_first = some (.ref D1)
  s : c.k_second = some (.ref D2)
  b1 : ∃ ss, Bl h D1 ss ∧ ss.length = S i
  b2 : ∃ tt, Bl h D2 tt ∧ tt.length = S q
  e1 : (W i).cps.size ≠ 0
  e2 : (W q).cps.size ≠ 0
  com : ∃ t, l.v_common = some (.int (C i q : Nat) t)
  sh : ∃ t, l.v_share = some (.int ((27720 - Dn (C i q) (U i q) : Nat) : Int) t)
  ts : ∃ z, l.v_told_share = some z ∧ SimOk (W i) (W q) (frac (C i q) (U i q)) z
theorem Two.ext {D1 D2 : Addr} {h h' : Heap} (x : Two sets W C U S i q D1 D2 l c t1 t2 h) (e : Ext h h') : Two sets W C U S i q D1 D2 l c t1 t2 h' :=
  ⟨x.h1, x.h2, x.f, x.s, let ⟨ss, a, b⟩ := x.b1; ⟨ss, a.ext e, b⟩, let ⟨ss, a, b⟩ := x.b2; ⟨ss, a.ext e, b⟩, x.e1, x.e2, x.com, x.sh, x.ts⟩
/-- X.similarity(one, other) in the law's own frame -/
theorem sim_in {o : Addr} {nm : Str} {fl : UInt64} {px pa p1 p2 pos : Pos} {pl : Sem Bool} {D1 D2 : Addr} {Q : Value → Shared → Prop} (F : KF K) (B : Base K mg mb s₁) (r : Rm A (n + 17)) (X : Stb L O) (x : St s₁ s₀ L O l c s) (tw : Two sets W C U S i q D1 D2 l c t1 t2 s.heap) (wy : Way w s₁ K (n + 16) o (W i) (W q) fl s)
    (hX : ∀ {Q : Value → Shared → Prop}, Q (.ref o) s → wpAny (model PG w) A (PySem.eval (.Name nm px) (EL L)) Q E s)
    (h : ∀ s' z, St s₁ s₀ L O l c s' → Two sets W C U S i q D1 D2 l c t1 t2 s'.heap → SimOk (W i) (W q) fl z → Q z s')
    (he : PySem.eval (.Call (.Attribute (.Name nm px) "similarity" pa) [.Name "one" p1, .Name "other" p2] [] pos) (EL L) = (do
      let ov ← PySem.eval (.Name nm px) (EL L)
      standAt pa.atName
      let (f, first) ← holding [ov] (getMethod ov "similarity" pl)
      callWith pos f first (backTo pos (starEach [.Name "one" p1, .Name "other" p2] (EL L))) (backToKw pos (keywordEach [] (EL L)))) := by rfl) :
    wpAny (model PG w) A (PySem.eval (.Call (.Attribute (.Name nm px) "similarity" pa) [.Name "one" p1, .Name "other" p2] [] pos) (EL L)) Q E s :=
  wy.sim F B x.go.good r hX (fun q => rd_one x.fm tw.h1 q) (fun q => rd_other x.fm tw.h2 q) (fun s' z g hz => h s' z (x.run X g) (tw.ext g.Ext) hz) he
/-- if sorensen.similarity(one, other) != .. or overlap.similarity(one, other) != ..: return False -/
theorem c_b8 {D1 D2 : Addr} {Q : Flow → Shared → Prop} (F : KF K) (C4 : K4 K) (B : Base K mg mb s₁) (r : Rm A (n + 17)) (pf : PF sets W C U S) (X : Stb L O) (hO : ∀ h, O h → OB sets WL W j so ov p hh un FL C U h) (x : St s₁ s₀ L O l c s) (kn : Kn sets WL j so ov p hh un FL l c)
    (i3 : i < 3) (q3 : q < 3) (tw : Two sets W C U S i q D1 D2 l c t1 t2 s.heap)
    (h : ∀ s', St s₁ s₀ L O l c s' → Two sets W C U S i q D1 D2 l c t1 t2 s'.heap → Q .next s') :
    wpAny (model PG w) A (exec (bS 8) (EL L)) Q E s := by
  have pi := pf.pp.p i q i3 q3
  have nm := pi.num tw.e1 tw.e2
  have W6 := (hO _ x.o).1.ways (w := w) (n := n) F C4 B x.go.good pi
  obtain ⟨tc, hcom⟩ := tw.com
  obtain ⟨th, hsh⟩ := tw.sh
  refine wpAny_If (isTrue_or (wpAny_isTrue_Compare1 ?_))
  refine sim_in F B r X x tw W6.2.1 (fun q => rd_sorensen x.fm kn.so q) fun s2 z x2 tw2 hz => ?_
  refine wpAny_BinOp (wpAny_BinOp (wpAny_Constant_int (rd_share (s := { s2 with toks := _ }) x2.fm hsh (mul_int (wpAny_BinOp (wpAny_Constant_int (rd_share (s := { s2 with toks := _ }) x2.fm hsh (add_int ?_))))))))
  have c1 : (2 * ((27720 - Dn (C i q) (U i q) : Nat) : Int)) = ((2 * (27720 - Dn (C i q) (U i q)) : Nat) : Int) := by push_cast; rfl
  have c2 : (27720 + ((27720 - Dn (C i q) (U i q) : Nat) : Int)) = ((27720 + (27720 - Dn (C i q) (U i q)) : Nat) : Int) := by push_cast; rfl
  rw [c1, c2]
  refine div_nat (by omega) nm.s1 fun r2 tk2 => ?_
  have second : ∀ tk, wpAny (model PG w) A (isTrue (match bS 8 with | .If (.BoolOp _ [_, y] _) _ _ _ => y | _ => .Constant .none 0 default) (EL L) (eval (match bS 8 with | .If (.BoolOp _ [_, y] _) _ _ _ => y | _ => .Constant .none 0 default) (EL L)))
      (fun c s' => if c = true then wpAny (model PG w) A (execs (match bS 8 with | .If _ b _ _ => b | _ => []) (EL L)) Q E s' else Q .next s') E { s2 with toks := tk } := by
    intro tk
    have x3 := x2.tok tk
    have W6 := (hO _ x3.o).1.ways (w := w) (n := n) F C4 B x3.go.good pi
    refine wpAny_isTrue_Compare1 ?_
    refine sim_in (s := { s2 with toks := tk }) F B r X x3 tw2 W6.2.2.1 (fun q => rd_overlap (s := { s2 with toks := tk }) x3.fm kn.ov q) fun s4 z4 x4 tw4 hz4 => ?_
    obtain ⟨ss, b1, l1⟩ := tw4.b1
    obtain ⟨tt, b2, l2⟩ := tw4.b2
    have a5 := pi.a5
    have b5 := pi.b5
    refine wpAny_BinOp (rd_common x4.fm hcom (callP (nmB B x4.go.good F.g_min boot_min (args_cons ?_))))
    refine ev_len F B x4.go.good b1 (by omega) (nmB B x4.go.good F.g_len boot_len ⟨rfl, rfl⟩) (fun q => rd_first x4.fm tw4.f q) fun tk5 t5 => args_cons ?_
    refine ev_len (s := { s4 with toks := tk5 }) F B (x4.tok _).go.good b2 (by omega) (nmB B (x4.tok _).go.good F.g_len boot_len ⟨rfl, rfl⟩) (fun q => rd_second (s := { s4 with toks := tk5 }) x4.fm tw4.s q) fun tk6 t6 => args_nil ⟨keeper_bi, ?_⟩
    refine minInts r.h fun h7 tk7 t7 k7 => ?_
    rw [lo_min, l1, l2]
    have ha : S i ≠ 0 := fun e => tw.e1 (pi.a0.mpr e)
    have hb : S q ≠ 0 := fun e => tw.e2 (pi.b0.mpr e)
    refine div_nat (by omega) nm.o1 fun r8 tk8 => ?_
    have x9 := x4.keep X k7 (tk := tk8)
    have tw9 := tw4.ext (.of_keep k7)
    rcases three (W i) (W q) with e | ⟨e, e'⟩ | ⟨e, e1, e2⟩
    · obtain ⟨tz, rfl⟩ : ∃ t, z4 = .int 1 t := by rw [e] at hz4; exact simOk_same hz4
      refine ne_if (wpAny_truthy_bool ?_)
      have sm := pi.same e
      have hm : C i q = min (S i) (S q) := by omega
      have od := (one_div (min (S i) (S q)) (by omega) (by omega)).2
      have od' : Float64.cmpInt (frac (C i q) (min (S i) (S q))) 1 = some Ordering.eq := by rw [hm]; exact od
      rw [od']
      simp only [bne_self_eq_false, Bool.false_eq_true, if_false]
      exact h _ x9 tw9
    · exact (e'.elim tw.e1 tw.e2).elim
    · obtain ⟨tz, rfl⟩ := simOk_go hz4 e e1 e2
      refine AutoFloatOps.ne_0 (wpAny_truthy_bool ?_)
      rw [not_eq_of nm.o2]
      simp only [Bool.false_eq_true, if_false]
      exact h _ x9 tw9
  have fin : ∀ tk, wpAny (model PG w) A (isTrue (.BoolOp .Or (match bS 8 with | .If (.BoolOp _ (_ :: r) _) _ _ _ => r | _ => []) ⟨267, 15, 267, 152⟩) (EL L) (eval (match bS 8 with | .If e _ _ _ => e | _ => .Constant .none 0 default) (EL L)))
      (fun b s' => if b = true then wpAny (model PG w) A (execs (match bS 8 with | .If _ b _ _ => b | _ => []) (EL L)) Q E s' else wpAny (model PG w) A (execs [] (EL L)) Q E s') E { s2 with toks := tk } := by
    intro tk
    refine isTrue_or (wpAny_mono (second tk) (fun c s' hc => ?_) fun _ _ e => e)
    cases c with
    | true => simp only [if_true] at hc ⊢; exact hc
    | false =>
      simp only [Bool.false_eq_true, if_false] at hc ⊢
      refine isTrue_or_nil ?_
      simp only [Bool.false_eq_true, if_false]
      exact wpAny_execs_nil hc
  rcases three (W i) (W q) with e | ⟨e, e'⟩ | ⟨e, e1, e2⟩
  · obtain ⟨tz, rfl⟩ : ∃ t, z = .int 1 t := by rw [e] at hz; exact simOk_same hz
    refine ne_if (wpAny_truthy_bool ?_)
    have od : Float64.cmpInt (frac (2 * (27720 - Dn (C i q) (U i q))) (27720 + (27720 - Dn (C i q) (U i q)))) 1 = some Ordering.eq := by rw [pi.d_same e]; exact one_big.2
    rw [od]
    simp only [bne_self_eq_false, Bool.false_eq_true, if_false]
    exact fin _
  · exact (e'.elim tw.e1 tw.e2).elim
  · obtain ⟨tz, rfl⟩ := simOk_go hz e e1 e2
    refine AutoFloatOps.ne_0 (wpAny_truthy_bool ?_)
    rw [not_eq_of nm.s2]
    simp only [Bool.false_eq_true, if_false]
    exact fin _
end
end Mine
end

noncomputable section
open PySem PySem.Calls PySem.W PyProof.Rows Builtin Builtin.ObjectAttr
set_option maxRecDepth 100000
set_option maxHeartbeats 4000000
namespace Mine
section
variable {w : World} {A : Around} {s s' s₀ s₁ : Shared} {K : Frag} {mg mb : Str → Option Value} {n k : Nat} {E : Value → Shared → Prop} {L : Addr} {l : Ls} {c : Cs} {O P : Heap → Prop}
  {sets : Bool} {WL : Addr} {W : Nat → Str} {j so ov p hh un FL : Addr} {C U : Nat → Nat → Nat} {S : Nat → Nat} {i q : Nat} {ti tq t1 t2 : Tok}
/-- if plain.similarity(one, other) != told_share or half.similarity(one, other) != sorensen.similarity(one, other): return False -/
theorem c_b9 {D1 D2 : Addr} {Q : Flow → Shared → Prop} (F : KF K) (C4 : K4 K) (B : Base K mg mb s₁) (r : Rm A (n + 17)) (pf : PF sets W C U S) (X : Stb L O) (hO : ∀ h, O h → OB sets WL W j so ov p hh un FL C U h) (x : St s₁ s₀ L O l c s) (kn : Kn sets WL j so ov p hh un FL l c)
    (i3 : i < 3) (q3 : q < 3) (tw : Two sets W C U S i q D1 D2 l c t1 t2 s.heap)
    (h : ∀ s', St s₁ s₀ L O l c s' → Two sets W C U S i q D1 D2 l c t1 t2 s'.heap → Q .next s') :
    wpAny (model PG w) A (exec (bS 9) (EL L)) Q E s := by
  have pi := pf.pp.p i q i3 q3
  have nm := pi.num tw.e1 tw.e2
  have W6 := (hO _ x.o).1.ways (w := w) (n := n) F C4 B x.go.good pi
  obtain ⟨z, hts, hz⟩ := tw.ts
  refine wpAny_If (isTrue_or (wpAny_isTrue_Compare1 ?_))
  refine sim_in F B r X x tw W6.2.2.2.1 (fun q => rd_plain x.fm kn.p q) fun s2 z2 x2 tw2 hz2 => ?_
  refine rd_told_share x2.fm hts ?_
  have fin : ∀ tk, wpAny (model PG w) A (isTrue (.BoolOp .Or (match bS 9 with | .If (.BoolOp _ (_ :: r) _) _ _ _ => r | _ => []) ⟨269, 15, 269, 123⟩) (EL L) (eval (match bS 9 with | .If e _ _ _ => e | _ => .Constant .none 0 default) (EL L)))
      (fun b s' => if b = true then wpAny (model PG w) A (execs (match bS 9 with | .If _ b _ _ => b | _ => []) (EL L)) Q E s' else wpAny (model PG w) A (execs [] (EL L)) Q E s') E { s2 with toks := tk } := by
    intro tk
    have x3 := x2.tok tk
    have W6 := (hO _ x3.o).1.ways (w := w) (n := n) F C4 B x3.go.good pi
    refine isTrue_or (wpAny_isTrue_Compare1 ?_)
    refine sim_in (s := { s2 with toks := tk }) F B r X x3 tw2 W6.2.2.2.2.1 (fun q => rd_half (s := { s2 with toks := tk }) x3.fm kn.hh q) fun s4 z4 x4 tw4 hz4 => ?_
    have W6' := (hO _ x4.o).1.ways (w := w) (n := n) F C4 B x4.go.good pi
    refine sim_in F B r X x4 tw4 W6'.2.1 (fun q => rd_sorensen x4.fm kn.so q) fun s5 z5 x5 tw5 hz5 => ?_
    rcases three (W i) (W q) with e | ⟨e, e'⟩ | ⟨e, e1, e2⟩
    · obtain ⟨tz, rfl⟩ : ∃ t, z4 = .int 1 t := by rw [e] at hz4; exact simOk_same hz4
      obtain ⟨tz5, rfl⟩ : ∃ t, z5 = .int 1 t := by rw [e] at hz5; exact simOk_same hz5
      refine ne_int (wpAny_truthy_bool ?_)
      simp only [bne_self_eq_false, Bool.false_eq_true, if_false]
      refine isTrue_or_nil ?_
      simp only [Bool.false_eq_true, if_false]
      exact wpAny_execs_nil (h _ x5 tw5)
    · exact (e'.elim tw.e1 tw.e2).elim
    · obtain ⟨tz, rfl⟩ := simOk_go hz4 e e1 e2
      obtain ⟨tz5, rfl⟩ := simOk_go hz5 e e1 e2
      refine AutoFloatOps.ne_0 (wpAny_truthy_bool ?_)
      rw [not_eq_of nm.h2]
      simp only [Bool.false_eq_true, if_false]
      refine isTrue_or_nil ?_
      simp only [Bool.false_eq_true, if_false]
      exact wpAny_execs_nil (h _ x5 tw5)
  rcases three (W i) (W q) with e | ⟨e, e'⟩ | ⟨e, e1, e2⟩
  · obtain ⟨tz, rfl⟩ : ∃ t, z = .int 1 t := by rw [e] at hz; exact simOk_same hz
    obtain ⟨tz2, rfl⟩ : ∃ t, z2 = .int 1 t := by rw [e] at hz2; exact simOk_same hz2
    refine ne_int (wpAny_truthy_bool ?_)
    simp only [bne_self_eq_false, Bool.false_eq_true, if_false]
    exact fin _
  · exact (e'.elim tw.e1 tw.e2).elim
  · obtain ⟨tz, rfl⟩ := simOk_go hz e e1 e2
    obtain ⟨tz2, rfl⟩ := simOk_go hz2 e e1 e2
    refine AutoFloatOps.ne_0 (wpAny_truthy_bool ?_)
    rw [not_eq_of nm.jj]
    simp only [Bool.false_eq_true, if_false]
    exact fin _
/-- if uneven.similarity(one, other) != (1 if one == other else ..): return False -/
theorem c_b10 {D1 D2 : Addr} {Q : Flow → Shared → Prop} (F : KF K) (C4 : K4 K) (B : Base K mg mb s₁) (r : Rm A (n + 17)) (pf : PF sets W C U S) (X : Stb L O) (hO : ∀ h, O h → OB sets WL W j so ov p hh un FL C U h) (x : St s₁ s₀ L O l c s) (kn : Kn sets WL j so ov p hh un FL l c)
    (i3 : i < 3) (q3 : q < 3) (tw : Two sets W C U S i q D1 D2 l c t1 t2 s.heap)
    (h : ∀ s', St s₁ s₀ L O l c s' → Q .next s') :
    wpAny (model PG w) A (exec (bS 10) (EL L)) Q E s := by
  have pi := pf.pp.p i q i3 q3
  have nm := pi.num tw.e1 tw.e2
  have W6 := (hO _ x.o).1.ways (w := w) (n := n) F C4 B x.go.good pi
  obtain ⟨tc, hcom⟩ := tw.com
  refine wpAny_If (wpAny_isTrue_Compare1 ?_)
  refine sim_in F B r X x tw W6.2.2.2.2.2 (fun q => rd_uneven x.fm kn.un q) fun s2 z x2 tw2 hz => ?_
  refine wpAny_IfExp (wpAny_isTrue_Compare1 (rd_one x2.fm tw.h1 (rd_other x2.fm tw.h2 (eq_str (wpAny_truthy_bool ?_)))))
  rcases three (W i) (W q) with e | ⟨e, e'⟩ | ⟨e, e1, e2⟩
  · have : (W i == W q) = true := beq_iff_eq.mpr e
    rw [this]
    simp only [if_true]
    obtain ⟨tz, rfl⟩ : ∃ t, z = .int 1 t := by rw [e] at hz; exact simOk_same hz
    refine wpAny_Constant_int (ne_int (wpAny_truthy_bool ?_))
    simp only [bne_self_eq_false, Bool.false_eq_true, if_false]
    exact wpAny_execs_nil (h _ (x2.tok _))
  · exact (e'.elim tw.e1 tw.e2).elim
  · have : (W i == W q) = false := by rw [← Bool.not_eq_true]; exact fun q => e (beq_iff_eq.mp q)
    rw [this]
    simp only [Bool.false_eq_true, if_false]
    obtain ⟨tz, rfl⟩ := simOk_go hz e e1 e2
    obtain ⟨ss, b1, l1⟩ := tw2.b1
    obtain ⟨tt, b2, l2⟩ := tw2.b2
    have a5 := pi.a5
    have b5 := pi.b5
    refine wpAny_BinOp (rd_common x2.fm hcom (wpAny_BinOp (wpAny_BinOp (wpAny_BinOp (rd_common x2.fm hcom ?_)))))
    refine ev_len F B x2.go.good b1 (by omega) (nmB B x2.go.good F.g_len boot_len ⟨rfl, rfl⟩) (fun q => rd_first x2.fm tw.f q) fun tk5 t5 => add_int ?_
    refine rd_common (s := { s2 with toks := _ }) x2.fm hcom (sub_int (wpAny_BinOp (wpAny_Constant_int (wpAny_BinOp ?_))))
    refine ev_len (s := { s2 with toks := _ }) F B (x2.tok _).go.good b2 (by omega) (nmB B (x2.tok _).go.good F.g_len boot_len ⟨rfl, rfl⟩) (fun q => rd_second (s := { s2 with toks := _ }) x2.fm tw.s q) fun tk6 t6 => ?_
    refine rd_common (s := { s2 with toks := _ }) x2.fm hcom (sub_int (mul_int (add_int ?_)))
    rw [l1, l2]
    have ha : S i ≠ 0 := fun e => tw.e1 (pi.a0.mpr e)
    have hb : S q ≠ 0 := fun e => tw.e2 (pi.b0.mpr e)
    have ca := pi.ca
    have cb := pi.cb
    have ev : (((C i q : Nat) : Int) + (S i : Nat) - (C i q : Nat) + 2 * ((S q : Nat) - (C i q : Nat))) = ((S i + 2 * S q - 2 * C i q : Nat) : Int) := by omega
    rw [ev]
    refine div_nat (by omega) nm.v1 fun r8 tk8 => AutoFloatOps.ne_0 (wpAny_truthy_bool ?_)
    rw [not_eq_of nm.v2]
    simp only [Bool.false_eq_true, if_false]
    exact wpAny_execs_nil (h _ (x2.tok _))
end
end Mine
end

noncomputable section
open PySem PySem.Calls PySem.W PyProof.Rows Builtin Builtin.ObjectAttr
set_option maxRecDepth 100000
set_option maxHeartbeats 4000000
namespace Mine
section
variable {w : World} {A : Around} {s s' s₀ s₁ : Shared} {K : Frag} {mg mb : Str → Option Value} {n k : Nat} {E : Value → Shared → Prop} {L : Addr} {l : Ls} {c : Cs} {O P : Heap → Prop}
  {sets : Bool} {WL : Addr} {W : Nat → Str} {j so ov p hh un FL : Addr} {C U : Nat → Nat → Nat} {S : Nat → Nat} {i q : Nat} {ti tq t1 t2 : Tok}
theorem Rm.room {n : Nat} (r : Rm A (n + 1)) : A.units < cLine := by have := r.u; omega
/-- a turn of the two loops -/
theorem c_turn {N : Value → Shared → Prop} (F : KF K) (C4 : K4 K) (KLL : KL K) (B : Base K mg mb s₁) (G₀ : Good s₁ s₀) (r : Rm A (n + 19)) (hL : ∀ a ∈ FA L, s₀.heap.get? a = none) (pf : PF sets W C U S) (X : Stb L O) (hO : ∀ h, O h → OB sets WL W j so ov p hh un FL C U h) (x : St s₁ s₀ L O l c s) (kn : Kn sets WL j so ov p hh un FL l c)
    (hi : c.k_i = some (.int (i : Nat) ti)) (hq : c.k_j = some (.int (q : Nat) tq)) (i3 : i < 3) (q3 : q < 3) :
    wpAny (model PG w) A (execs (forBody lawF) (EL L)) (fun f s'' => (f = .next ∨ f = .cont) ∧ ∃ l' c', St s₁ s₀ L O l' c' s'' ∧ Kn sets WL j so ov p hh un FL l' c' ∧ c'.k_i = some (.int (i : Nat) ti)) N s := by
  have hu : A.units < cLine := r.room
  have pi := pf.pp.p i q i3 q3
  show wpAny _ _ (execs (bS 0 :: bS 1 :: bS 2 :: bS 3 :: bS 4 :: bS 5 :: bS 6 :: bS 7 :: bS 8 :: bS 9 :: bS 10 :: []) _) _ _ _
  refine wpAny_execs_cons (c_b0 B G₀ r.h hL X hO x kn hi hq i3 q3 fun s1 t1 t2 x1 => ?_)
  refine wpAny_execs_cons (c_b1 (n := n + 17) F KLL B G₀ r hL X x1 rfl rfl kn.sets pi.sx pi.sy fun s2 D1 D2 ss tt bb1 bb2 x2 => ?_)
  have X2 : Stb L (fun h => (O h ∧ Bl h D1 ss) ∧ Bl h D2 tt) := (X.and .bl).and .bl
  have hO2 : ∀ h, ((O h ∧ Bl h D1 ss) ∧ Bl h D2 tt) → OB sets WL W j so ov p hh un FL C U h := fun h o => hO h o.1.1
  refine wpAny_execs_cons (c_b2 hu pf hO2 x2 ⟨kn.w, kn.j, kn.f, kn.sets, kn.so, kn.ov, kn.p, kn.hh, kn.un⟩ hi hq i3 q3 rfl rfl x2.o.1.2 x2.o.2 bb1 bb2 fun tk3 => ?_)
  have x3 := x2.tok tk3
  refine wpAny_execs_cons (c_b3 (s := { s2 with toks := tk3 }) F B r.h hu pf X2 hO2 x3 ⟨kn.w, kn.j, kn.f, kn.sets, kn.so, kn.ov, kn.p, kn.hh, kn.un⟩ hi hq i3 q3 fun s4 x4 => ?_)
  refine wpAny_execs_cons (c_b4 (n := n) F C4 B G₀ r.le.le hL pf X2 hO2 x4 ⟨kn.w, kn.j, kn.f, kn.sets, kn.so, kn.ov, kn.p, kn.hh, kn.un⟩ hi hq i3 q3 rfl rfl fun s5 z t5 hz x5 => ?_)
  refine wpAny_execs_cons (c_b5 (n := n) F C4 B r pf X2 hO2 x5 ⟨kn.w, kn.j, kn.f, kn.sets, kn.so, kn.ov, kn.p, kn.hh, kn.un⟩ i3 q3 rfl rfl hz rfl rfl fun s6 x6 => ?_)
  refine wpAny_execs_cons (c_b6 (n := n) F C4 B G₀ r.le.le hu hL pf X2 hO2 x6 ⟨kn.w, kn.j, kn.f, kn.sets, kn.so, kn.ov, kn.p, kn.hh, kn.un⟩ i3 q3 rfl rfl (fun tk7 e1 e2 => ?_) fun s7 v7 x7 => ?_)
  · have x7 := x6.tok tk7
    refine wpAny_execs_cons (c_b7 (s := { s6 with toks := tk7 }) F B G₀ r.h hL pf X2 x7 i3 q3 rfl rfl x7.o.1.2 x7.o.2 bb1 bb2 fun s8 t8 x8 => ?_)
    have hsm : (27720 - ((Dn (C i q) (U i q) : Nat) : Int)) = ((27720 - Dn (C i q) (U i q) : Nat) : Int) := by have := pi.d_le; omega
    have tw : Two sets W C U S i q D1 D2 { l with v_told_share := some z, v_share := some (.int (27720 - (Dn (C i q) (U i q) : Nat)) t5), v_common := some (.int (C i q : Nat) t8) } { c with k_one := some (.str (W i) t1), k_other := some (.str (W q) t2), k_first := some (.ref D1), k_second := some (.ref D2) } t1 t2 s8.heap :=
      ⟨rfl, rfl, rfl, rfl, ⟨ss, x8.o.1.2, pf.len i ss i3 bb1⟩, ⟨tt, x8.o.2, pf.len q tt q3 bb2⟩, e1, e2, ⟨t8, rfl⟩, ⟨t5, by rw [← hsm]⟩, ⟨z, rfl, hz⟩⟩
    refine wpAny_execs_cons (c_b8 (n := n) F C4 B r.le.le pf X2 hO2 x8 ⟨kn.w, kn.j, kn.f, kn.sets, kn.so, kn.ov, kn.p, kn.hh, kn.un⟩ i3 q3 tw fun s9 x9 tw9 => ?_)
    refine wpAny_execs_cons (c_b9 (n := n) F C4 B r.le.le pf X2 hO2 x9 ⟨kn.w, kn.j, kn.f, kn.sets, kn.so, kn.ov, kn.p, kn.hh, kn.un⟩ i3 q3 tw9 fun s10 x10 tw10 => ?_)
    refine wpAny_execs_cons (c_b10 (n := n) F C4 B r.le.le pf X2 hO2 x10 ⟨kn.w, kn.j, kn.f, kn.sets, kn.so, kn.ov, kn.p, kn.hh, kn.un⟩ i3 q3 tw10 fun s11 x11 => ?_)
    exact wpAny_execs_nil ⟨.inl rfl, _, _, ⟨x11.go, x11.fm, x11.o.1.1⟩, ⟨kn.w, kn.j, kn.f, kn.sets, kn.so, kn.ov, kn.p, kn.hh, kn.un⟩, hi⟩
  · exact ⟨.inr rfl, _, _, ⟨x7.go, x7.fm, x7.o.1.1⟩, ⟨kn.w, kn.j, kn.f, kn.sets, kn.so, kn.ov, kn.p, kn.hh, kn.un⟩, hi⟩
/-- the two loops -/
theorem c_loops {Q : Flow → Shared → Prop} (F : KF K) (C4 : K4 K) (KLL : KL K) (B : Base K mg mb s₁) (G₀ : Good s₁ s₀) (r : Rm A (n + 19)) (hL : ∀ a ∈ FA L, s₀.heap.get? a = none) (pf : PF sets W C U S) (X : Stb L O) (hO : ∀ h, O h → OB sets WL W j so ov p hh un FL C U h) (x : St s₁ s₀ L O l c s) (kn : Kn sets WL j so ov p hh un FL l c)
    (h : ∀ s' l' c', St s₁ s₀ L O l' c' s' → Q .next s') :
    wpAny (model PG w) A (exec (lawS 7) (EL L)) Q E s := by
  refine loop3 (ck := L + 8) (upd := fun c v => { c with k_i := some v }) (Inv := Kn sets WL j so ov p hh un FL) F B G₀ r.h hL (mFA8 L) (fun f h => st_i f h) X x kn (fun O' X' hO' i l c s' t N i3 kn x => ?_) fun s' l' c' x _ => h s' l' c' x
  show wpAny _ _ (execs [lawF] _) _ _ _
  refine wpAny_execs_cons ?_
  refine loop3 (ck := L + 9) (upd := fun c v => { c with k_j := some v }) (Inv := fun l c => Kn sets WL j so ov p hh un FL l c ∧ c.k_i = some (.int (i : Nat) t)) F B G₀ r.h hL (mFA9 L) (fun f h => st_j f h) X' x ⟨⟨kn.w, kn.j, kn.f, kn.sets, kn.so, kn.ov, kn.p, kn.hh, kn.un⟩, rfl⟩ (fun O2 X2 hO2 q l c s' t2 N q3 kn x => ?_) fun s' l' c' x kn' => ?_
  · exact c_turn F C4 KLL B G₀ r hL pf X2 (fun h o => hO h (hO' h (hO2 h o))) x ⟨kn.1.w, kn.1.j, kn.1.f, kn.1.sets, kn.1.so, kn.1.ov, kn.1.p, kn.1.hh, kn.1.un⟩ kn.2 rfl i3 q3
  · exact wpAny_execs_nil ⟨.inl rfl, l', c', x, kn'.1⟩
end
end Mine
end

noncomputable section
open PySem PySem.Calls PySem.W PyProof.Rows Builtin Builtin.ObjectAttr
set_option maxRecDepth 100000
set_option maxHeartbeats 4000000
namespace Mine
section
variable {w : World} {A : Around} {s s' s₀ s₁ : Shared} {R : Result → Shared → Prop} {K : Frag} {mg mb : Str → Option Value} {n k : Nat} {E : Value → Shared → Prop}
/-- law -/
theorem c_law {LST : Addr} {items : Array Value} (PL : ∀ sets (W : Nat → Str), (∀ i, Wd (W i)) → ∃ C U S, PF sets W C U S) (F : KF K) (D : KG K) (C4 : K4 K) (KLL : KL K) (B : Base K mg mb s₁) (G : Good s₁ s) (r : Rm A (n + 20))
    (hT : s.heap.IsList LST items) (hI : ∀ (j : Nat) (x : Value), items[j]? = some x → ∃ n u, x = .int n u) (hz : items.size ≤ 63)
    (h : ∀ s', Go s₁ true s s' → R (.ok (.ret (.bool true))) s') :
    codeAny (model PG w) A (.call (.ref 387) ⟨[.ref LST], []⟩) R s := by
  refine enterP (binds := [("script", .ref LST)]) F.f_law B (Go.start (t := true) G) r (fun _ _ _ _ _ => BindsTo.of_eq rfl) (by rfl) fun s₂ L E' r₂ G₂ _ kp hL hn hcl => ?_
  have c1 := hcl "told" (L + 1) (by rfl)
  have c2 := hcl "at" (L + 2) (by rfl)
  have c3 := hcl "words" (L + 3) (by rfl)
  have c4 := hcl "jaccard" (L + 4) (by rfl)
  have c5 := hcl "one" (L + 5) (by rfl)
  have c6 := hcl "other" (L + 6) (by rfl)
  have c7 := hcl "far" (L + 7) (by rfl)
  have c8 := hcl "i" (L + 8) (by rfl)
  have c9 := hcl "j" (L + 9) (by rfl)
  have c10 := hcl "first" (L + 10) (by rfl)
  have c11 := hcl "second" (L + 11) (by rfl)
  have c12 := hcl "due" (L + 12) (by rfl)
  have hfa : ∀ a ∈ FA L, s.heap.get? a = none := by
    intro a ha
    unfold FA at ha
    simp only [List.mem_cons, List.not_mem_nil, or_false] at ha
    rcases ha with q | q | q | q | q | q | q | q | q | q | q | q | q <;> rw [q]
    · exact hL
    · exact c1.1
    · exact c2.1
    · exact c3.1
    · exact c4.1
    · exact c5.1
    · exact c6.1
    · exact c7.1
    · exact c8.1
    · exact c9.1
    · exact c10.1
    · exact c11.1
    · exact c12.1
  have hLM : LM (bindL (frameEnv "law" lawFd L 387 386).kindOf [("script", .ref LST)] fun _ => none) {} := ⟨by rfl, by rfl, by rfl, by rfl, by rfl, by rfl, by rfl, by rfl, by rfl, by rfl⟩
  have fm : Fm s₂.heap L {} {} := ⟨⟨_, hn, hLM⟩, c1.2, c2.2, c3.2, c4.2, c5.2, c6.2, c7.2, c8.2, c9.2, c10.2, c11.2, c12.2⟩
  show wpAny _ _ (execs (lawS 0 :: lawS 1 :: lawS 2 :: lawS 3 :: lawS 4 :: lawS 5 :: lawS 6 :: lawS 7 :: lawS 8 :: []) _) _ _ _
  refine wpAny_execs_cons (c_s0 B G G₂ r₂.h hn (by rfl) hLM (hT.at fun o e => kp _ _ e) hI hz fm hfa fun s3 TA AT its u3 g3 f3 T3 hAT3 nAT => ?_)
  refine wpAny_execs_cons (c_s1 (n := n + 17) F KLL B G g3 r₂ f3 T3 hAT3 nAT (by decide) rfl rfl hfa fun s4 sets u4 g4 f4 T4 hAT4 => ?_)
  refine wpAny_execs_cons (c_s2 (n := n + 17) F KLL B G g4 r₂ f4 T4 hAT4 nAT (by decide) rfl rfl hfa fun s5 WL W k5 u5 g5 f5 T5 hAT5 hk5 hW5 hne5 nWL wd5 => ?_)
  refine wpAny_execs_cons (c_s3 (n := n + 17) F KLL B G g5 r₂ f5 T5 hAT5 nAT (by omega) rfl rfl rfl hW5 hne5 nWL wd5 fun s6 W g6 f6 hW6 wd6 => ?_)
  obtain ⟨C, U, S, pf⟩ := PL sets W wd6
  have x6 : St s₁ s L (fun h => Wl h WL W) _ _ s6 := ⟨g6, f6, hW6⟩
  refine wpAny_execs_cons (c_s4 (n := n + 17) F D C4 B G r₂ hfa Stb.wl x6 rfl fun s7 j so ov x7 => ?_)
  have X7 : Stb L (fun h => (Wl h WL W ∧ Ob 270 sets j h) ∧ Ob 304 sets so h ∧ Ob 368 sets ov h) := (Stb.wl.and .ob).and (Stb.ob.and .ob)
  refine wpAny_execs_cons (c_s5 (n := n + 17) F D C4 B G r₂ hfa X7 x7 rfl fun s8 p hh un x8 => ?_)
  have x8' : St s₁ s L (Obs sets WL W j so ov p hh un) _ _ s8 := ⟨x8.go, x8.fm, x8.o.1.1.1.1, x8.o.1.1.1.2, x8.o.1.1.2.1, x8.o.1.1.2.2, x8.o.1.2, x8.o.2.1, x8.o.2.2⟩
  refine wpAny_execs_cons (c_s6 (n := n) F C4 B G r₂ hfa x8' pf.pp rfl rfl fun s9 FL x9 => ?_)
  refine wpAny_execs_cons (c_loops (n := n) F C4 KLL B G r₂ hfa pf (Stb.obs.and .far) (fun h o => o) x9 ⟨rfl, rfl, rfl, rfl, rfl, rfl, rfl, rfl, rfl⟩ fun s10 l' c' x10 => ?_)
  exact wpAny_execs_cons (wpAny_Return_some (wpAny_Constant_bool (h _ x10.go)))
end
end Mine
end

noncomputable section
open PySem PySem.Calls PySem.W PyProof.Rows Builtin Builtin.ObjectAttr
set_option maxRecDepth 100000
set_option maxHeartbeats 4000000
namespace Mine
/-! ## the plain law: bags -/
theorem get_put (b : Bag) (k : Str) (n : Int) (x : Str) : (b.put k n).get x = if x = k then some n else b.get x := by
  induction b with
  | nil =>
    show List.lookup x [(k, n)] = _
    rw [List.lookup_cons]
    by_cases h : x = k
    · rw [if_pos h, beq_iff_eq.mpr h]
    · rw [if_neg h, beq_eq_false_iff_ne.mpr h]; rfl
  | cons p r ih =>
    obtain ⟨k', n'⟩ := p
    unfold Bag.put
    by_cases hk : k' = k
    · rw [if_pos hk]
      subst hk
      show List.lookup x ((k', n) :: r) = if x = k' then _ else List.lookup x ((k', n') :: r)
      rw [List.lookup_cons, List.lookup_cons]
      by_cases h : x = k'
      · rw [if_pos h, beq_iff_eq.mpr h]
      · rw [if_neg h, beq_eq_false_iff_ne.mpr h]
    · rw [if_neg hk]
      show List.lookup x ((k', n') :: Bag.put r k n) = if x = k then _ else List.lookup x ((k', n') :: r)
      rw [List.lookup_cons, List.lookup_cons]
      by_cases h : x = k'
      · rw [beq_iff_eq.mpr h, if_neg (fun q => hk (h ▸ q))]
      · rw [beq_eq_false_iff_ne.mpr h]; exact ih
def keys (b : Bag) : List Str := b.map (·.1)
theorem keys_put (b : Bag) (k : Str) (n : Int) : keys (b.put k n) = if k ∈ keys b then keys b else keys b ++ [k] := by
  induction b with
  | nil => rfl
  | cons p r ih =>
    obtain ⟨k', n'⟩ := p
    unfold Bag.put
    by_cases hk : k' = k
    · rw [if_pos hk]; subst hk
      rw [if_pos (show k' ∈ keys ((k', n') :: r) from .head _)]; rfl
    · rw [if_neg hk]
      show k' :: keys (Bag.put r k n) = if k ∈ k' :: keys r then _ else _
      rw [ih]
      by_cases h : k ∈ keys r
      · rw [if_pos h, if_pos (.tail _ h)]; rfl
      · rw [if_neg h, if_neg (by simp only [List.mem_cons, not_or]; exact ⟨fun q => hk q.symm, h⟩)]; rfl
theorem nodup_put {b : Bag} (h : (keys b).Nodup) (k : Str) (n : Int) : (keys (b.put k n)).Nodup := by
  rw [keys_put]
  split
  · exact h
  · rename_i hk
    rw [List.nodup_append]
    exact ⟨h, by simp, fun a ha c hc => by simp at hc; subst hc; exact fun q => hk (q ▸ ha)⟩
theorem mem_keys (b : Bag) (k : Str) : k ∈ keys b ↔ b.get k ≠ none := by
  induction b with
  | nil => simp [keys, Bag.get]
  | cons p r ih =>
    obtain ⟨k', n'⟩ := p
    show k ∈ k' :: keys r ↔ List.lookup k ((k', n') :: r) ≠ none
    rw [List.mem_cons, List.lookup_cons]
    by_cases h : k = k'
    · rw [beq_iff_eq.mpr h]; simp [h]
    · rw [beq_eq_false_iff_ne.mpr h]
      exact ⟨fun q => q.elim (fun q => (h q).elim) ih.mp, fun q => .inr (ih.mpr q)⟩
/-- what a bag holds -/
structure Rep (b : Bag) (f : Str → Nat) : Prop where
  nd : (keys b).Nodup
  get : ∀ k, b.get k = if f k = 0 then none else some (f k : Int)
theorem Rep.nil : Rep [] (fun _ => 0) := ⟨List.nodup_nil, fun _ => rfl⟩
theorem Rep.mem {b : Bag} {f : Str → Nat} (r : Rep b f) (k : Str) : k ∈ keys b ↔ f k ≠ 0 := by
  rw [mem_keys, r.get]
  by_cases h : f k = 0
  · rw [if_pos h]; simp [h]
  · rw [if_neg h]; simp [h]
theorem Rep.getD {b : Bag} {f : Str → Nat} (r : Rep b f) (k : Str) : (b.get k).getD 0 = (f k : Int) := by
  rw [r.get]
  by_cases h : f k = 0
  · rw [if_pos h, h]; rfl
  · rw [if_neg h]; rfl
theorem rep_add : ∀ (l : List Str) (b : Bag) (f : Str → Nat), Rep b f → Rep (l.foldl Bag.add1 b) (fun k => f k + l.count k)
  | [], b, f, r => by simpa using r
  | y :: l, b, f, r => by
    have r1 : Rep (Bag.add1 b y) (fun k => f k + if k = y then 1 else 0) := by
      refine ⟨nodup_put r.nd _ _, fun k => ?_⟩
      unfold Bag.add1
      rw [get_put, r.getD]
      by_cases h : k = y
      · subst h
        rw [if_pos rfl, if_pos rfl, if_neg (by omega)]
        push_cast; rfl
      · rw [if_neg h, r.get, if_neg h, Nat.add_zero]
    have := rep_add l _ _ r1
    refine ⟨this.nd, fun k => ?_⟩
    have e : f k + (y :: l).count k = f k + (if k = y then 1 else 0) + l.count k := by
      rw [List.count_cons]
      by_cases h : k = y
      · subst h; simp; omega
      · rw [if_neg h]
        have : (y == k) = false := beq_eq_false_iff_ne.mpr fun q => h q.symm
        rw [this]; simp
    show _ = if f k + (y :: l).count k = 0 then none else some ((f k + (y :: l).count k : Nat) : Int)
    rw [e]
    exact this.get k
theorem rep_bagOf (x : Str) : Rep (bagOf x) (fun k => (signs x).count k) := by
  have := rep_add (signs x) [] _ .nil
  simp only [Nat.zero_add] at this
  exact this
/-- a fold whose steps look at the key alone -/
def gs (v : Str → Option Int) (acc : Bag) (p : Str × Int) : Bag := match v p.1 with
  | some n => acc.put p.1 n
  | none => acc
theorem gs_fold (v : Str → Option Int) : ∀ (l : Bag) (acc : Bag), (keys acc).Nodup → (keys (l.foldl (gs v) acc)).Nodup ∧ ∀ k, (l.foldl (gs v) acc).get k = if k ∈ keys l ∧ v k ≠ none then v k else acc.get k
  | [], acc, h => ⟨h, fun k => by simp [keys]⟩
  | (y, n) :: l, acc, h => by
    have h1 : (keys (gs v acc (y, n))).Nodup := by
      unfold gs
      split
      · exact nodup_put h _ _
      · exact h
    have h2 : ∀ k, (gs v acc (y, n)).get k = if k = y ∧ v k ≠ none then v k else acc.get k := by
      intro k
      unfold gs
      dsimp only
      cases hv : v y with
      | some m =>
        dsimp only
        rw [get_put]
        by_cases e : k = y
        · subst e; rw [if_pos rfl, if_pos ⟨rfl, by rw [hv]; simp⟩, hv]
        · rw [if_neg e, if_neg (fun q => e q.1)]
      | none =>
        dsimp only
        rw [if_neg]
        rintro ⟨rfl, q⟩
        exact q hv
    obtain ⟨a, b⟩ := gs_fold v l _ h1
    refine ⟨a, fun k => ?_⟩
    show (l.foldl (gs v) (gs v acc (y, n))).get k = if k ∈ y :: keys l ∧ v k ≠ none then v k else acc.get k
    rw [b k, h2 k]
    by_cases q1 : v k = none
    · rw [if_neg (fun z => z.2 q1), if_neg (fun z => z.2 q1), if_neg (fun z => z.2 q1)]
    · by_cases q2 : k ∈ keys l
      · rw [if_pos ⟨q2, q1⟩, if_pos ⟨.tail _ q2, q1⟩]
      · rw [if_neg (fun z => q2 z.1)]
        by_cases q3 : k = y
        · rw [if_pos ⟨q3, q1⟩, if_pos ⟨q3 ▸ .head _, q1⟩]
        · rw [if_neg (fun z => q3 z.1), if_neg]
          rintro ⟨z, _⟩
          rcases List.mem_cons.mp z with z | z
          · exact q3 z
          · exact q2 z
theorem rep_fold {b : Bag} {f g : Str → Nat} (v : Str → Option Int) (r : Rep b f) (hv : ∀ k, f k ≠ 0 → v k = if g k = 0 then none else some (g k : Int)) (h0 : ∀ k, f k = 0 → g k = 0) : Rep (b.foldl (gs v) []) g := by
  obtain ⟨n, e⟩ := gs_fold v b [] List.nodup_nil
  refine ⟨n, fun k => ?_⟩
  rw [e k]
  by_cases hf : f k = 0
  · have : k ∉ keys b := fun q => (r.mem k).mp q hf
    rw [if_neg (fun z => this z.1), if_pos (h0 k hf)]; rfl
  · rw [hv k hf]
    by_cases hg : g k = 0
    · rw [if_pos hg]; simp; rfl
    · rw [if_neg hg, if_pos ⟨(r.mem k).mpr hf, by simp⟩]
theorem foldl_ext {α β : Type} {f g : α → β → α} (h : ∀ a b, f a b = g a b) : ∀ (l : List β) (a : α), l.foldl f a = l.foldl g a
  | [], _ => rfl
  | b :: l, a => by rw [List.foldl_cons, List.foldl_cons, h, foldl_ext h l]
theorem rep_cp {b : Bag} {f : Str → Nat} (r : Rep b f) : Rep (cp b) f := by
  have := rep_fold (g := f) (fun k => some ((b.get k).getD 0)) r (fun k hk => by rw [if_neg hk, r.getD]) (fun _ h => h)
  unfold cp Bag.copyTo
  exact this
theorem rep_and {a b : Bag} {f g : Str → Nat} (r : Rep a f) (t : Rep b g) : Rep (andB a b) (fun k => min (f k) (g k)) := by
  have key := rep_fold (g := fun k => min (f k) (g k)) (fun k => match b.get k with
    | some m => if 0 < lo ((a.get k).getD 0) m then some (lo ((a.get k).getD 0) m) else none
    | none => none) r (fun k hk => by
      rw [t.get, r.getD]
      by_cases hg : g k = 0
      · rw [if_pos hg]
        dsimp only
        rw [if_pos (by omega)]
      · rw [if_neg hg]
        dsimp only
        rw [lo_min, if_pos (by omega), if_neg (by omega)]) (fun k hk => by omega)
  unfold andB
  rw [foldl_ext (g := gs _) (fun acc p => ?_)]
  · exact key
  · unfold andStep gs
    dsimp only
    cases b.get p.1 with
    | none => rfl
    | some m => dsimp only; split <;> rfl
theorem hi_max (a b : Nat) : hi (a : Int) (b : Int) = ((max a b : Nat) : Int) := by unfold hi; split <;> omega
theorem orB_fold (b : Bag) : ∀ (l : Bag) (acc : Bag), (keys acc).Nodup → (keys (l.foldl (orB b) acc)).Nodup ∧ ∀ k, (l.foldl (orB b) acc).get k = (acc.get k).or (if k ∈ keys l then some ((b.get k).getD 0) else none)
  | [], acc, h => ⟨h, fun k => by
      show acc.get k = _
      rw [if_neg (by simp [keys])]
      cases acc.get k <;> rfl⟩
  | (y, n) :: l, acc, h => by
    have h1 : (keys (orB b acc (y, n))).Nodup := by
      unfold orB
      split
      · exact h
      · exact nodup_put h _ _
    have h2 : ∀ k, (orB b acc (y, n)).get k = (acc.get k).or (if k = y then some ((b.get k).getD 0) else none) := by
      intro k
      unfold orB
      dsimp only
      cases hs : acc.get y with
      | some m =>
        simp only [Option.isSome_some, if_true]
        cases q : acc.get k with
        | some m' => rfl
        | none => rw [if_neg (fun z => by rw [z, hs] at q; cases q)]; rfl
      | none =>
        simp only [Option.isSome_none, Bool.false_eq_true, if_false]
        rw [get_put]
        by_cases e : k = y
        · subst e; rw [if_pos rfl, hs, if_pos rfl]; rfl
        · rw [if_neg e, if_neg e]
          cases acc.get k <;> rfl
    obtain ⟨a, c⟩ := orB_fold b l _ h1
    refine ⟨a, fun k => ?_⟩
    show (l.foldl (orB b) (orB b acc (y, n))).get k = (acc.get k).or (if k ∈ y :: keys l then some ((b.get k).getD 0) else none)
    rw [c k, h2 k]
    cases acc.get k with
    | some m => rfl
    | none =>
      simp only [Option.none_or]
      by_cases e : k = y
      · have h3 : k ∈ y :: keys l := by rw [e]; exact .head _
        rw [if_pos e]
        exact (if_pos h3).symm
      · rw [if_neg e]
        simp only [Option.none_or]
        by_cases m : k ∈ keys l
        · rw [if_pos m, if_pos (.tail _ m)]
        · rw [if_neg m, if_neg]
          intro z
          rcases List.mem_cons.mp z with z | z
          · exact e z
          · exact m z
theorem rep_or {a b : Bag} {f g : Str → Nat} (r : Rep a f) (t : Rep b g) : Rep (orB' a b) (fun k => max (f k) (g k)) := by
  have r1 : Rep (orRows a b) (fun k => max (f k) (g k)) := by
    unfold orRows
    obtain ⟨n1, e1⟩ := gs_fold (fun k => some (hi ((a.get k).getD 0) ((b.get k).getD 0))) a [] List.nodup_nil
    have eA : a.foldl (orA a b) [] = a.foldl (gs fun k => some (hi ((a.get k).getD 0) ((b.get k).getD 0))) [] := foldl_ext (fun acc p => rfl) _ _
    rw [eA]
    obtain ⟨n2, e2⟩ := orB_fold b b _ n1
    refine ⟨n2, fun k => ?_⟩
    rw [e2 k, e1 k, r.getD, t.getD, hi_max]
    have eN : Bag.get [] k = none := rfl
    by_cases hf : f k = 0
    · have q : k ∉ keys a := fun z => (r.mem k).mp z hf
      have e3 : (if k ∈ keys a ∧ (some ((max (f k) (g k) : Nat) : Int)) ≠ none then some ((max (f k) (g k) : Nat) : Int) else Bag.get [] k) = none := by rw [if_neg (fun z => q z.1), eN]
      rw [e3]
      simp only [Option.none_or]
      by_cases hg : g k = 0
      · have q2 : k ∉ keys b := fun z => (t.mem k).mp z hg
        rw [if_neg q2, if_pos (by omega)]
      · rw [if_pos ((t.mem k).mpr hg), if_neg (by omega)]
        congr 2; omega
    · have e3 : (if k ∈ keys a ∧ (some ((max (f k) (g k) : Nat) : Int)) ≠ none then some ((max (f k) (g k) : Nat) : Int) else Bag.get [] k) = some ((max (f k) (g k) : Nat) : Int) := if_pos ⟨(r.mem k).mpr hf, by simp⟩
      have h4 : ¬ max (f k) (g k) = 0 := by omega
      rw [e3]
      exact (if_neg h4).symm
  have key := rep_fold (g := fun k => max (f k) (g k)) (fun k => if 0 < ((orRows a b).get k).getD 0 then some (((orRows a b).get k).getD 0) else none) r1 (fun k hk => by
    rw [r1.getD, if_neg hk, if_pos (by omega)]) (fun _ h => h)
  unfold orB'
  rw [foldl_ext (g := gs _) (fun acc p => ?_)]
  · exact key
  · unfold orC gs
    dsimp only
    split <;> rfl
theorem rep_inter {a b : Bag} {f g : Str → Nat} (r : Rep a f) (t : Rep b g) : Rep (interB a b) (fun k => min (f k) (g k)) := rep_cp (rep_and (rep_cp r) t)
theorem rep_union {a b : Bag} {f g : Str → Nat} (r : Rep a f) (t : Rep b g) : Rep (unionB a b) (fun k => max (f k) (g k)) := rep_cp (rep_or (rep_cp r) t)
end Mine
end

noncomputable section
open PySem PySem.Calls PySem.W PyProof.Rows Builtin Builtin.ObjectAttr
set_option maxRecDepth 100000
set_option maxHeartbeats 4000000
namespace Mine
/-! ## the plain law: counts -/
def nl (x k : Str) : Nat := (signs x).count k
def vv (sets : Bool) (x k : Str) : Nat := if sets then min 1 (nl x k) else nl x k
def SS (sets : Bool) (x : Str) : Nat := (letters.map (vv sets x)).sum
def CC (sets : Bool) (x y : Str) : Nat := (letters.map fun k => min (vv sets x k) (vv sets y k)).sum
def UU (sets : Bool) (x y : Str) : Nat := (letters.map fun k => max (vv sets x k) (vv sets y k)).sum
theorem letters_nodup : letters.Nodup := by rw [letters_eq]; decide
theorem filter_sum (f : Str → Nat) : ∀ l : List Str, ((l.filter fun k => f k != 0).map f).sum = (l.map f).sum
  | [] => rfl
  | y :: l => by
    rw [List.filter_cons]
    by_cases h : f y = 0
    · have : (f y != 0) = false := by rw [h]; rfl
      rw [this]
      simp only [Bool.false_eq_true, if_false, List.map_cons, List.sum_cons, h, Nat.zero_add]
      exact filter_sum f l
    · have : (f y != 0) = true := bne_iff_ne.mpr h
      rw [this]
      simp only [if_true, List.map_cons, List.sum_cons, filter_sum f l]
theorem filter_len (f : Str → Nat) : ∀ l : List Str, (l.filter fun k => f k != 0).length = (l.map fun k => min 1 (f k)).sum
  | [] => rfl
  | y :: l => by
    rw [List.filter_cons]
    by_cases h : f y = 0
    · have : (f y != 0) = false := by rw [h]; rfl
      rw [this]
      simp only [Bool.false_eq_true, if_false, List.map_cons, List.sum_cons, h, filter_len f l]
      omega
    · have : (f y != 0) = true := bne_iff_ne.mpr h
      rw [this]
      simp only [if_true, List.map_cons, List.sum_cons, List.length_cons, filter_len f l]
      omega
theorem ddp_nodup : ∀ (l σ : List Str), l.Nodup → (∀ k ∈ l, k ∉ σ) → l.foldl dd1 σ = σ ++ l
  | [], σ, _, _ => by simp
  | y :: l, σ, h, d => by
    have hy := List.nodup_cons.mp h
    have e : dd1 σ y = σ ++ [y] := by unfold dd1; rw [if_neg (d y (.head _))]
    rw [List.foldl_cons, e, ddp_nodup l (σ ++ [y]) hy.2 fun k hk q => ?_]
    · simp
    · rcases List.mem_append.mp q with q | q
      · exact d k (.tail _ hk) q
      · exact hy.1 (by rw [← List.mem_singleton.mp q]; exact hk)
theorem get_of_mem : ∀ (b : Bag), (keys b).Nodup → ∀ p ∈ b, b.get p.1 = some p.2
  | [], _, p, hp => nomatch hp
  | (k, n) :: r, h, p, hp => by
    have h' := List.nodup_cons.mp (show (k :: keys r).Nodup from h)
    show List.lookup p.1 ((k, n) :: r) = _
    rw [List.lookup_cons]
    rcases List.mem_cons.mp hp with rfl | hp
    · simp
    · have hk : p.1 ≠ k := fun q => h'.1 (q ▸ List.mem_map_of_mem hp)
      rw [beq_eq_false_iff_ne.mpr hk]
      exact get_of_mem r h'.2 p hp
theorem total_rep {b : Bag} {f : Str → Nat} (r : Rep b f) : b.total = (((keys b).map f).sum : Nat) := by
  have e : b.map (·.2) = (keys b).map fun k => (f k : Int) := by
    unfold keys
    rw [List.map_map]
    refine List.map_congr_left fun p hp => ?_
    have := get_of_mem b r.nd p hp
    rw [r.get] at this
    by_cases h : f p.1 = 0
    · rw [if_pos h] at this; cases this
    · rw [if_neg h] at this
      exact (Option.some.inj this).symm
  unfold Bag.total
  rw [e]
  have : ∀ l : List Str, (l.map fun k => (f k : Int)).sum = ((l.map f).sum : Nat) := by
    intro l
    induction l with
    | nil => rfl
    | cons y l ih => simp only [List.map_cons, List.sum_cons, ih]; push_cast; rfl
  exact this _
theorem cnt_rep {b : Bag} {f : Str → Nat} (sets : Bool) (r : Rep b f) (h0 : ∀ k, k ∉ letters → f k = 0) : cnt sets b = ((letters.map fun k => if sets then min 1 (f k) else f k).sum : Nat) := by
  have hp : (keys b).Perm (letters.filter fun k => f k != 0) := by
    refine (List.perm_ext_iff_of_nodup r.nd (letters_nodup.filter _)).mpr fun k => ?_
    rw [r.mem, List.mem_filter, bne_iff_ne]
    exact ⟨fun h => ⟨Classical.byContradiction fun q => h (h0 k q), h⟩, fun h => h.2⟩
  unfold cnt
  cases sets with
  | true =>
    simp only [if_true]
    have e : ddp (b.map (·.1)) = keys b := by
      have := ddp_nodup (keys b) [] r.nd fun k _ q => nomatch q
      simpa [ddp, keys] using this
    rw [e, hp.length_eq, filter_len]
  | false =>
    simp only [Bool.false_eq_true, if_false]
    rw [total_rep r, (hp.map f).sum_nat, filter_sum]
theorem sum_congr {f g : Str → Nat} (h : ∀ k, f k = g k) (l : List Str) : (l.map f).sum = (l.map g).sum := by
  have : f = g := funext h
  rw [this]
theorem mem_letters {y : Str} : y ∈ letters ↔ ∃ c, y = ⟨#[c]⟩ ∧ 97 ≤ c ∧ c ≤ 100 := by
  rw [letters_eq]
  constructor
  · intro h
    simp only [List.mem_cons, List.not_mem_nil, or_false] at h
    rcases h with rfl | rfl | rfl | rfl
    · exact ⟨97, rfl, by decide, by decide⟩
    · exact ⟨98, rfl, by decide, by decide⟩
    · exact ⟨99, rfl, by decide, by decide⟩
    · exact ⟨100, rfl, by decide, by decide⟩
  · rintro ⟨c, rfl, h1, h2⟩
    rcases (by omega : c = 97 ∨ c = 98 ∨ c = 99 ∨ c = 100) with rfl | rfl | rfl | rfl <;> simp
theorem Wd.mem {x : Str} (w : Wd x) : ∀ y ∈ signs x, y ∈ letters := by
  intro y hy
  unfold signs at hy
  obtain ⟨c, hc, rfl⟩ := List.mem_map.mp hy
  exact mem_letters.mpr ⟨c, rfl, w.2 c hc⟩
theorem Wd.off {x : Str} (w : Wd x) : ∀ k, k ∉ letters → nl x k = 0 := fun k hk => List.count_eq_zero_of_not_mem fun q => hk (w.mem k q)
theorem cts_of {x y : Str} (sets : Bool) (wx : Wd x) (wy : Wd y) : Cts sets x y (CC sets x y) (UU sets x y) (SS sets x) (SS sets y) := by
  have rx := rep_bagOf x
  have ry := rep_bagOf y
  refine ⟨?_, ?_, ?_, ?_⟩
  · rw [cnt_rep sets (rep_inter rx ry) fun k hk => by
      have := wx.off k hk; unfold nl at this; omega]
    unfold CC
    congr 1
    refine sum_congr (fun k => ?_) _
    unfold vv nl
    cases sets <;> simp <;> omega
  · rw [cnt_rep sets (rep_union rx ry) fun k hk => by
      have := wx.off k hk; have := wy.off k hk; unfold nl at *; omega]
    unfold UU
    congr 1
    refine sum_congr (fun k => ?_) _
    unfold vv nl
    cases sets <;> simp <;> omega
  · rw [cnt_rep sets rx fun k hk => wx.off k hk]
    rfl
  · rw [cnt_rep sets ry fun k hk => wy.off k hk]
    rfl
theorem len_counts : ∀ (l : List Str), (∀ y ∈ l, y ∈ letters) → l.length = (letters.map fun k => l.count k).sum
  | [], _ => by rw [letters_eq]; rfl
  | y :: l, h => by
    have ih := len_counts l fun z hz => h z (.tail _ hz)
    obtain ⟨c, rfl, h1, h2⟩ := mem_letters.mp (h y (.head _))
    rw [List.length_cons, ih, letters_eq]
    simp only [List.map_cons, List.map_nil, List.sum_cons, List.sum_nil, List.count_cons]
    rcases (by omega : c = 97 ∨ c = 98 ∨ c = 99 ∨ c = 100) with rfl | rfl | rfl | rfl <;> simp +decide <;> omega
theorem vv_le (sets : Bool) (x k : Str) : vv sets x k ≤ nl x k := by unfold vv; split <;> omega
theorem sizes {x : Str} (w : Wd x) : (letters.map (nl x)).sum = x.cps.size := by
  have := len_counts (signs x) w.mem
  have e : (signs x).length = x.cps.size := by unfold signs; simp
  rw [e] at this
  exact this.symm
theorem pi_of {x y : Str} (sets : Bool) (wx : Wd x) (wy : Wd y) : PI sets x y (CC sets x y) (UU sets x y) (SS sets x) (SS sets y) := by
  have sx := sizes wx
  have sy := sizes wy
  have w5 := wx.1
  have v5 := wy.1
  have z : ∀ z, vv sets z ⟨#[97]⟩ ≤ nl z ⟨#[97]⟩ ∧ vv sets z ⟨#[98]⟩ ≤ nl z ⟨#[98]⟩ ∧ vv sets z ⟨#[99]⟩ ≤ nl z ⟨#[99]⟩ ∧ vv sets z ⟨#[100]⟩ ≤ nl z ⟨#[100]⟩ := fun z => ⟨vv_le .., vv_le .., vv_le .., vv_le ..⟩
  have p : ∀ z k, vv sets z k = 0 → nl z k = 0 := fun z k h => by unfold vv at h; split at h <;> omega
  have zx := z x
  have zy := z y
  rw [letters_eq] at sx sy
  simp only [List.map_cons, List.map_nil, List.sum_cons, List.sum_nil] at sx sy
  refine ⟨w5, v5, cts_of sets wx wy, ?_, ?_, ?_, ?_, ?_, ?_, ?_, ?_⟩
  · unfold CC UU SS; rw [letters_eq]; simp only [List.map_cons, List.map_nil, List.sum_cons, List.sum_nil]; omega
  · unfold CC SS; rw [letters_eq]; simp only [List.map_cons, List.map_nil, List.sum_cons, List.sum_nil]; omega
  · unfold CC SS; rw [letters_eq]; simp only [List.map_cons, List.map_nil, List.sum_cons, List.sum_nil]; omega
  · unfold SS; rw [letters_eq]; simp only [List.map_cons, List.map_nil, List.sum_cons, List.sum_nil]; omega
  · unfold SS; rw [letters_eq]; simp only [List.map_cons, List.map_nil, List.sum_cons, List.sum_nil]; omega
  · have pa := p x ⟨#[97]⟩; have pb := p x ⟨#[98]⟩; have pc := p x ⟨#[99]⟩; have pd := p x ⟨#[100]⟩
    unfold SS; rw [letters_eq]; simp only [List.map_cons, List.map_nil, List.sum_cons, List.sum_nil]; omega
  · have pa := p y ⟨#[97]⟩; have pb := p y ⟨#[98]⟩; have pc := p y ⟨#[99]⟩; have pd := p y ⟨#[100]⟩
    unfold SS; rw [letters_eq]; simp only [List.map_cons, List.map_nil, List.sum_cons, List.sum_nil]; omega
  · rintro rfl
    unfold CC SS; rw [letters_eq]; simp only [List.map_cons, List.map_nil, List.sum_cons, List.sum_nil]; omega
end Mine
end

noncomputable section
open PySem PySem.Calls PySem.W PyProof.Rows Builtin Builtin.ObjectAttr
set_option maxRecDepth 100000
set_option maxHeartbeats 4000000
namespace Mine
/-! ## the plain law: what _law_bag gives; the metric -/
theorem contains_letter (x : Str) (c : Nat) : Txt.contains x ⟨#[c]⟩ = decide (c ∈ x.cps.toList) := StrLaws.found_one x c
theorem mem_signs (x : Str) (c : Nat) : (⟨#[c]⟩ : Str) ∈ signs x ↔ c ∈ x.cps.toList := by
  unfold signs
  rw [List.mem_map]
  constructor
  · rintro ⟨d, hd, e⟩
    have : d = c := by injection e with e; simpa using e
    exact this ▸ hd
  · intro h; exact ⟨c, h, rfl⟩
theorem bag_in {sets : Bool} {x : Str} {ss : List Str} (w : Wd x) (h : BagL sets x ss) : ∀ y ∈ ss, y ∈ letters := by
  unfold BagL at h
  cases sets with
  | true =>
    rw [if_pos rfl] at h
    subst h
    exact fun y hy => (List.mem_filter.mp hy).1
  | false =>
    rw [if_neg Bool.false_ne_true] at h
    exact fun y hy => w.mem y (h.1.mem_iff.mp hy)
theorem bag_count {sets : Bool} {x : Str} {ss : List Str} (h : BagL sets x ss) : ∀ y ∈ letters, ss.count y = vv sets x y := by
  intro y hy
  unfold BagL at h
  cases sets with
  | true =>
    rw [if_pos rfl] at h
    subst h
    obtain ⟨c, rfl, hc⟩ := mem_letters.mp hy
    have e1 : letters.count ⟨#[c]⟩ = 1 := by
      rw [letters_eq]
      rcases (by omega : c = 97 ∨ c = 98 ∨ c = 99 ∨ c = 100) with rfl | rfl | rfl | rfl <;> decide
    unfold vv
    rw [if_pos rfl]
    unfold nl
    by_cases hc : c ∈ x.cps.toList
    · rw [List.count_filter (by rw [contains_letter]; exact decide_eq_true hc), e1]
      have := List.count_pos_iff.mpr ((mem_signs x c).mpr hc)
      omega
    · rw [List.count_eq_zero_of_not_mem fun q => hc (by have := (List.mem_filter.mp q).2; rw [contains_letter] at this; exact of_decide_eq_true this)]
      rw [List.count_eq_zero_of_not_mem fun q => hc ((mem_signs x c).mp q)]
      rfl
  | false =>
    rw [if_neg Bool.false_ne_true] at h
    exact h.1.count_eq y
def cle (a b : Str) : Prop := ∀ x y, a = ⟨#[x]⟩ → b = ⟨#[y]⟩ → x ≤ y
theorem rising_pw : ∀ (l : List Str) (p : Str), (∀ y ∈ p :: l, y ∈ letters) → risingS p l = true → (p :: l).Pairwise cle
  | [], p, _, _ => by simp
  | y :: l, p, h, r => by
    unfold risingS at r
    rw [Bool.and_eq_true] at r
    have ih := rising_pw l y (fun z hz => h z (.tail _ hz)) r.2
    refine List.pairwise_cons.mpr ⟨fun z hz => ?_, ih⟩
    obtain ⟨a, rfl, _⟩ := mem_letters.mp (h p (.head _))
    obtain ⟨b, rfl, _⟩ := mem_letters.mp (h y (.tail _ (.head _)))
    have hab : a ≤ b := by
      have := r.1
      simp [Spec.ltCps] at this
      omega
    rintro u v e1 e2
    have hu : a = u := by injection e1 with e1; simpa using e1
    subst hu
    rcases List.mem_cons.mp hz with rfl | hz
    · have hv : b = v := by injection e2 with e2; simpa using e2
      omega
    · have := (List.pairwise_cons.mp ih).1 z hz b v rfl e2
      omega
theorem sorted_pw (l : List Str) (h : ∀ y ∈ l, y ∈ letters) (r : sortedS l = true) : l.Pairwise cle := by
  cases l with
  | nil => simp
  | cons p l => exact rising_pw l p h r
theorem bag_eq {sets : Bool} {x y : Str} {ss tt : List Str} (wx : Wd x) (wy : Wd y) (h1 : BagL sets x ss) (h2 : BagL sets y tt) : ss = tt ↔ ∀ k ∈ letters, vv sets x k = vv sets y k := by
  constructor
  · rintro rfl k hk
    rw [← bag_count h1 k hk, ← bag_count h2 k hk]
  · intro h
    have i1 := bag_in wx h1
    have i2 := bag_in wy h2
    have pm : ss.Perm tt := by
      rw [List.perm_iff_count]
      intro a
      by_cases ha : a ∈ letters
      · rw [bag_count h1 a ha, bag_count h2 a ha, h a ha]
      · rw [List.count_eq_zero_of_not_mem fun q => ha (i1 a q), List.count_eq_zero_of_not_mem fun q => ha (i2 a q)]
    cases sets with
    | true =>
      unfold BagL at h1 h2
      rw [if_pos rfl] at h1 h2
      subst h1 h2
      refine List.filter_congr fun k hk => ?_
      obtain ⟨c, rfl, _⟩ := mem_letters.mp hk
      have := h _ hk
      unfold vv at this
      rw [if_pos rfl, if_pos rfl] at this
      unfold nl at this
      rw [contains_letter, contains_letter]
      refine decide_eq_decide.mpr ?_
      rw [← mem_signs, ← mem_signs, ← List.count_pos_iff, ← List.count_pos_iff]
      omega
    | false =>
      have s1 : sortedS ss = true := by unfold BagL at h1; rw [if_neg Bool.false_ne_true] at h1; exact h1.2
      have s2 : sortedS tt = true := by unfold BagL at h2; rw [if_neg Bool.false_ne_true] at h2; exact h2.2
      refine List.Perm.eq_of_pairwise (le := cle) (fun a b ha hb l1 l2 => ?_) (sorted_pw ss i1 s1) (sorted_pw tt i2 s2) pm
      obtain ⟨c, rfl, _⟩ := mem_letters.mp (i1 a ha)
      obtain ⟨d, rfl, _⟩ := mem_letters.mp (i2 b hb)
      have q1 := l1 c d rfl rfl
      have q2 := l2 d c rfl rfl
      rw [show c = d by omega]
theorem Dn_zero {c u : Nat} (hu : u ≤ 10) (hcu : c ≤ u) : Dn c u = 0 ↔ c = u := by
  unfold Dn
  constructor
  · intro h
    rcases Nat.eq_zero_or_pos u with q | q
    · omega
    · rw [Nat.div_eq_zero_iff] at h
      omega
  · rintro rfl; rw [Nat.sub_self, Nat.mul_zero, Nat.zero_div]
/-- the distance, times the union: exact -/
theorem Dn_mul {c u : Nat} (hu : u ≤ 10) (h0 : 0 < u) : Dn c u * u = 27720 * (u - c) := by
  unfold Dn
  have : u ∣ 27720 := by
    rcases (by omega : u = 1 ∨ u = 2 ∨ u = 3 ∨ u = 4 ∨ u = 5 ∨ u = 6 ∨ u = 7 ∨ u = 8 ∨ u = 9 ∨ u = 10) with q | q | q | q | q | q | q | q | q | q <;> rw [q] <;> decide
  exact Nat.div_mul_cancel (Nat.dvd_trans this (Nat.dvd_mul_right ..))
theorem Dn_le (c u : Nat) : Dn c u ≤ 27720 := by
  unfold Dn
  rcases Nat.eq_zero_or_pos u with q | q
  · rw [q]; simp
  · exact Nat.div_le_of_le_mul (by rw [Nat.mul_comm]; exact Nat.mul_le_mul_right _ (Nat.sub_le _ _))
/-- T times the distance is at least what the exact one asks, T being no less than twice the union -/
theorem Dn_up {c u t : Nat} (hu : u ≤ 10) (ht : 2 * u ≤ t) : 55440 * (u - c) ≤ Dn c u * t := by
  rcases Nat.eq_zero_or_pos u with q | q
  · rw [q]; simp
  · have e := Dn_mul (c := c) hu q
    have : Dn c u * (2 * u) ≤ Dn c u * t := Nat.mul_le_mul_left _ ht
    have e2 : Dn c u * (2 * u) = 2 * (Dn c u * u) := by rw [Nat.mul_left_comm]
    rw [e2, e] at this
    omega
theorem Dn_down {c u t : Nat} (hu : u ≤ 10) (hcu : c ≤ u) (ht : 2 * u ≤ t) : Dn c u * t ≤ 55440 * (u - c) + 27720 * (t - 2 * u) := by
  rcases Nat.eq_zero_or_pos u with q | q
  · have : Dn c u = 0 := by unfold Dn; rw [q]; simp
    rw [this, Nat.zero_mul]; omega
  · have e := Dn_mul (c := c) hu q
    have e2 : Dn c u * t = Dn c u * (2 * u) + Dn c u * (t - 2 * u) := by rw [← Nat.mul_add]; congr 1; omega
    have e3 : Dn c u * (2 * u) = 2 * (Dn c u * u) := by rw [Nat.mul_left_comm]
    have e4 : Dn c u * (t - 2 * u) ≤ 27720 * (t - 2 * u) := Nat.mul_le_mul_right _ (Dn_le c u)
    rw [e2, e3, e]
    omega
/-- Steinhaus: from the distances p, q, r of bags of sizes a, b, c -/
theorem steinhaus {c1 u1 c2 u2 c3 u3 a b c : Nat} (h1 : u1 ≤ 10) (h2 : u2 ≤ 10) (h3 : u3 ≤ 10) (l1 : c1 ≤ u1) (l2 : c2 ≤ u2) (l3 : c3 ≤ u3)
    (s1 : c1 + u1 = a + c) (s2 : c2 + u2 = a + b) (s3 : c3 + u3 = b + c) (tri : u1 - c1 ≤ (u2 - c2) + (u3 - c3)) (bc : b ≤ c + (u3 - c3)) (ba : b ≤ a + (u2 - c2)) : Dn c1 u1 ≤ Dn c2 u2 + Dn c3 u3 := by
  -- the common bound
  have k2 : 2 * u2 ≤ a + c + (u2 - c2) + (u3 - c3) := by omega
  have k3 : 2 * u3 ≤ a + c + (u2 - c2) + (u3 - c3) := by omega
  have k1 : 2 * u1 ≤ a + c + (u2 - c2) + (u3 - c3) := by omega
  have q2 := Dn_up (c := c2) h2 k2
  have q3 := Dn_up (c := c3) h3 k3
  have q1 := Dn_down (c := c1) h1 l1 k1
  generalize hT : a + c + (u2 - c2) + (u3 - c3) = T at *
  rcases Nat.eq_zero_or_pos T with z | z
  · have : u1 = 0 := by omega
    rw [this]; unfold Dn; simp
  · refine Nat.le_of_mul_le_mul_right ?_ z
    rw [Nat.add_mul]
    omega
theorem tri1 (a b c : Nat) : max a c + min a b + min b c ≤ min a c + max a b + max b c := by omega
theorem tri_sum (f g h : Str → Nat) : ∀ l : List Str, (l.map fun k => max (f k) (h k)).sum + (l.map fun k => min (f k) (g k)).sum + (l.map fun k => min (g k) (h k)).sum ≤ (l.map fun k => min (f k) (h k)).sum + (l.map fun k => max (f k) (g k)).sum + (l.map fun k => max (g k) (h k)).sum
  | [] => Nat.le_refl _
  | y :: l => by
    have ih := tri_sum f g h l
    have t := tri1 (f y) (g y) (h y)
    simp only [List.map_cons, List.sum_cons]
    generalize max (f y) (h y) = a1 at *
    generalize min (f y) (g y) = a2 at *
    generalize min (g y) (h y) = a3 at *
    generalize min (f y) (h y) = a4 at *
    generalize max (f y) (g y) = a5 at *
    generalize max (g y) (h y) = a6 at *
    omega
theorem PLaw (sets : Bool) (W : Nat → Str) (wd : ∀ i, Wd (W i)) : ∃ C U S, PF sets W C U S := by
  refine ⟨fun i k => CC sets (W i) (W k), fun i k => UU sets (W i) (W k), fun i => SS sets (W i), ⟨⟨fun i k _ _ => pi_of sets (wd i) (wd k)⟩, ?_, ?_, ?_, ?_, ?_⟩⟩
  · intro i k ss tt _ _ h1 h2
    have p := pi_of sets (wd i) (wd k)
    have hu : UU sets (W i) (W k) ≤ 10 := by have := p.sum; have := p.a5; have := p.b5; omega
    have hcu : CC sets (W i) (W k) ≤ UU sets (W i) (W k) := by have := p.sum; have := p.ca; have := p.cb; omega
    rw [bag_eq (wd i) (wd k) h1 h2]
    show _ ↔ Dn (CC sets (W i) (W k)) (UU sets (W i) (W k)) = 0
    rw [Dn_zero hu hcu]
    unfold CC UU
    rw [letters_eq]
    simp only [List.map_cons, List.map_nil, List.sum_cons, List.sum_nil, List.mem_cons, List.not_mem_nil, or_false, forall_eq_or_imp, forall_eq]
    omega
  · intro i ss _ h1
    rw [len_counts ss (bag_in (wd i) h1)]
    unfold SS
    congr 1
    exact List.map_congr_left fun k hk => bag_count h1 k hk
  · intro i k ss tt _ _ h1 h2
    show _ = CC sets (W i) (W k)
    unfold CC
    congr 1
    exact List.map_congr_left fun y hy => by rw [bag_count h1 y hy, bag_count h2 y hy]
  · intro i k _ _
    show Dn (CC sets (W i) (W k)) (UU sets (W i) (W k)) = Dn (CC sets (W k) (W i)) (UU sets (W k) (W i))
    have e1 : CC sets (W i) (W k) = CC sets (W k) (W i) := by unfold CC; exact sum_congr (fun y => Nat.min_comm ..) _
    have e2 : UU sets (W i) (W k) = UU sets (W k) (W i) := by unfold UU; exact sum_congr (fun y => Nat.max_comm ..) _
    rw [e1, e2]
  · intro i k q _ _ _
    have p1 := pi_of sets (wd i) (wd k)
    have p2 := pi_of sets (wd i) (wd q)
    have p3 := pi_of sets (wd q) (wd k)
    have hu : ∀ {x y : Nat}, UU sets (W x) (W y) ≤ 10 ∧ CC sets (W x) (W y) ≤ UU sets (W x) (W y) := fun {x y} => by
      have p := pi_of sets (wd x) (wd y)
      have := p.sum; have := p.a5; have := p.b5; have := p.ca; have := p.cb
      omega
    refine steinhaus (a := SS sets (W i)) (b := SS sets (W q)) (c := SS sets (W k)) hu.1 hu.1 hu.1 hu.2 hu.2 hu.2 p1.sum p2.sum p3.sum ?_ ?_ ?_
    · have t := tri_sum (vv sets (W i)) (vv sets (W q)) (vv sets (W k)) letters
      have t' : UU sets (W i) (W k) + CC sets (W i) (W q) + CC sets (W q) (W k) ≤ CC sets (W i) (W k) + UU sets (W i) (W q) + UU sets (W q) (W k) := t
      have h1 := (hu (x := i) (y := k)).2
      have h2 := (hu (x := i) (y := q)).2
      have h3 := (hu (x := q) (y := k)).2
      omega
    · have := p3.sum; have := p3.ca; have := p3.cb; omega
    · have := p2.sum; have := p2.ca; have := p2.cb; omega
end Mine
end

noncomputable section
open PySem PySem.Calls PySem.W PyProof.Rows
set_option maxRecDepth 100000
set_option maxHeartbeats 8000000
namespace Mine
/-- the heap that the top leaves, without the tables -/
def nt (K : Frag) : Frag := K.filter fun p => !isTab p.2
noncomputable def inc : List Nat → Bool
  | a :: b :: r => decide (a < b) && inc (b :: r)
  | _ => true
theorem inc_tail {a : Nat} {r : List Nat} (h : inc (a :: r) = true) : inc r = true ∧ ∀ b ∈ r, a < b := by
  induction r generalizing a with
  | nil => exact ⟨rfl, fun _ h => nomatch h⟩
  | cons b r ih =>
    unfold inc at h
    rw [Bool.and_eq_true] at h
    have hab := of_decide_eq_true h.1
    refine ⟨h.2, fun c hc => ?_⟩
    rcases List.mem_cons.mp hc with rfl | hc
    · exact hab
    · exact Nat.lt_trans hab ((ih h.2).2 c hc)
theorem lookup_mem : ∀ {l : List (Addr × Obj)} {a : Addr} {o : Obj}, l.lookup a = some o → (a, o) ∈ l
  | [], _, _, h => by cases h
  | (b, p) :: r, a, o, h => by
    rw [List.lookup_cons] at h
    split at h
    · rename_i e
      cases h
      rw [beq_iff_eq.mp e]; exact .head _
    · exact .tail _ (lookup_mem h)
theorem nt_lookup : ∀ (K : Frag), inc (K.map (·.1)) = true → ∀ a o, (nt K).lookup a = some o → K.lookup a = some o ∧ isTab o = false
  | [], _, a, o, h => by cases h
  | (b, p) :: r, hi, a, o, h => by
    have hi' := inc_tail (show inc (b :: r.map (·.1)) = true from hi)
    unfold nt at h
    rw [List.filter_cons] at h
    cases ht : isTab p with
    | true =>
      rw [ht] at h
      simp only [Bool.not_true, Bool.false_eq_true, if_false] at h
      have ih := nt_lookup r hi'.1 a o h
      refine ⟨?_, ih.2⟩
      rw [List.lookup_cons]
      have hlt := hi'.2 a (List.mem_map_of_mem (f := (·.1)) (lookup_mem ih.1))
      have hne : (a == b) = false := beq_eq_false_iff_ne.mpr (Nat.ne_of_gt hlt)
      rw [hne]; exact ih.1
    | false =>
      rw [ht] at h
      simp only [Bool.not_false, if_true] at h
      rw [List.lookup_cons] at h ⊢
      cases e : (a == b) with
      | true => rw [e] at h; cases h; exact ⟨rfl, ht⟩
      | false => rw [e] at h; exact nt_lookup r hi'.1 a o h
/-- a code object and its table -/
def CT (K : Frag) (c P : Addr) : Prop := ∃ dd vs sl file tf flags tg inF text tt, K.lookup c = some ⟨.type "code", dd, .fields vs, sl⟩ ∧ vs.getD 11 .none = .ref P ∧ vs.getD 18 .none = .str file tf ∧
    vs.getD 7 .none = .int flags tg ∧ vs.getD 9 .none = .bool inF ∧ vs.getD 10 .none = .int text tt ∧ vs[11]? = some (.ref P) ∧ K.lookup P = some { cls := .none, data := .fields #[] } ∧ c ≠ P
theorem CT.ok {K : Frag} {c P : Addr} {h : Heap} (x : CT K c P) (X : K.In h) (pos : Pos) : TabOk h c P pos := by
  obtain ⟨dd, vs, sl, file, tf, flags, tg, inF, text, tt, h1, h2, h3, h4, h5, h6, h7, h8, h9⟩ := x
  exact ⟨#[], ⟨_, vs, file, tf, flags, tg, inF, text, tt, _, X _ _ h1, rfl, h2, h3, h4, h5, h6, X _ _ h8, rfl, by first | exact trivial | (unfold TriplesOk; simp) | simp, h9⟩, ⟨⟨_, vs, X _ _ h1, rfl, rfl, h7⟩, X _ _ h8⟩, .inl rfl⟩
structure Facts (K : Frag) : Prop where
  kf : KF (nt K)
  kg : KG (nt K)
  k4 : K4 (nt K)
  kl : KL (nt K)
  law : nsIn (nt K) mainGlobals "law" = some (some (.ref 387))
  t1 : CT K 169 167
  t2 : CT K 300 296
theorem ints_at {vs : List Value} {ns : List Int} (h : IntsAre vs ns) : ∀ (j : Nat) (x : Value), vs[j]? = some x → ∃ n u, x = .int n u := by
  induction h with
  | nil => intro j x e; simp at e
  | cons n t _ ih =>
    intro j x e
    cases j with
    | zero => cases e; exact ⟨n, t, rfl⟩
    | succ j => exact ih j x (by simpa using e)
theorem rm_caller : Rm callerA 20 := ⟨rfl, by decide +kernel, by decide +kernel⟩
theorem walk {view : Program} {loose : List Str} {XP : (Str → Option Value) → Heap → Prop} {K : Params → Frag} {as : List Addr} {e : ∀ P, as = (K P).map (·.1)} {d : DefRec} {kwd : List (Str × Expr)} (hname : d.name = "law") (hinc : inc as = true) (fc : ∀ P, Facts (K P)) :
    WalkO view loose XP (kHook K as e).says PySem.Challenge.rw_ag5024_01.row.toRowW d kwd (fun f vs => call f vs) := by
  intro w s₀ s₁ mg mb G Y fa o pm cd doc dV kV ho hd hcd hD hmg hg args vals as' hpre hlay hrd hwl hlo
  have KX := kIn_of Y
  refine Ground.open G ?_
  intro T B D TE TW
  wrow_args hpre hlay hrd hwl hlo
  rename_i ns _ _ _ _ _ _ _ LST vs _ hL _ _ _ hI _ hlen _
  have f := fc w.params
  have hK : inc ((K w.params).map (·.1)) = true := by rw [← e]; exact hinc
  have KN : (nt (K w.params)).In s₁.heap := fun a o q => KX a o (nt_lookup _ hK a o q).1
  have tabs : ∀ t ∈ TT, TabOk s₁.heap t.1 t.2.1 t.2.2 := by
    intro t ht
    unfold TT at ht
    simp only [List.mem_cons, List.not_mem_nil, or_false] at ht
    rcases ht with rfl | rfl
    · exact f.t1.ok KX _
    · exact f.t2.ok KX _
  have Ba : Base (nt (K w.params)) mg mb s₁ := ⟨KN, fun a o q => (nt_lookup _ hK a o q).2, T.g, T.b, T.builtins, T.nolimit, tabs⟩
  have hfa : fa = 387 := by
    have := mg_of KN T.g f.law
    rw [hname] at hmg
    rw [this] at hmg
    cases hmg; rfl
  subst hfa
  show wpAny (model PG w) callerA (call (.ref 387) [.ref LST]) _ _ s₁
  refine wpAny_call (c_law (n := 0) PLaw f.kf f.kg f.k4 f.kl Ba (Good.init tabs) rm_caller hL (fun j x hx => ?_) ?_ fun s' g => ?_)
  · exact ints_at hI j x (by simpa using hx)
  · have := hI.length
    simp
    omega
  · refine ⟨.inl ⟨.bool true, .bool true, [], rfl, fun _ => rfl, .bool true, ?_, fun _ => ⟨List.nodup_nil, fun _ h => nomatch h⟩⟩, g.good.old, g.good.os, g.good.gens (.of_eq hg)⟩
    first | rfl | wrow_post
end Mine
end

section
open PySem PySem.Calls PySem.W PyProof.Rows
set_option maxRecDepth 1000000 in
set_option maxHeartbeats 40000000 in
theorem PySem.Challenge.cw_ag5024_01_holds : PySem.Challenge.rw_ag5024_01.Holds := by
  w_on
  o_law
  x_head
  (case hw => w_witness2)
  refine Mine.walk rfl (by decide +kernel) fun P => ⟨?_, ?_, ?_, ?_, ?_, ?_, ?_⟩
  · constructor
    · exact ⟨⟨_, _, _, _, _, _, _, _, by rfl⟩, by rfl, by rfl, by rfl, by rfl, by rfl, by rfl⟩
    · exact ⟨⟨_, _, _, _, _, _, _, _, by rfl⟩, by rfl, by rfl, by rfl, by rfl, by rfl, by rfl⟩
    · exact ⟨⟨_, _, _, _, _, _, _, _, by rfl⟩, by rfl, by rfl, by rfl, by rfl, by rfl, by rfl⟩
    · exact ⟨⟨_, _, _, _, _, _, _, _, by rfl⟩, by rfl, by rfl, by rfl, by rfl, by rfl, by rfl⟩
    · exact ⟨⟨_, _, _, _, _, _, _, _, by rfl⟩, by rfl, by rfl, by rfl, by rfl, by rfl, by rfl⟩
    · exact ⟨⟨_, _, _, _, _, _, _, _, by rfl⟩, by rfl, by rfl, by rfl, by rfl, by rfl, by rfl⟩
    · exact ⟨⟨_, _, _, _, _, _, _, _, by rfl⟩, by rfl, by rfl, by rfl, by rfl, by rfl, by rfl⟩
    · exact ⟨⟨_, _, _, _, _, _, _, _, by rfl⟩, by rfl, by rfl, by rfl, by rfl, by rfl, by rfl⟩
    · exact ⟨⟨_, _, _, _, _, _, _, _, by rfl⟩, by rfl, by rfl, by rfl, by rfl, by rfl, by rfl⟩
    · exact ⟨⟨_, _, _, _, _, _, _, _, by rfl⟩, by rfl, by rfl, by rfl, by rfl, by rfl, by rfl⟩
    · exact ⟨⟨_, _, _, _, _, _, _, _, by rfl⟩, by rfl, by rfl, by rfl, by rfl, by rfl, by rfl⟩
    · exact ⟨⟨_, _, _, _, _, _, _, _, by rfl⟩, by rfl, by rfl, by rfl, by rfl, by rfl, by rfl⟩
    · exact ⟨⟨_, _, _, _, _, _, _, _, by rfl⟩, by rfl, by rfl, by rfl, by rfl, by rfl, by rfl⟩
    · exact ⟨⟨_, _, _, _, _, _, _, _, by rfl⟩, by rfl, by rfl, by rfl, by rfl, by rfl, by rfl⟩
    · exact ⟨⟨_, _, _, _, _, _, _, _, by rfl⟩, by rfl, by rfl, by rfl, by rfl, by rfl, by rfl⟩
    · exact ⟨⟨_, _, _, _, _, _, _, _, by rfl⟩, by rfl, by rfl, by rfl, by rfl, by rfl, by rfl⟩
    · exact ⟨⟨_, _, _, _, _, _, _, _, by rfl⟩, by rfl, by rfl, by rfl, by rfl, by rfl, by rfl⟩
    · exact ⟨⟨_, _, _, _, _, _, _, _, by rfl⟩, by rfl, by rfl, by rfl, by rfl, by rfl, by rfl⟩
    · exact ⟨⟨_, _, _, _, _, _, _, _, by rfl⟩, by rfl, by rfl, by rfl, by rfl, by rfl, by rfl⟩
    · exact ⟨⟨_, _, _, _, _, _, _, _, by rfl⟩, by rfl, by rfl, by rfl, by rfl, by rfl, by rfl⟩
    · exact ⟨⟨_, _, _, _, _, _, _, _, by rfl⟩, by rfl, by rfl, by rfl, by rfl, by rfl, by rfl⟩
    · exact ⟨⟨_, _, _, _, _, _, _, _, by rfl⟩, by rfl, by rfl, by rfl, by rfl, by rfl, by rfl⟩
    · exact ⟨⟨_, _, _, _, _, _, _, _, by rfl⟩, by rfl, by rfl, by rfl, by rfl, by rfl, by rfl⟩
    · exact ⟨⟨_, _, _, _, _, _, _, _, by rfl⟩, by rfl, by rfl, by rfl, by rfl, by rfl, by rfl⟩
    · exact ⟨⟨_, _, _, _, _, _, _, _, by rfl⟩, by rfl, by rfl, by rfl, by rfl, by rfl, by rfl⟩
    · exact ⟨⟨_, _, _, _, _, _, _, _, by rfl⟩, by rfl, by rfl, by rfl, by rfl, by rfl, by rfl⟩
    · exact ⟨⟨_, _, _, _, _, _, _, _, by rfl⟩, by rfl, by rfl, by rfl, by rfl, by rfl, by rfl⟩
    · exact ⟨⟨_, _, _, _, _, _, _, _, by rfl⟩, by rfl, by rfl, by rfl, by rfl, by rfl, by rfl⟩
    · exact ⟨⟨_, _, _, _, _, _, _, _, by rfl⟩, by rfl, by rfl, by rfl, by rfl, by rfl, by rfl⟩
    · exact ⟨by rfl, by rfl, by rfl, by rfl, by rfl, by rfl, .inr ⟨_, rfl, by rfl⟩⟩
    · exact ⟨_, _, _, _, by rfl⟩
    · rfl
    · rfl
    · rfl
    · rfl
    · rfl
    · rfl
    · rfl
    · rfl
    · rfl
    · rfl
    · rfl
    · rfl
    · rfl
    · rfl
    · rfl
    · rfl
    · rfl
    · rfl
    · rfl
    · rfl
    · rfl
    · rfl
    · rfl
    · rfl
    · rfl
    · rfl
    · rfl
    · rfl
    · rfl
    · rfl
    · rfl
    · rfl
    · rfl
    · exact ⟨_, by rfl, by rfl⟩
    · first | exact .inl (by rfl) | exact .inr ⟨_, by rfl⟩
    · rfl
    · rfl
    · rfl
    · rfl
    · rfl
    · rfl
    · rfl
    · exact ⟨_, by rfl⟩
    · rfl
  · constructor
    · rfl
    · rfl
    · rfl
    · rfl
    · exact ⟨_, _, _, _, _, by rfl⟩
    · exact ⟨_, _, _, _, _, by rfl⟩
    · exact ⟨_, _, _, _, _, by rfl⟩
    · exact ⟨_, _, _, _, _, by rfl⟩
  · constructor
    · exact ⟨by rfl, by rfl, by rfl, by rfl, by rfl, by rfl, by rfl, by rfl, by rfl, by rfl, by rfl, by rfl, by rfl, by rfl, by rfl, by rfl, by rfl, by rfl, by rfl, by rfl, by rfl, by rfl, by rfl⟩
    · exact ⟨by rfl, by rfl, by rfl, by rfl, by rfl, by rfl, by rfl, by rfl, by rfl, by rfl, by rfl, by rfl, by rfl, by rfl, by rfl, by rfl, by rfl, by rfl, by rfl, by rfl, by rfl, by rfl, by rfl⟩
    · exact ⟨by rfl, by rfl, by rfl, by rfl, by rfl, by rfl, by rfl, by rfl, by rfl, by rfl, by rfl, by rfl, by rfl, by rfl, by rfl, by rfl, by rfl, by rfl, by rfl, by rfl, by rfl, by rfl, by rfl⟩
    · exact ⟨by rfl, by rfl, by rfl, by rfl, by rfl, by rfl, by rfl, by rfl, by rfl, by rfl, by rfl, by rfl, by rfl, by rfl, by rfl, by rfl, by rfl, by rfl, by rfl, by rfl, by rfl, by rfl, by rfl⟩
    · exact ⟨by rfl, by rfl⟩
    · exact ⟨by rfl, by rfl⟩
    · exact ⟨by rfl, by rfl⟩
    · exact ⟨by rfl, by rfl⟩
  · constructor
    · rfl
    · rfl
  · rfl
  · exact ⟨_, _, _, _, _, _, _, _, _, _, by rfl, by rfl, by rfl, by rfl, by rfl, by rfl, by rfl, by rfl, by decide⟩
  · exact ⟨_, _, _, _, _, _, _, _, _, _, by rfl, by rfl, by rfl, by rfl, by rfl, by rfl, by rfl, by rfl, by decide⟩
end
