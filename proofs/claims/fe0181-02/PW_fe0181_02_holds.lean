import PyProof.Rows.All
import Wide.All
import OpenK.AllK
import Wide.FinOn
import PySem.Challenge.RW_fe0181_02
set_option Elab.async false
section
open PySem PySem.W PyProof.Rows
set_option Elab.async false
set_option maxRecDepth 100000
set_option maxHeartbeats 8000000
namespace Mine
open_top hd2 for PySem.Challenge.rw_fe0181_02
end Mine
end
section
open PySem PySem.W PyProof.Rows PySem.Calls
set_option Elab.async false
set_option maxRecDepth 100000
set_option maxHeartbeats 8000000
namespace Mine
theorem fill0 : (fun (_ : OpenLaw) (_ : Params → Frag) => True) PySem.Challenge.rw_fe0181_02 hd2.heap_39 := by
  k_fill; trivial

/-- a partial map of objects that never change -/
abbrev PM := Addr → Option Obj
def PM.le (g g' : PM) : Prop := ∀ a o, g a = some o → g' a = some o
def PM.on (g : PM) (h : Heap) : Prop := ∀ a o, g a = some o → h.get? a = some o
def PM.ins (g : PM) (a : Addr) (o : Obj) : PM := fun b => if b = a then some o else g b
theorem PM.le.refl {g : PM} : g.le g := fun _ _ e => e
theorem PM.le.trans {g g' g'' : PM} (x : g.le g') (y : g'.le g'') : g.le g'' := fun a o e => y a o (x a o e)
theorem PM.on.of_le {g g' : PM} {h : Heap} (x : g'.on h) (y : g.le g') : g.on h := fun a o e => x a o (y a o e)
theorem PM.on.keeps {g : PM} {h h' : Heap} (x : g.on h) (k : ∀ b o, h.get? b = some o → h'.get? b = some o) : g.on h' := fun a o e => k a o (x a o e)

/-- g' is g and things made at or above k -/
structure Ext (k : Nat) (g g' : PM) : Prop where
  le : g.le g'
  new : ∀ a o, g' a = some o → g a = some o ∨ k ≤ a
theorem Ext.refl {k : Nat} {g : PM} : Ext k g g := ⟨.refl, fun _ _ e => .inl e⟩
theorem Ext.trans {k k' : Nat} {g g' g'' : PM} (x : Ext k g g') (y : Ext k' g' g'') (hk : k ≤ k') : Ext k g g'' :=
  ⟨x.le.trans y.le, fun a o e => (y.new a o e).elim (fun q => x.new a o q) fun q => .inr (Nat.le_trans hk q)⟩
theorem Ext.ins {k : Nat} {g : PM} {a : Addr} {o : Obj} (hk : k ≤ a) (hg : g a = none) : Ext k g (g.ins a o) :=
  ⟨fun b x e => by
    unfold PM.ins
    by_cases q : b = a
    · subst q; rw [hg] at e; cases e
    · rw [if_neg q]; exact e, fun b x e => by
    unfold PM.ins at e
    by_cases q : b = a
    · exact .inr (q ▸ hk)
    · rw [if_neg q] at e; exact .inl e⟩
theorem PM.ins_self (g : PM) (a : Addr) (o : Obj) : g.ins a o a = some o := by simp [PM.ins]

structure Gd (w : World) (h : Heap) : Prop where
  K : (hd2.heap_39 w.params).In h
  top : ∃ p loose mg mb, TopRead p loose mg mb h
theorem Gd.keeps {w : World} {h h' : Heap} (G : Gd w h) (k : ∀ b o, h.get? b = some o → h'.get? b = some o) : Gd w h' :=
  ⟨G.K.keeps k, let ⟨p, l, mg, mb, T⟩ := G.top; ⟨p, l, mg, mb, T.keeps k⟩⟩
theorem Gd.nolimit {w : World} {h : Heap} (G : Gd w h) : h.NoLimit := let ⟨_, _, _, _, T⟩ := G.top; T.nolimit

/-- what a pure call leaves behind -/
structure Grow (s s' : Shared) : Prop where
  keep : ∀ b o, s.heap.get? b = some o → s'.heap.get? b = some o
  gens : ∀ (i : Nat) (x : GenState), s.gens[i]? = some x → s'.gens[i]? = some x
  bare : AllBare s.gens → AllBare s'.gens
  size : s.heap.objs.size ≤ s'.heap.objs.size
  os : s'.os = s.os
theorem Grow.refl {s : Shared} : Grow s s := ⟨fun _ _ e => e, fun _ _ e => e, id, Nat.le_refl _, rfl⟩
theorem Grow.trans {s s' s'' : Shared} (x : Grow s s') (y : Grow s' s'') : Grow s s'' :=
  ⟨fun b o e => y.keep b o (x.keep b o e), fun i z e => y.gens i z (x.gens i z e), fun b => y.bare (x.bare b), Nat.le_trans x.size y.size, y.os.trans x.os⟩

/-- a frame at L with locals m, off the frozen part g; h₀ is the heap at the call -/
structure Fx (w : World) (h₀ : Heap) (g : PM) (L : Addr) (h : Heap) (m : Str → Option Value) : Prop where
  ns : h.Ns L m
  on : g.on h
  off : g L = none
  keep : ∀ b o, h₀.get? b = some o → h.get? b = some o
  above : h₀.objs.size ≤ L
  gd₀ : Gd w h₀

section
variable {w : World} {h₀ h h' : Heap} {g g' : PM} {L : Addr} {m m' : Str → Option Value} {s s' : Shared}
theorem Fx.gd (F : Fx w h₀ g L h m) : Gd w h := F.gd₀.keeps F.keep
theorem Fx.lt (F : Fx w h₀ g L h m) : h₀.objs.size < h.objs.size := Nat.lt_of_le_of_lt F.above F.ns.lt
theorem Fx.set (F : Fx w h₀ g L h m) (hn : h'.Ns L m') (hs : Heap.SameBut L h h') : Fx w h₀ g L h' m' :=
  ⟨hn, fun a o e => (hs.2 a (fun q => by rw [q, F.off] at e; cases e)).trans (F.on a o e), F.off,
    fun a o e => (hs.2 a (Nat.ne_of_lt (Nat.lt_of_lt_of_le (Heap.lt_size e) F.above))).trans (F.keep a o e), F.above, F.gd₀⟩
/-- behind a pure call -/
theorem Fx.after (F : Fx w h₀ g L s.heap m) (Gr : Grow s s') (X : Ext s.heap.objs.size g g') (on : g'.on s'.heap) : Fx w h₀ g' L s'.heap m :=
  ⟨F.ns.keeps Gr.keep, on, by
    cases q : g' L with
    | none => rfl
    | some o => exact (X.new _ _ q).elim (fun e => by rw [F.off] at e; cases e) fun e => absurd F.ns.lt (Nat.not_lt.mpr e),
    fun b o e => Gr.keep b o (F.keep b o e), F.above, F.gd₀⟩
theorem Fx.after0 (F : Fx w h₀ g L s.heap m) (Gr : Grow s s') : Fx w h₀ g L s'.heap m := F.after Gr .refl (F.on.keeps Gr.keep)
theorem Fx.wid (F : Fx w h₀ g L h m) (on : g'.on h) (off : g' L = none) : Fx w h₀ g' L h m := ⟨F.ns, on, off, F.keep, F.above, F.gd₀⟩
/-- a new object, frozen -/
theorem Fx.push (F : Fx w h₀ g L h m) (o : Obj) (hf : o.isFreed = false := by rfl) : Fx w h₀ (g.ins h.objs.size o) L (h.push o) m :=
  ⟨F.ns.keeps fun b x e => Heap.get?_push_of_some _ e, fun b x e => by
    unfold PM.ins at e
    by_cases q : b = h.objs.size
    · rw [if_pos q] at e; cases e; rw [q]; exact Heap.get?_push_size _ hf
    · rw [if_neg q] at e; exact Heap.get?_push_of_some _ (F.on b x e), by
    unfold PM.ins
    rw [if_neg (Nat.ne_of_lt F.ns.lt)]; exact F.off, fun b x e => Heap.get?_push_of_some _ (F.keep b x e), F.above, F.gd₀⟩
theorem Fx.none_at (F : Fx w h₀ g L h m) : g h.objs.size = none := by
  cases q : g h.objs.size with
  | none => rfl
  | some o => exact absurd (Heap.lt_size (F.on _ _ q)) (Nat.lt_irrefl _)
theorem Fx.grow (F : Fx w s.heap g L h m) {d : Drawn} {t : Nat} : Grow s ⟨h, s.gens, d, t, s.os⟩ := ⟨F.keep, fun _ _ e => e, id, Nat.le_of_lt F.lt, rfl⟩
end

section
variable {prog : Program} {w : World} {A : Around} {E : Value → Shared → Prop} {s : Shared} {env : Env} {h₀ : Heap} {g : PM} {m : Str → Option Value}

theorem nm_loc {x : Str} {pos : Pos} {v : Value} {Q : Value → Shared → Prop} (F : Fx w h₀ g env.locals s.heap m) (hv : m x = some v) (h : Q v s)
    (hl : env.kindOf x = some .local := by rfl) (hk : env.scope.kind = .function := by rfl) (hd : (x == ("__debug__" : Str)) = false := by decide) :
    wpAny (model prog w) A (eval (.Name x pos) env) Q E s := wpAny_Name (wpAny_loadName_local hk hl F.ns hv h) hd

theorem nm_glob {x : Str} {pos : Pos} {v : Value} {Q : Value → Shared → Prop} (F : Fx w h₀ g env.locals s.heap m) (e : nsIn (hd2.heap_39 w.params) mainGlobals x = some (some v)) (h : Q v s)
    (hl : env.kindOf x = some .globalImplicit := by rfl) (hk : env.scope.kind = .function := by rfl) (hg : env.globals = mainGlobals := by rfl) (hd : (x == ("__debug__" : Str)) = false := by decide) :
    wpAny (model prog w) A (eval (.Name x pos) env) Q E s := by
  obtain ⟨p, l, mg, mb, T⟩ := F.gd.top
  exact Name_function_global hk hl (loadGlobal_global (hg ▸ T.g) (mg_of F.gd.K T.g e) h) hd

theorem nm_built {x : Str} {pos : Pos} {v : Value} {Q : Value → Shared → Prop} (F : Fx w h₀ g env.locals s.heap m) (e : nsIn (hd2.heap_39 w.params) mainGlobals x = some none) (hv : bootBuiltins x = some v) (h : Q v s)
    (hn : x ≠ "__name__" := by decide)
    (hl : env.kindOf x = some .globalImplicit := by rfl) (hk : env.scope.kind = .function := by rfl) (hg : env.globals = mainGlobals := by rfl) (hb : env.builtins = builtinsNs := by rfl) (hd : (x == ("__debug__" : Str)) = false := by decide) :
    wpAny (model prog w) A (eval (.Name x pos) env) Q E s := by
  obtain ⟨p, l, mg, mb, T⟩ := F.gd.top
  exact Name_function_global hk hl (loadGlobal_builtin (hg ▸ T.g) (mg_none_of F.gd.K T.g e) (hb ▸ T.b) ((T.builtins x hn).trans hv) h) hd

theorem st_loc {x : Str} {v : Value} {Q : Unit → Shared → Prop} (F : Fx w h₀ g env.locals s.heap m)
    (h : ∀ h', Fx w h₀ g env.locals h' (fun y => if y = x then some v else m y) → Heap.SameBut env.locals s.heap h' → Q () { s with heap := h', toks := s.toks + 1 })
    (hl : env.kindOf x = some .local := by rfl) (hk : env.scope.kind = .function := by rfl) :
    wpAny (model prog w) A (storeName env x v) Q E s :=
  wpAny_storeName_local hl F.ns (fun h' hn hs => h h' (F.set hn hs) hs) (by rw [hk]; rfl)
end

/-- enter a plain def of the written part -/
theorem enter {prog : Program} {w : World} {A : Around} {s : Shared} {R : Result → Shared → Prop} {a : Addr} {oc : Value} {od : Option Addr} {sl : Array (Option Value)} {fd : FuncData} {body : List Stmt} {args : Args} {binds : List (Str × Value)} {g : PM}
    (G : Gd w s.heap) (ho : (hd2.heap_39 w.params).lookup a = some ⟨oc, od, .func fd, sl⟩) (hcd : codeIn (hd2.heap_39 w.params) fd.code fd.qualname = true) (hbody : fd.body = .stmts body) (hroom : A.depth < recursionLimit)
    (hbind : BindsTo s fd args binds) (hcell : ∀ x ∈ fd.scope.names, x.2 ≠ .cell) (hloc : ∀ x ∈ binds, fd.scope.names.lookup x.1 = some .local) (hg : g.on s.heap)
    (h : ∀ h₁, Fx w s.heap g s.heap.objs.size h₁ (fun x => binds.reverse.lookup x) →
      wpAny (model prog w) (A.deeper (callEnv fd s.heap.objs.size a)) (execs body (callEnv fd s.heap.objs.size a)) (fun f s' => R (.ok (.ret (match f with | .ret v => v | _ => .none))) s')
        (fun e s' => wpAny (model prog w) (A.deeper (callEnv fd s.heap.objs.size a)) (leaving (callEnv fd s.heap.objs.size a) e) (fun _ s'' => R (.error e) s'') (fun e' s'' => R (.error e') s'') s')
        { s with heap := h₁, toks := s.toks + binds.length })
    (hco : fd.scope.isCoroutine = false := by rfl) (hgen : fd.scope.isGenerator = false := by rfl) (hk : fd.scope.kind = .function := by rfl) :
    codeAny (model prog w) A (.call (.ref a) args) R s :=
  codeAny_call_def hroom (G.K _ _ ho) rfl G.nolimit (codeRec_of G.K hcd) hbody hbind hcell hloc
    (fun h₁ hn hk₀ => h h₁ ⟨hn, fun b o e => hk₀ b o (hg b o e), by
      cases q : g s.heap.objs.size with
      | none => rfl
      | some o => exact absurd (Heap.lt_size (hg _ _ q)) (Nat.lt_irrefl _), hk₀, Nat.le_refl _, G⟩) hco hgen hk
theorem enterN {prog : Program} {w : World} {A : Around} {s : Shared} {R : Result → Shared → Prop} {a : Addr} {oc : Value} {od : Option Addr} {sl : Array (Option Value)} {fd : FuncData} {body : List Stmt} {args : Args} {binds : List (Str × Value)} {g : PM}
    (G : Gd w s.heap) (ho : (hd2.heap_39 w.params).lookup a = some ⟨oc, od, .func fd, sl⟩) (hcd : codeIn (hd2.heap_39 w.params) fd.code fd.qualname = true) (hbody : fd.body = .stmts body) (hroom : A.depth < recursionLimit)
    (hbind : BindsTo s fd args binds) (hcell : ∀ x ∈ fd.scope.names, x.2 ≠ .cell) (hloc : ∀ x ∈ binds, fd.scope.names.lookup x.1 = some .local) (hg : g.on s.heap)
    (h : ∀ h₁, Fx w s.heap g s.heap.objs.size h₁ (fun x => binds.reverse.lookup x) →
      wpAny (model prog w) (A.deeper (callEnv fd s.heap.objs.size a)) (execs body (callEnv fd s.heap.objs.size a)) (fun f s' => R (.ok (.ret (match f with | .ret v => v | _ => .none))) s')
        (fun _ _ => False) { s with heap := h₁, toks := s.toks + binds.length })
    (hco : fd.scope.isCoroutine = false := by rfl) (hgen : fd.scope.isGenerator = false := by rfl) (hk : fd.scope.kind = .function := by rfl) :
    codeAny (model prog w) A (.call (.ref a) args) R s :=
  enter G ho hcd hbody hroom hbind hcell hloc hg (fun h₁ F => wpAny_mono (h h₁ F) (fun _ _ x => x) (fun _ _ x => x.elim)) hco hgen hk
end Mine
end
section
open PySem PySem.W PyProof.Rows PySem.Calls
set_option Elab.async false
set_option maxRecDepth 100000
set_option maxHeartbeats 8000000
namespace Mine
set_option pp.maxSteps 600
theorem fill1 : (fun (_ : OpenLaw) (_ : Params → Frag) => True) PySem.Challenge.rw_fe0181_02 hd2.heap_39 := by
  k_fill; trivial
local macro_rules | `(tactic| walk_at "eval Name") => `(tactic| first
  | (refine nm_loc (by assumption) (by exact rfl) ?_)
  | (refine nm_glob (by assumption) (by k_is) ?_)
  | (refine nm_built (by assumption) (by k_is) (by boot_by_name) ?_))

local macro_rules | `(tactic| walk_at "go") => `(tactic| repeat' (first | (k_unfold; (try dsimp only)) | walk1 | (dsimp only; walk1)))

def VarAt (g : PM) (x : Addr) (k : Int) : Prop :=
  ∃ dx hh t₁ t₂ n sl, g x = some ⟨.ref 185, some dx, .plain, sl⟩ ∧ g dx = some (dictOf [⟨hh, .str "token" t₁, .int k t₂⟩] n)
theorem VarAt.le {g g' : PM} {x : Addr} {k : Int} (V : VarAt g x k) (l : g.le g') : VarAt g' x k :=
  let ⟨dx, hh, t₁, t₂, n, sl, h1, h2⟩ := V; ⟨dx, hh, t₁, t₂, n, sl, l _ _ h1, l _ _ h2⟩

section
variable {prog : Program} {w : World} {A : Around} {E : Value → Shared → Prop} {s : Shared} {env : Env} {h₀ : Heap} {g : PM} {m : Str → Option Value}

theorem VarAt.inst {h : Heap} {x : Addr} {k : Int} (V : VarAt g x k) (on : g.on h) : ∃ ox hh t₁ t₂ n, InstAt h x ox 185 (some (dictOf [⟨hh, .str "token" t₁, .int k t₂⟩] n)) := by
  obtain ⟨dx, hh, t₁, t₂, n, sl, h1, h2⟩ := V
  exact ⟨_, hh, t₁, t₂, n, on _ _ h1, rfl, rfl, on _ _ h2⟩

theorem get_token {x : Addr} {k : Int} {expr : Bool} {Q : Value → Shared → Prop} (G : Gd w s.heap) (on : g.on s.heap) (V : VarAt g x k)
    (h : ∀ t, Q (.int k t) { s with toks := s.toks + 1 }) : wpAny (model prog w) A (getAttr (.ref x) "token" expr) Q E s := by
  obtain ⟨ox, hh, t₁, t₂, n, I⟩ := V.inst on
  have hpg : plainGet (hd2.heap_39 w.params) 185 "token" = true := by k_is
  exact get_value G.K I (plainGet_of hpg).1 (findObj_own (by k_is) (by k_is) (by k_is) rfl) rfl (h t₂)
end
local macro_rules | `(tactic| walk_at "getAttr ref") => `(tactic| (refine get_token (Fx.gd (by assumption)) (Fx.on (by assumption)) (by assumption) ?_; intro tk'))

section
variable {prog : Program} {w : World} {A : Around} {E : Value → Shared → Prop} {s : Shared} {env : Env} {h₀ : Heap} {g : PM} {m : Str → Option Value}
theorem kind_hash : builtinKind "hash" = none := by decide +kernel
theorem plain_hash : plainId "hash" = true := by decide +kernel
theorem entry_hash : entryFor table "hash" = some Builtin.«hash» := entryFor_of_tree (by kernel_rfl)
theorem args_hash (a : Value) : argsOk "hash" ⟨[a], []⟩ := by unfold argsOk; kernel_rfl
theorem call_hash_int {k : Int} {t : Tok} {Q : Value → Shared → Prop} (h : ∀ tk t', Q (.int (hashInt k) tk) { s with toks := t' }) :
    wpAny (model prog w) A (call (.builtin "hash") [.int k t]) Q E s := by
  refine Calls.call_function_entry kind_hash plain_hash entry_hash (args_hash _) ?_
  unfold Builtin.«hash»
  refine wpAny_bind (m := oneArg "hash" ⟨[.int k t], []⟩) (wpAny_pure (wpAny_bind (wpAny_pyHash_int ?_)))
  exact wpAny_ret_mkInt (h _ _)
end
local macro_rules | `(tactic| walk_at "call builtin:hash") => `(tactic| (refine call_hash_int ?_; intro tk' t'))

section
variable {prog : Program} {w : World} {A : Around} {E : Value → Shared → Prop} {s : Shared} {env : Env} {h₀ : Heap} {g : PM} {m : Str → Option Value}
theorem hash_var {x : Addr} {k : Int} {R : Result → Shared → Prop} (hroom : A.depth < recursionLimit) (G : Gd w s.heap) (on : g.on s.heap) (V : VarAt g x k)
    (h : ∀ s' tk, Grow s s' → R (.ok (.ret (.int (hashInt k) tk))) s') : codeAny (model prog w) A (.call (.ref 182) ⟨[.ref x], []⟩) R s := by
  refine enterN (binds := [("self", .ref x)]) G (by k_is) (by k_is) rfl hroom (BindsTo.of_eq rfl) (by decide) (locs rfl) on (fun h₁ F => ?_)
  k_fold
  walk_at "go"
  exact h _ _ (Fx.grow (by assumption))


theorem type_var {x : Addr} {k : Int} {Q : Value → Shared → Prop} (on : g.on s.heap) (V : VarAt g x k) (h : Q (.ref 185) s) : wpAny (model prog w) A (call (.type "type") [.ref x]) Q E s := by
  obtain ⟨_, _, _, _, _, I⟩ := V.inst on
  exact kto_own I h
theorem cls_type {C : Addr} {cd : ClassData} {d : Option Addr} {sl : Array (Option Value)} (G : Gd w s.heap) (e : (hd2.heap_39 w.params).lookup C = some ⟨.type "type", d, .cls cd, sl⟩) : s.TypeIs (.ref C) "type" := ⟨_, G.K _ _ e, rfl⟩

theorem object_eq_self {C : Addr} : Gives (Builtin.«object.__eq__» ⟨[.ref C, .ref C], []⟩) (.val (.bool true)) :=
  .of_eq (by simp [Builtin.«object.__eq__», slotArgs, isSame, Made.tree])

theorem eq_cls_same {C : Addr} {Q : Value → Shared → Prop} (hu : A.units < cLine) (ha : s.TypeIs (.ref C) "type") (h : Q (.bool true) s) :
    wpAny (model prog w) A (compareOp .Eq (.ref C) (.ref C)) Q E s := by
  show wpAny _ A (richCompare .Eq _ _) Q E s
  exact wpAny_richCompare_same_or (T := "type") ha ha TypeEq.slot_type_eq
    (call_gives TypeEq.slot_type_eq ha F.entry_object_eq (F.args_object_eq_2 _ _) object_eq_self ⟨(by intro e; cases e), h⟩) (.inr hu)

theorem rc_decline {a b : Value} {T id : String} {k : Bool} {Q : Value → Shared → Prop} (hu : A.units < cLine) (ha : s.TypeIs a T) (hb : s.TypeIs b T)
    (h1 : Slot T (cmpInfo .Eq).2.1 id) (h2 : Slot T (cmpInfo .Eq).2.2 id) (hk : isSame a b = pure k)
    (hc : wpAny (model prog w) A (call (.builtin id) [a, b]) (fun v s₁ => v = .notImplemented ∧ s₁ = s) E s)
    (hd : wpAny (model prog w) A (call (.builtin id) [b, a]) (fun v s₁ => v = .notImplemented ∧ s₁ = s) E s) (h : Q (.bool k) s) :
    wpAny (model prog w) A (compareOp .Eq a b) Q E s := by
  show wpAny _ A (richCompare .Eq a b) Q E s
  rcases hi : cmpInfo CmpOp.Eq with ⟨sym, f, r⟩
  rw [hi] at h1 h2
  simp only [richCompare, hi, ha.oneThing_none]
  refine wpAny_holding (wpAny_bind (wpAny_cRoomFor hu ?_))
  refine wpAny_bind (wpAny_typeOf ha (wpAny_bind (wpAny_typeOf hb ?_)))
  simp only [bne_self_eq_false, Bool.false_eq_true, if_false, pure_bind, Bool.not_false, if_true]
  refine wpAny_bind (m := tryCompare a _ b) (wpAny_tryCompare_declines ha h1 (wpAny_mono hc (fun v s₁ h₁ => ⟨h₁.1, ?_⟩) fun _ _ x => x))
  obtain ⟨_, rfl⟩ := h₁
  refine wpAny_bind (m := tryCompare b _ a) (wpAny_tryCompare_declines hb h2 (wpAny_mono hd (fun v s₁ h₁ => ⟨h₁.1, ?_⟩) fun _ _ x => x))
  obtain ⟨_, rfl⟩ := h₁
  exact wpAny_bind (wpAny_rule (wpAny_bind (wpAny_of_eq hk (wpAny_pure h))))

theorem eq_cls_type {C : Addr} {X : String} {Q : Value → Shared → Prop} (hu : A.units < cLine) (ha : s.TypeIs (.ref C) "type") (hX : s.TypeIs (.type X) "type") (h : Q (.bool false) s) :
    wpAny (model prog w) A (compareOp .Eq (.ref C) (.type X)) Q E s := by
  exact rc_decline (T := "type") (k := false) hu ha hX TypeEq.slot_type_eq TypeEq.slot_type_eq_refl rfl
    (call_gives TypeEq.slot_type_eq ha F.entry_object_eq (F.args_object_eq_2 _ _) (TypeEq.object_eq_other rfl (by simp)) ⟨rfl, rfl⟩)
    (call_gives TypeEq.slot_type_eq_refl hX F.entry_object_eq (F.args_object_eq_2 _ _) (TypeEq.object_eq_other rfl (by simp)) ⟨rfl, rfl⟩) h
end

local macro_rules | `(tactic| walk_at "call type:type") => `(tactic| first
  | (refine type_var (Fx.on (by assumption)) (by assumption) ?_)
  | (refine kto_cont (by assumption) (by decide) ?_)
  | (refine call_type_of (Tx := "int") rfl (by decide) ?_))
local macro_rules | `(tactic| walk_at "compareOp Eq ref ref") => `(tactic| (refine eq_cls_same (by assumption) (cls_type (Fx.gd (by assumption)) (by k_is)) ?_))
local macro_rules | `(tactic| walk_at "compareOp Eq ref type") => `(tactic| (refine eq_cls_type (by assumption) (cls_type (Fx.gd (by assumption)) (by k_is)) (by first | exact TypeEq.meta_int _ | exact TypeEq.meta_tuple _ | exact TypeEq.meta_list _ | exact TypeEq.meta_dict _) ?_))

section
variable {prog : Program} {w : World} {A : Around} {E : Value → Shared → Prop} {s : Shared} {env : Env} {h₀ : Heap} {g : PM} {m : Str → Option Value}
theorem eq_var_var {x y : Addr} {k j : Int} {R : Result → Shared → Prop} (hu : A.units + 100 < cLine) (hroom : A.depth < recursionLimit) (G : Gd w s.heap) (on : g.on s.heap) (V : VarAt g x k) (V' : VarAt g y j)
    (h : ∀ s', Grow s s' → R (.ok (.ret (.bool (k == j)))) s') : codeAny (model prog w) A (.call (.ref 175) ⟨[.ref x, .ref y], []⟩) R s := by
  refine enterN (binds := [("self", .ref x), ("other", .ref y)]) G (by k_is) (by k_is) rfl hroom (BindsTo.of_eq rfl) (by decide) (locs rfl) on (fun h₁ F => ?_)
  k_fold
  have hu' : A.units + 3 < cLine := by omega
  walk_at "go"
  exact h _ (Fx.grow (by assumption))

/-- the built-in type of a value -/
def BT (g : PM) (T : String) : Value → Prop
  | .ref a => ∃ o, g a = some o ∧ o.cls = .type T ∧ T ≠ "int"
  | .int .. => T = "int"
  | .bool _ => T = "bool"
  | .none => T = "NoneType"
  | _ => False
theorem BT.is {v : Value} {T : String} (b : BT g T v) (on : g.on s.heap) : s.TypeIs v T := by
  cases v <;> first | exact b.elim | (obtain ⟨o, h1, h2, _⟩ := b; exact ⟨o, on _ _ h1, h2⟩) | (cases b; rfl)
local macro_rules | `(tactic| walk_at "call type:type") => `(tactic| (refine call_type_of (BT.is (by assumption) (Fx.on (by assumption))) (by assumption) ?_))
local macro_rules | `(tactic| walk_at "compareOp Eq ref type") => `(tactic| (refine eq_cls_type (by assumption) (cls_type (Fx.gd (by assumption)) (by k_is)) (by apply_assumption) ?_))
theorem eq_var_bt {x : Addr} {y : Value} {k : Int} {T : String} {R : Result → Shared → Prop} (hu : A.units + 100 < cLine) (hroom : A.depth < recursionLimit) (G : Gd w s.heap) (on : g.on s.heap) (V : VarAt g x k) (V' : BT g T y)
    (hT : ∀ s' : Shared, s'.TypeIs (.type T) "type") (hn : (Value.type T == Value.type "builtin_function_or_method") = false)
    (h : ∀ s', Grow s s' → R (.ok (.ret .notImplemented)) s') : codeAny (model prog w) A (.call (.ref 175) ⟨[.ref x, y], []⟩) R s := by
  refine enterN (binds := [("self", .ref x), ("other", y)]) G (by k_is) (by k_is) rfl hroom (BindsTo.of_eq rfl) (by decide) (locs rfl) on (fun h₁ F => ?_)
  k_fold
  have hu' : A.units + 3 < cLine := by omega
  walk_at "go"
  exact h _ (Fx.grow (by assumption))
end
end Mine
end
section
open PySem PySem.W PyProof.Rows PySem.Calls
set_option Elab.async false
set_option maxRecDepth 100000
set_option maxHeartbeats 8000000
namespace Mine
set_option pp.maxSteps 600
theorem fill2 : (fun (_ : OpenLaw) (_ : Params → Frag) => True) PySem.Challenge.rw_fe0181_02 hd2.heap_39 := by
  k_fill; trivial
section
variable {prog : Program} {w : World} {A : Around} {E : Value → Shared → Prop} {s : Shared} {env : Env} {h₀ : Heap} {g : PM} {m : Str → Option Value} {K : Frag}

theorem unlessNone_K {M : Model} {name : Str} {x C f : Addr} {ox : Obj} {od : Option Obj} {refuse : Sem Value} {Q : Option Value → Shared → Prop} (X : K.In s.heap) (I : InstAt s.heap x ox C od) (hs : findIn K (.ref C) name = some (some (.ref f))) (hf : isFn K (.ref f) = true)
    (h : wpAny M A (call (.ref f) [.ref x]) (fun v => Q (some v)) E s) : wpAny M A (callSpecialIfBoundUnlessNone? (.ref x) name refuse) Q E s := by
  simp only [callSpecialIfBoundUnlessNone?, bindSpecialIfBound?]
  refine wpAny_holding (wpAny_bind (wpAny_bind (wpAny_bind (I.type.here ((looks_findIn X hs).here ?_)))))
  refine wpAny_bind (wpAny_askSetting (wpAny_ite ?_))
  have fin : wpAny M A (call (.ref f) [.ref x] >>= fun v => pure (some v)) Q E s := wpAny_bind (wpAny_mono h (fun v s' h' => wpAny_pure h') fun _ _ h' => h')
  have ne : ((Value.ref f) == Value.none) = false := by simp
  split
  · exact wpAny_bind ((bind_fn X _ (beq_iff_eq.mp hf)).here (wpAny_pure (by simp only [ne]; exact fin)))
  · exact wpAny_tryCatch (wpAny_bind ((bind_fn X _ (beq_iff_eq.mp hf)).here (wpAny_pure (by simp only [ne]; exact fin))))

theorem hashInt_small {k : Int} (h0 : 0 ≤ k) (h1 : k < 32) : hashInt k = k := by
  have e : ∀ n : Nat, n < 32 → hashInt (n : Int) = (n : Int) := by decide
  obtain ⟨n, rfl⟩ := Int.eq_ofNat_of_zero_le h0
  exact e n (by omega)

theorem pyHash_var {x : Addr} {k : Int} {Q : Int → Shared → Prop} (hu : A.units + 100 < cLine) (hroom : A.depth < recursionLimit) (G : Gd w s.heap) (on : g.on s.heap) (V : VarAt g x k) (h0 : 0 ≤ k) (h1 : k < 32)
    (h : ∀ s', Grow s s' → Q k s') : wpAny (model prog w) A (pyHash (.ref x)) Q E s := by
  obtain ⟨ox, hh, t₁, t₂, n, I⟩ := V.inst on
  have e : hashInt k = k := hashInt_small h0 h1
  have L1 : Looks (model prog w) s.heap (specialOf (.ref x) "__hash__") (some (.ref 182)) := I.type.andThen (looks_findIn G.K (by k_is))
  show wpAny _ _ (pyHashByItsType (.ref x)) _ _ _
  unfold pyHashByItsType
  refine wpAny_bind (wpAny_cRoomFor (by omega) (wpAny_bind (L1.here ?_)))
  rw [if_neg (by simp)]
  refine wpAny_bind (L1.here ?_)
  simp only [Option.isNone_some, Bool.false_eq_true, if_false]
  refine wpAny_bind (unlessNone_K G.K I (f := 182) (by k_is) (by k_is) (wpAny_call (hash_var hroom G on V fun s' tk Gr => ?_)))
  rw [e]
  show wpAny _ _ (pyHashByItsType.reduced k) _ _ _
  unfold pyHashByItsType.reduced
  rw [if_pos (by simp; omega), if_neg (by simp; omega)]
  exact wpAny_pure (h s' Gr)

theorem rc_skel {a b ta tb : Value} {Q : Value → Shared → Prop} (hu : A.units < cLine) (h1 : Looks (model prog w) s.heap (typeOf a) ta) (h2 : Looks (model prog w) s.heap (typeOf b) tb)
    (hs : ta = tb ∨ Looks (model prog w) s.heap (isSubtype tb ta) false) (hone : oneThing? .Eq a b = none)
    (h : wpAny (model prog w) A (tryCompare a "__eq__" b) (fun r s₁ => match r with
      | some v => Q v s₁
      | none => wpAny (model prog w) A (tryCompare b "__eq__" a) (fun r s₂ => match r with
        | some v => Q v s₂
        | none => wpAny (model prog w) A (isSame a b) (fun k => Q (.bool k)) E s₂) E s₁) E s) : wpAny (model prog w) A (richCompare .Eq a b) Q E s := by
  unfold richCompare
  simp only [hone]
  refine wpAny_holding (wpAny_bind (wpAny_cRoomFor hu ?_))
  refine wpAny_bind (h1.here (wpAny_bind (h2.here ?_)))
  have fin : wpAny (model prog w) A (do
      if let some v ← tryCompare a "__eq__" b then return v
      if !false then
        if let some v ← tryCompare b "__eq__" a then return v
      rule "compare.eq-identity"; return .bool (← isSame a b)) Q E s := by
    refine wpAny_bind (wpAny_mono h (fun r s₁ z => ?_) fun _ _ x => x)
    cases r with
    | some v => exact wpAny_pure z
    | none =>
      refine wpAny_bind (wpAny_mono z (fun r s₂ z => ?_) fun _ _ x => x)
      cases r with
      | some v => exact wpAny_pure z
      | none => exact wpAny_bind (wpAny_rule (wpAny_bind (wpAny_mono z (fun k s₃ z => wpAny_pure z) fun _ _ x => x)))
  split
  · rename_i q
    have e : Looks (model prog w) s.heap (isSubtype tb ta) false := hs.elim (fun e => by subst e; simp at q) id
    refine wpAny_bind (e.here ?_)
    simp only [Bool.false_eq_true, if_false]
    exact fin
  · refine wpAny_bind (wpAny_pure ?_)
    simp only [Bool.false_eq_true, if_false]
    exact fin

theorem try_var {x y : Addr} {k j : Int} {Q : Option Value → Shared → Prop} (hu : A.units + 100 < cLine) (hroom : A.depth < recursionLimit) (G : Gd w s.heap) (on : g.on s.heap) (V : VarAt g x k) (V' : VarAt g y j)
    (h : ∀ s', Grow s s' → Q (some (.bool (k == j))) s') : wpAny (model prog w) A (tryCompare (.ref x) "__eq__" (.ref y)) Q E s := by
  obtain ⟨ox, hh, t₁, t₂, n, I⟩ := V.inst on
  unfold tryCompare
  refine wpAny_bind (ifBound_K (f := 175) G.K I (by k_is) (by k_is) (wpAny_call (eq_var_var hu hroom G on V V' fun s' Gr => ?_)))
  exact wpAny_pure (h s' Gr)
theorem try_var_bt {x : Addr} {y : Value} {k : Int} {T : String} {Q : Option Value → Shared → Prop} (hu : A.units + 100 < cLine) (hroom : A.depth < recursionLimit) (G : Gd w s.heap) (on : g.on s.heap) (V : VarAt g x k) (V' : BT g T y)
    (hT : ∀ s' : Shared, s'.TypeIs (.type T) "type") (hn : (Value.type T == Value.type "builtin_function_or_method") = false)
    (h : ∀ s', Grow s s' → Q none s') : wpAny (model prog w) A (tryCompare (.ref x) "__eq__" y) Q E s := by
  obtain ⟨ox, hh, t₁, t₂, n, I⟩ := V.inst on
  unfold tryCompare
  refine wpAny_bind (ifBound_K (f := 175) G.K I (by k_is) (by k_is) (wpAny_call (eq_var_bt hu hroom G on V V' hT hn fun s' Gr => ?_)))
  exact wpAny_pure (h s' Gr)

theorem looks_var {M : Model} {h : Heap} {x : Addr} {k : Int} (on : g.on h) (V : VarAt g x k) : Looks M h (typeOf (.ref x)) (.ref 185) := by
  obtain ⟨ox, hh, t₁, t₂, n, I⟩ := V.inst on
  exact I.type

theorem looks_bt {M : Model} {h : Heap} {v : Value} {T : String} (on : g.on h) (b : BT g T v) : Looks M h (typeOf v) (.type T) := by
  cases v <;> first | exact b.elim | (obtain ⟨o, h1, h2, _⟩ := b; exact h2 ▸ (Looks.ld (on _ _ h1)).andThen .now) | (cases b; exact Looks.of_pure rfl)

theorem rc_var_var {x y : Addr} {k j : Int} {Q : Value → Shared → Prop} (hu : A.units + 100 < cLine) (hroom : A.depth < recursionLimit) (G : Gd w s.heap) (on : g.on s.heap) (V : VarAt g x k) (V' : VarAt g y j)
    (h : ∀ s', Grow s s' → Q (.bool (k == j)) s') : wpAny (model prog w) A (richCompare .Eq (.ref x) (.ref y)) Q E s :=
  rc_skel (by omega) (looks_var on V) (looks_var on V') (.inl rfl) rfl (try_var hu hroom G on V V' h)

/-- the types of the terms that are no variables -/
def GoodT (T : String) : Prop := T = "int" ∨ T = "tuple" ∨ T = "list" ∨ T = "dict"
theorem GoodT.meta {T : String} (h : GoodT T) (s' : Shared) : s'.TypeIs (.type T) "type" := by
  rcases h with rfl | rfl | rfl | rfl
  · exact TypeEq.meta_int _
  · exact TypeEq.meta_tuple _
  · exact TypeEq.meta_list _
  · exact TypeEq.meta_dict _
theorem GoodT.nb {T : String} (h : GoodT T) : (Value.type T == Value.type "builtin_function_or_method") = false := by
  rcases h with rfl | rfl | rfl | rfl <;> decide
theorem GoodT.sub {T : String} (h : GoodT T) : subIn (hd2.heap_39 w.params) (.type T) (.ref 185) = some false := by
  rcases h with rfl | rfl | rfl | rfl <;> k_is
theorem GoodT.sub' {T : String} (h : GoodT T) : subIn (hd2.heap_39 w.params) (.ref 185) (.type T) = some false := by
  rcases h with rfl | rfl | rfl | rfl <;> k_is

theorem BT.int_is {v : Value} (b : BT g "int" v) : ∃ n t, v = .int n t := by
  cases v <;> first | exact ⟨_, _, rfl⟩ | exact b.elim | exact absurd b (by simp [BT]) | (obtain ⟨_, _, _, q⟩ := b; exact absurd rfl q)
theorem BT.ref_is {T : String} {v : Value} (b : BT g T v) (h : T = "tuple" ∨ T = "list" ∨ T = "dict") : ∃ a, v = .ref a := by
  rcases h with rfl | rfl | rfl <;> cases v <;> first | exact ⟨_, rfl⟩ | exact b.elim | exact absurd b (by simp [BT])

/-- such a value's own __eq__ gives nothing against a variable -/
theorem try_bt_var {x : Addr} {y : Value} {k : Int} {T : String} {Q : Option Value → Shared → Prop} (G : Gd w s.heap) (on : g.on s.heap) (V : VarAt g x k) (B : BT g T y) (hT : GoodT T)
    (h : Q none s) : wpAny (model prog w) A (tryCompare y "__eq__" (.ref x)) Q E s := by
  obtain ⟨ox, hh, t₁, t₂, n, I⟩ := V.inst on
  obtain ⟨dx, _, _, _, _, sl, h1, _⟩ := V
  have hx := on _ _ h1
  have L : ∀ T, GoodT T → Looks (model prog w) s.heap (isInstance (.ref x) (.type T)) false := fun T hT => I.type.andThen (looks_subIn G.K hT.sub')
  obtain ⟨hh', gg, d, tt, os⟩ := s
  have LT := L T hT
  have BI := B.is on
  rcases hT with rfl | rfl | rfl | rfl
  · obtain ⟨n, t, rfl⟩ := B.int_is
    refine wpAny_tryCompare_declines BI F.slot_int_eq (wpAny_call_entry F.slot_int_eq BI F.entry_int_eq ?_ (F.args_int_eq_2 _ _))
    repeat lk
    exact ⟨_, rfl, rfl, h⟩
  · obtain ⟨a, rfl⟩ := B.ref_is (by simp)
    refine wpAny_tryCompare_declines BI F.slot_tuple_eq (wpAny_call_entry F.slot_tuple_eq BI F.entry_tuple_eq ?_ (F.args_tuple_eq_2 _ _))
    repeat lk
    exact ⟨_, rfl, rfl, h⟩
  · obtain ⟨a, rfl⟩ := B.ref_is (by simp)
    refine wpAny_tryCompare_declines BI F.slot_list_eq (wpAny_call_entry F.slot_list_eq BI F.entry_list_eq ?_ (F.args_list_eq_2 _ _))
    repeat lk
    exact ⟨_, rfl, rfl, h⟩
  · obtain ⟨a, rfl⟩ := B.ref_is (by simp)
    refine wpAny_tryCompare_declines BI F.slot_dict_eq (wpAny_call_entry F.slot_dict_eq BI F.entry_dict_eq ?_ (F.args_dict_eq_2 _ _))
    repeat lk
    exact ⟨_, rfl, rfl, h⟩

theorem isSame_var_bt {x : Addr} {y : Value} {k : Int} {T : String} {Q : Bool → Shared → Prop} (on : g.on s.heap) (V : VarAt g x k) (B : BT g T y)
    (h : Q false s) : wpAny (model prog w) A (isSame (.ref x) y) Q E s := by
  obtain ⟨dx, _, _, _, _, sl, h1, _⟩ := V
  have hx := on _ _ h1
  obtain ⟨hh', gg, d, tt, os⟩ := s
  cases y <;> first | exact B.elim | exact wpAny_pure h | skip
  rename_i a
  obtain ⟨o, h2, h3, _⟩ := B
  have hy := on _ _ h2
  have ne : (x == a) = false := by
    rw [beq_eq_false_iff_ne]
    rintro rfl
    rw [h1] at h2; cases h2; cases h3
  unfold isSame
  simp only [ne, Bool.false_eq_true, if_false]
  repeat lk
  exact h
theorem isSame_bt_var {x : Addr} {y : Value} {k : Int} {T : String} {Q : Bool → Shared → Prop} (on : g.on s.heap) (V : VarAt g x k) (B : BT g T y)
    (h : Q false s) : wpAny (model prog w) A (isSame y (.ref x)) Q E s := by
  obtain ⟨dx, _, _, _, _, sl, h1, _⟩ := V
  have hx := on _ _ h1
  obtain ⟨hh', gg, d, tt, os⟩ := s
  cases y <;> first | exact B.elim | exact wpAny_pure h | skip
  rename_i a
  obtain ⟨o, h2, h3, _⟩ := B
  have hy := on _ _ h2
  have ne : (a == x) = false := by
    rw [beq_eq_false_iff_ne]
    rintro rfl
    rw [h1] at h2; cases h2; cases h3
  obtain ⟨oc, od, oda, osl⟩ := o
  subst h3
  unfold isSame
  simp only [ne, Bool.false_eq_true, if_false]
  refine wpAny_bind (wpAny_load hy (wpAny_bind (wpAny_load hx ?_)))
  split <;> first | exact wpAny_pure h | (exfalso; simp_all)

theorem rc_var_bt {x : Addr} {y : Value} {k : Int} {T : String} {Q : Value → Shared → Prop} (hu : A.units + 100 < cLine) (hroom : A.depth < recursionLimit) (G : Gd w s.heap) (on : g.on s.heap) (V : VarAt g x k) (B : BT g T y) (hT : GoodT T)
    (h : ∀ s', Grow s s' → Q (.bool false) s') : wpAny (model prog w) A (richCompare .Eq (.ref x) y) Q E s :=
  rc_skel (by omega) (looks_var on V) (looks_bt on B) (.inr (looks_subIn G.K hT.sub)) rfl (try_var_bt hu hroom G on V B hT.meta hT.nb fun s' Gr =>
    try_bt_var (G.keeps Gr.keep) (on.keeps Gr.keep) V B hT (isSame_var_bt (on.keeps Gr.keep) V B (h s' Gr)))
theorem rc_bt_var {x : Addr} {y : Value} {k : Int} {T : String} {Q : Value → Shared → Prop} (hu : A.units + 100 < cLine) (hroom : A.depth < recursionLimit) (G : Gd w s.heap) (on : g.on s.heap) (V : VarAt g x k) (B : BT g T y) (hT : GoodT T)
    (h : ∀ s', Grow s s' → Q (.bool false) s') : wpAny (model prog w) A (richCompare .Eq y (.ref x)) Q E s :=
  rc_skel (by omega) (looks_bt on B) (looks_var on V) (.inr (looks_subIn G.K hT.sub')) ((B.is on).oneThing_none _ _) (try_bt_var G on V B hT
    (try_var_bt hu hroom G on V B hT.meta hT.nb fun s' Gr => isSame_bt_var (on.keeps Gr.keep) V B (h s' Gr)))

theorem eqBool_skel {a b : Value} {Q : Bool → Shared → Prop} (hab : a ≠ b) (hf : ∀ x t, a ≠ .float x t)
    (h : wpAny (model prog w) A (richCompare .Eq a b) (fun v s' => ∃ k, v = .bool k ∧ Q k s') E s) : wpAny (model prog w) A (eqBool a b) Q E s := by
  unfold eqBool
  refine wpAny_holding ?_
  have ne : (a == b) = false := by simpa using hab
  simp only [ne, Bool.false_eq_true, if_false]
  have fin : wpAny (model prog w) A (do truthOfDropped (← richCompare .Eq a b)) Q E s := by
    refine wpAny_bind (wpAny_mono h (fun v s' z => ?_) fun _ _ x => x)
    obtain ⟨k, rfl, q⟩ := z
    exact wpAny_truthy_bool q
  cases a <;> first | exact absurd rfl (hf _ _) | exact fin
end
end Mine
end
section
open PySem PySem.W PyProof.Rows PySem.Calls
set_option Elab.async false
set_option maxRecDepth 100000
set_option maxHeartbeats 8000000
namespace Mine
set_option pp.maxSteps 600
theorem fill3 : (fun (_ : OpenLaw) (_ : Params → Frag) => True) PySem.Challenge.rw_fe0181_02 hd2.heap_39 := by
  k_fill; trivial

abbrev Xs := List (Int × Addr × Value)
def ents (xs : Xs) : List DictEntry := xs.map fun x => ⟨x.1, .ref x.2.1, x.2.2⟩
structure DictAt (g : PM) (d : Addr) (xs : Xs) : Prop where
  obj : ∃ n, g d = some ⟨.type "dict", none, .dict (ents xs).toArray n, #[]⟩
  keys : ∀ x ∈ xs, VarAt g x.2.1 x.1 ∧ 0 ≤ x.1 ∧ x.1 < 32
  nodup : (xs.map (·.1)).Nodup
  low : (d == sysModules) = false
theorem DictAt.le {g g' : PM} {d : Addr} {xs : Xs} (D : DictAt g d xs) (l : g.le g') : DictAt g' d xs :=
  ⟨let ⟨n, h⟩ := D.obj; ⟨n, l _ _ h⟩, fun x hx => ⟨(D.keys x hx).1.le l, (D.keys x hx).2⟩, D.nodup, D.low⟩

theorem range_one {n i : Nat} (h : i < n) : (List.range n).filter (fun j => decide (j = i)) = [i] := by
  induction n with
  | zero => omega
  | succ n ih =>
    rw [List.range_succ, List.filter_append]
    by_cases q : i = n
    · subst q
      have : (List.range i).filter (fun j => decide (j = i)) = [] := by
        rw [List.filter_eq_nil_iff]
        intro a ha
        have := List.mem_range.mp ha
        simp; omega
      rw [this]; simp
    · rw [ih (by omega)]
      have : ¬ n = i := fun e => q e.symm
      simp [this]

theorem ents_get (xs : Xs) (i : Nat) : (ents xs).toArray[i]? = (xs[i]?).map fun x => ⟨x.1, .ref x.2.1, x.2.2⟩ := by
  unfold ents; simp

theorem places_none {xs : Xs} {h : Int} (hk : h ∉ xs.map (·.1)) : placesWithHash (ents xs).toArray.size (fun i => (ents xs).toArray[i]?.map (·.hash)) h = [] := by
  unfold placesWithHash
  rw [List.filter_eq_nil_iff]
  intro i _
  simp only [ents_get]
  cases q : xs[i]? with
  | none => simp
  | some x =>
    simp only [Option.map_some, beq_iff_eq, Option.some.injEq]
    intro e
    exact hk (List.mem_map.mpr ⟨x, List.mem_of_getElem? q, e⟩)

theorem tok_unique {xs : Xs} (hn : (xs.map (·.1)).Nodup) {i j : Nat} {x y : Int × Addr × Value} (hi : xs[i]? = some x) (hj : xs[j]? = some y) (e : x.1 = y.1) : i = j := by
  have h1 : (xs.map (·.1))[i]? = some x.1 := by simp [hi]
  have h2 : (xs.map (·.1))[j]? = some x.1 := by simp [hj, e]
  obtain ⟨li, _⟩ := List.getElem?_eq_some_iff.mp h1
  exact (List.getElem?_inj li hn).mp (h1.trans h2.symm)

theorem places_one {xs : Xs} {i : Nat} {x : Int × Addr × Value} (hn : (xs.map (·.1)).Nodup) (hi : xs[i]? = some x) : placesWithHash (ents xs).toArray.size (fun i => (ents xs).toArray[i]?.map (·.hash)) x.1 = [i] := by
  unfold placesWithHash
  have li : i < (ents xs).toArray.size := by
    obtain ⟨l, _⟩ := List.getElem?_eq_some_iff.mp hi
    simpa [ents] using l
  rw [← range_one li]
  refine List.filter_congr fun j hj => ?_
  simp only [ents_get]
  cases q : xs[j]? with
  | none =>
    have : ¬ j = i := by rintro rfl; rw [hi] at q; cases q
    simp [this]
  | some y =>
    simp only [Option.map_some]
    by_cases e : j = i
    · subst e; rw [hi] at q; cases q; simp
    · have : ¬ y.1 = x.1 := fun z => e (tok_unique hn q hi z)
      simp [e, this]

section
variable {prog : Program} {w : World} {A : Around} {E : Value → Shared → Prop} {s : Shared} {env : Env} {h₀ : Heap} {g : PM} {m : Str → Option Value} {K : Frag}

theorem answers_no {M : Model} {h : Heap} (G : Gd w h) : Looks M h (answersAConstant 175) false := by
  intro A Q E s k q
  obtain ⟨hh, gg, d, tt, os⟩ := s
  have G' := G.keeps k
  have ho := G'.K 175 _ (by k_is)
  unfold answersAConstant
  repeat lk
  exact q

theorem quiet_var {M : Model} {h : Heap} {x : Addr} {k : Int} (n : Nat) (G : Gd w h) (on : g.on h) (V : VarAt g x k) : Looks M h (eqIsQuiet n (.ref x)) false := by
  obtain ⟨ox, hh, t₁, t₂, n', I⟩ := V.inst on
  have L1 : Looks M h (specialOf (.ref x) "__eq__") (some (.ref 175)) := I.type.andThen (looks_findIn G.K (by k_is))
  intro A Q E s kk q
  cases n <;> (unfold eqIsQuiet; refine wpAny_bind (L1 A _ E s kk ?_); exact answers_no G A Q E s kk q)

theorem tells_var {M : Model} {A : Around} {E : Value → Shared → Prop} {s : Shared} {Q : Bool → Shared → Prop} {x : Addr} {k : Int} {st : Value} {stored : List Value} (G : Gd w s.heap) (on : g.on s.heap) (V : VarAt g x k) (h : Q true s) : wpAny M A (tableMayTell (.ref x) (st :: stored)) Q E s := by
  unfold tableMayTell
  simp only [List.isEmpty_cons, Bool.false_eq_true, if_false]
  refine wpAny_bind ((quiet_var 8 G on V).here ?_)
  exact wpAny_pure h

theorem tells_by_var {M : Model} {A : Around} {E : Value → Shared → Prop} {s : Shared} {Q : Bool → Shared → Prop} {x : Addr} {k : Int} {v : Value} {b : Bool} (G : Gd w s.heap) (on : g.on s.heap) (V : VarAt g x k) (hv : Looks M s.heap (eqIsQuiet 8 v) b) (h : Q true s) :
    wpAny M A (tableMayTell v [.ref x]) Q E s := by
  unfold tableMayTell
  simp only [List.isEmpty_cons, Bool.false_eq_true, if_false]
  refine wpAny_bind (hv.here ?_)
  cases b with
  | false => exact wpAny_pure h
  | true =>
    simp only [Bool.not_true, Bool.false_eq_true, if_false, List.forIn_cons, List.forIn_nil]
    refine wpAny_bind (wpAny_bind (wpAny_bind ((quiet_var 8 G on V).here ?_)))
    exact wpAny_pure (wpAny_pure (wpAny_pure h))

theorem tells_nil {M : Model} {A : Around} {E : Value → Shared → Prop} {s : Shared} {Q : Bool → Shared → Prop} {v : Value} (h : Q false s) : wpAny M A (tableMayTell v []) Q E s := wpAny_pure h

/-- a key that no stored token's hash meets -/
theorem find_none {d : Addr} {xs : Xs} {key : Value} {hsh : Int} {Q : Option Nat → Shared → Prop} (on : g.on s.heap) (D : DictAt g d xs) (hs : ∀ x t, key ≠ .str x t)
    (hk : hsh ∉ xs.map (·.1)) (hr : ∀ x ∈ xs, key ≠ .ref x.2.1) (h : Q none s) : wpAny (model prog w) A (dictFind d key hsh) Q E s := by
  obtain ⟨n, hd⟩ := D.obj
  unfold dictFind
  refine wpAny_holding (wpAny_bind (wpAny_dictEntries (on _ _ hd) rfl ?_))
  have hp := places_none hk
  have hany : ((ents xs).toArray.any fun e => e.key == key && e.hash != hsh) = false := by
    rw [← Array.any_toList, List.any_eq_false]
    intro e he
    obtain ⟨x, hx, rfl⟩ := List.mem_map.mp (show e ∈ xs.map (fun x => (⟨x.1, .ref x.2.1, x.2.2⟩ : DictEntry)) by simpa [ents] using he)
    have : ¬ Value.ref x.2.1 = key := fun q => hr x hx q.symm
    simp [this]
  simp only [hp, hany, List.filterMap_nil]
  cases key with
  | str x t => exact absurd rfl (hs x t)
  | ref b =>
    have e1 : (([] : List Value) == [Value.ref b]) = false := rfl
    simp only [List.all_cons, carriedByValue, Bool.false_and, Bool.false_eq_true, if_false, e1]
    refine wpAny_bind (tells_nil ?_)
    simp only [Bool.false_and, Bool.false_eq_true, if_false, List.forIn_nil]
    exact wpAny_bind (wpAny_pure (wpAny_pure h))
  | _ =>
    simp only [List.all_cons, List.all_nil, carriedByValue, Bool.true_and, if_true]
    unfold dictWalkPlain
    simp only [List.forIn_nil]
    exact wpAny_bind (wpAny_pure (wpAny_pure h))

/-- one stored token has the key's hash -/
theorem find_one {d : Addr} {xs : Xs} {key : Value} {i : Nat} {x : Int × Addr × Value} {b : Bool} {Q : Option Nat → Shared → Prop} (G : Gd w s.heap) (on : g.on s.heap) (D : DictAt g d xs) (hs : ∀ x t, key ≠ .str x t)
    (hi : xs[i]? = some x) (hr : ∀ y ∈ xs, key = .ref y.2.1 → y.1 = x.1) (hq : key ≠ .ref x.2.1 → ∃ q, Looks (model prog w) s.heap (eqIsQuiet 8 key) q)
    (he : ∀ Q' : Bool → Shared → Prop, (∀ s', Grow s s' → Q' b s') → wpAny (model prog w) A (eqBool (.ref x.2.1) key) Q' E s)
    (h : ∀ s', Grow s s' → Q (if b then some i else none) s') : wpAny (model prog w) A (dictFind d key x.1) Q E s := by
  obtain ⟨n, hd⟩ := D.obj
  have hd' := on _ _ hd
  obtain ⟨V, k0, k1⟩ := D.keys x (List.mem_of_getElem? hi)
  unfold dictFind
  refine wpAny_holding (wpAny_bind (wpAny_dictEntries hd' rfl ?_))
  have hp := places_one D.nodup hi
  have hei : (ents xs).toArray[i]? = some ⟨x.1, .ref x.2.1, x.2.2⟩ := by rw [ents_get, hi]; rfl
  have hany : ((ents xs).toArray.any fun e => e.key == key && e.hash != x.1) = false := by
    rw [← Array.any_toList, List.any_eq_false]
    intro e he
    obtain ⟨y, hy, rfl⟩ := List.mem_map.mp (show e ∈ xs.map (fun x => (⟨x.1, .ref x.2.1, x.2.2⟩ : DictEntry)) by simpa [ents] using he)
    by_cases q : key = .ref y.2.1
    · simp [hr y hy q]
    · have : ¬ Value.ref y.2.1 = key := fun z => q z.symm
      simp [this]
  have hst : [i].filterMap (fun i => Option.map (fun x => x.key) (ents xs).toArray[i]?) = [.ref x.2.1] := by
    simp only [List.filterMap_cons, hei, Option.map_some, List.filterMap_nil]
  have hlt : (decide (0 ≤ x.1) && decide (x.1 < 32)) = true := by simp [k0, k1]
  simp only [hp, hany, hst]
  cases key with
  | str x t => exact absurd rfl (hs x t)
  | ref a =>
    simp only [List.all_cons, carriedByValue, Bool.false_and, Bool.false_eq_true, if_false]
    by_cases q : Value.ref a = .ref x.2.1
    · rw [if_pos (by simp [q])]
      refine wpAny_bind (wpAny_pure ?_)
      simp only [List.length_cons, List.length_nil, Bool.false_and, Bool.true_and, Nat.zero_add, show decide (1 ≥ 2) = false from rfl, Bool.false_eq_true, if_false, List.forIn_cons, List.forIn_nil, hlt, Bool.not_true, Bool.and_false]
      (refine wpAny_bind (wpAny_bind ?_))
      rw [hei]
      simp only [beq_self_eq_true, if_true]
      refine wpAny_bind (wpAny_dictEpoch hd' rfl (wpAny_bind (he _ fun s' Gr => wpAny_bind (wpAny_dictEpoch (Gr.keep _ _ hd') rfl ?_))))
      simp only [bne_self_eq_false, Bool.false_eq_true, if_false, Option.isSome_none]
      cases b with
      | true =>
        simp only [if_true, show (1 < 2) = True from by simp]
        exact wpAny_bind (wpAny_rule (wpAny_pure (wpAny_pure (wpAny_pure (h s' Gr)))))
      | false =>
        simp only [Bool.false_eq_true, if_false]
        exact wpAny_bind (wpAny_rule (wpAny_pure (wpAny_pure (wpAny_pure (h s' Gr)))))
    · rw [if_neg (by simp; exact fun e => q (by rw [e]))]
      obtain ⟨qq, hqq⟩ := hq q
      refine wpAny_bind (tells_by_var G on V hqq ?_)
      simp only [List.length_cons, List.length_nil, Bool.false_and, Bool.true_and, Nat.zero_add, show decide (1 ≥ 2) = false from rfl, Bool.false_eq_true, if_false, List.forIn_cons, List.forIn_nil, hlt, Bool.not_true, Bool.and_false]
      (refine wpAny_bind (wpAny_bind ?_))
      rw [hei]
      simp only [beq_self_eq_true, if_true]
      refine wpAny_bind (wpAny_dictEpoch hd' rfl (wpAny_bind (he _ fun s' Gr => wpAny_bind (wpAny_dictEpoch (Gr.keep _ _ hd') rfl ?_))))
      simp only [bne_self_eq_false, Bool.false_eq_true, if_false, Option.isSome_none]
      cases b with
      | true =>
        simp only [if_true, show (1 < 2) = True from by simp]
        exact wpAny_bind (wpAny_rule (wpAny_pure (wpAny_pure (wpAny_pure (h s' Gr)))))
      | false =>
        simp only [Bool.false_eq_true, if_false]
        exact wpAny_bind (wpAny_rule (wpAny_pure (wpAny_pure (wpAny_pure (h s' Gr)))))
  | _ =>
    simp only [List.all_cons, List.all_nil, carriedByValue, Bool.true_and, Bool.false_and, Bool.false_eq_true, if_false]
    rw [if_neg (by simp)]
    obtain ⟨qq, hqq⟩ := hq (by simp)
    refine wpAny_bind (tells_by_var G on V hqq ?_)
    simp only [List.length_cons, List.length_nil, Bool.false_and, Bool.true_and, Nat.zero_add, show decide (1 ≥ 2) = false from rfl, Bool.false_eq_true, if_false, List.forIn_cons, List.forIn_nil, hlt, Bool.not_true, Bool.and_false]
    (refine wpAny_bind (wpAny_bind ?_))
    rw [hei]
    simp only [beq_self_eq_true, if_true]
    refine wpAny_bind (wpAny_dictEpoch hd' rfl (wpAny_bind (he _ fun s' Gr => wpAny_bind (wpAny_dictEpoch (Gr.keep _ _ hd') rfl ?_))))
    simp only [bne_self_eq_false, Bool.false_eq_true, if_false, Option.isSome_none]
    cases b with
    | true =>
      simp only [if_true, show (1 < 2) = True from by simp]
      exact wpAny_bind (wpAny_rule (wpAny_pure (wpAny_pure (wpAny_pure (h s' Gr)))))
    | false =>
      simp only [Bool.false_eq_true, if_false]
      exact wpAny_bind (wpAny_rule (wpAny_pure (wpAny_pure (wpAny_pure (h s' Gr)))))

theorem not_key_bt {d : Addr} {xs : Xs} {y : Value} {T : String} (D : DictAt g d xs) (B : BT g T y) : ∀ x ∈ xs, y ≠ .ref x.2.1 := by
  rintro x hx rfl
  obtain ⟨o, h1, h2, _⟩ := B
  obtain ⟨⟨dx, _, _, _, _, sl, h3, _⟩, _⟩ := D.keys x hx
  rw [h1] at h3; cases h3; cases h2

theorem VarAt.inj {x : Addr} {k j : Int} (V : VarAt g x k) (V' : VarAt g x j) : k = j := by
  obtain ⟨dx, _, _, _, _, sl, h1, h2⟩ := V
  obtain ⟨dx', _, _, _, _, sl', h1', h2'⟩ := V'
  rw [h1] at h1'; cases h1'
  rw [h2] at h2'; cases h2'; rfl

/-- the place of a variable's token -/
def tokAt (xs : Xs) (k : Int) : Option Nat := xs.findIdx? (fun x => x.1 == k)
theorem tokAt_some {xs : Xs} {k : Int} {i : Nat} (h : tokAt xs k = some i) : ∃ x, xs[i]? = some x ∧ x.1 = k := by
  obtain ⟨x, h1, h2⟩ := List.findIdx?_eq_some_iff_getElem.mp h
  exact ⟨_, List.getElem?_eq_getElem x, by simpa using h1⟩
theorem tokAt_none {xs : Xs} {k : Int} (h : tokAt xs k = none) : k ∉ xs.map (·.1) := by
  intro q
  obtain ⟨x, hx, e⟩ := List.mem_map.mp q
  have := List.findIdx?_eq_none_iff.mp h x hx
  simp [e] at this

theorem find_var {d y : Addr} {xs : Xs} {k : Int} {Q : Option Nat → Shared → Prop} (hu : A.units + 100 < cLine) (hroom : A.depth < recursionLimit) (G : Gd w s.heap) (on : g.on s.heap) (D : DictAt g d xs) (V : VarAt g y k)
    (h : ∀ s', Grow s s' → Q (tokAt xs k) s') : wpAny (model prog w) A (dictFind d (.ref y) k) Q E s := by
  cases e : tokAt xs k with
  | none =>
    refine find_none on D (fun _ _ q => by cases q) (tokAt_none e) (fun x hx q => ?_) (e ▸ h s .refl)
    cases q
    exact tokAt_none e (List.mem_map.mpr ⟨x, hx, (D.keys x hx).1.inj V⟩)
  | some i =>
    obtain ⟨x, hi, rfl⟩ := tokAt_some e
    obtain ⟨V', _⟩ := D.keys x (List.mem_of_getElem? hi)
    refine find_one (b := true) G on D (fun _ _ q => by cases q) hi (fun z hz q => ?_) (fun _ => ⟨_, quiet_var 8 G on V⟩) (fun Q' hq => ?_) (fun s' Gr => by simpa [e] using h s' Gr)
    · cases q; exact (D.keys z hz).1.inj V
    · by_cases q : Value.ref x.2.1 = .ref y
      · unfold eqBool
        refine wpAny_holding ?_
        rw [if_pos (by simp [q])]
        exact wpAny_bind (wpAny_rule (wpAny_pure (hq s .refl)))
      · exact eqBool_skel q (fun _ _ z => by cases z) (rc_var_var hu hroom G on V' V fun s' Gr => ⟨_, rfl, by simpa using hq s' Gr⟩)

theorem find_bt {d : Addr} {y : Value} {xs : Xs} {hsh : Int} {T : String} {Q : Option Nat → Shared → Prop} (hu : A.units + 100 < cLine) (hroom : A.depth < recursionLimit) (G : Gd w s.heap) (on : g.on s.heap) (D : DictAt g d xs) (B : BT g T y) (hT : GoodT T)
    (hq : ∃ q, Looks (model prog w) s.heap (eqIsQuiet 8 y) q) (h : ∀ s', Grow s s' → Q none s') : wpAny (model prog w) A (dictFind d y hsh) Q E s := by
  have ns : ∀ x t, y ≠ .str x t := by rintro x t rfl; exact B
  cases e : tokAt xs hsh with
  | none => exact find_none on D ns (tokAt_none e) (not_key_bt D B) (h s .refl)
  | some i =>
    obtain ⟨x, hi, rfl⟩ := tokAt_some e
    obtain ⟨V', _⟩ := D.keys x (List.mem_of_getElem? hi)
    refine find_one (b := false) G on D ns hi (fun z hz q => absurd q (not_key_bt D B z hz)) (fun _ => hq) (fun Q' hq' => ?_) (fun s' Gr => h s' Gr)
    exact eqBool_skel (fun q => not_key_bt D B x (List.mem_of_getElem? hi) q.symm) (fun _ _ z => by cases z) (rc_var_bt hu hroom G on V' B hT fun s' Gr => ⟨_, rfl, hq' s' Gr⟩)

theorem quiet_int {M : Model} {h : Heap} {n : Int} {t : Tok} (d : Nat) : Looks M h (eqIsQuiet d (.int n t)) true := by
  refine Looks.of_pure ?_
  cases d <;> rfl

def valAt (xs : Xs) (k : Int) : Option Value := (tokAt xs k).bind fun i => (xs[i]?).map (·.2.2)
theorem DictAt.typeIs {d : Addr} {xs : Xs} (D : DictAt g d xs) (on : g.on s.heap) : s.TypeIs (.ref d) "dict" := let ⟨_, h⟩ := D.obj; ⟨_, on _ _ h, rfl⟩

theorem get_var {d y : Addr} {xs : Xs} {k : Int} {Q : Option Value → Shared → Prop} (hu : A.units + 100 < cLine) (hroom : A.depth < recursionLimit) (G : Gd w s.heap) (on : g.on s.heap) (D : DictAt g d xs) (V : VarAt g y k) (h0 : 0 ≤ k) (h1 : k < 32)
    (h : ∀ s', Grow s s' → Q (valAt xs k) s') : wpAny (model prog w) A (dictGet d (.ref y)) Q E s := by
  unfold dictGet
  refine wpAny_holding (wpAny_bind (pyHash_var hu hroom G on V h0 h1 fun s₁ G1 => wpAny_bind (find_var hu hroom (G.keeps G1.keep) (on.keeps G1.keep) D V fun s₂ G2 => ?_)))
  obtain ⟨n, hd⟩ := D.obj
  have hd' := G2.keep _ _ (G1.keep _ _ (on _ _ hd))
  have hh := h s₂ (G1.trans G2)
  unfold valAt at hh
  cases e : tokAt xs k with
  | none => rw [e] at hh; exact wpAny_pure hh
  | some i =>
    rw [e] at hh
    refine wpAny_bind (wpAny_dictEntries hd' rfl (wpAny_pure ?_))
    rw [ents_get]
    obtain ⟨x, hi, _⟩ := tokAt_some e
    simpa [hi] using hh

theorem get_int {d : Addr} {xs : Xs} {n : Int} {t : Tok} {Q : Option Value → Shared → Prop} (hu : A.units + 100 < cLine) (hroom : A.depth < recursionLimit) (G : Gd w s.heap) (on : g.on s.heap) (D : DictAt g d xs)
    (h : ∀ s', Grow s s' → Q none s') : wpAny (model prog w) A (dictGet d (.int n t)) Q E s := by
  unfold dictGet
  refine wpAny_holding (wpAny_bind (wpAny_pyHash_int (wpAny_bind (find_bt (T := "int") (g := g) hu hroom G on D rfl (.inl rfl) ⟨_, quiet_int 8⟩ fun s₂ G2 => ?_))))
  exact wpAny_pure (h s₂ ⟨G2.keep, G2.gens, G2.bare, G2.size, G2.os⟩)

theorem in_of_get {d : Addr} {key : Value} {Q : Value → Shared → Prop} (hT : s.TypeIs (.ref d) "dict") (hd : (d == sysModules) = false)
    (h : wpAny (model prog w) A.in1 (dictGet d key) (fun r s' => Q (.bool r.isSome) s') E s) : wpAny (model prog w) A (compareOp .In key (.ref d)) Q E s := by
  show wpAny _ _ (do return .bool (← contains (.ref d) key)) Q E s
  refine wpAny_bind ?_
  unfold contains
  try with_reducible refine wpAny_holding ?_
  refine wpAny_bind (wpAny_specialOf hT slot_dict_contains.lookup ?_)
  show wpAny _ _ (if (some (Value.builtin "dict.__contains__") == some Value.none) = true then _ else _) _ E s
  rw [if_neg (by simp)]
  refine wpAny_bind (wpAny_callSpecialUnlessNone?_slot (name := Str.ofString "__contains__") hT slot_dict_contains
    (wpAny_call_entry slot_dict_contains hT entry_dict_contains ?_ (args_dict_contains _ _)))
  show wpAny _ _ (dictGet d key >>= _) _ _ s
  refine wpAny_bind (wpAny_mono h (fun r s' hr => ?_) fun _ _ x => x)
  cases r with
  | some p =>
    show wpAny _ _ (ret (.bool true)) _ _ _
    exact wpAny_pure ⟨_, rfl, wpAny_truthy_bool (wpAny_pure hr)⟩
  | none =>
    show wpAny _ _ (Builtin.Dict.pendingKey? d key >>= _) _ _ _
    exact wpAny_bind (wpAny_pendingKey_other hd (wpAny_pure ⟨_, rfl, wpAny_truthy_bool (wpAny_pure hr)⟩))

theorem item_of_get {d : Addr} {key : Value} {Q : Value → Shared → Prop} (hT : s.TypeIs (.ref d) "dict")
    (h : wpAny (model prog w) A.in1 (dictGet d key) (fun r s' => ∃ v, r = some v ∧ Q v s') E s) : wpAny (model prog w) A (getItem (.ref d) key) Q E s := by
  unfold getItem
  try with_reducible refine wpAny_holding ?_
  refine wpAny_bind (wpAny_sequenceKey hT (by decide) ?_)
  refine wpAny_bind (wpAny_callSpecial?_slot (name := Str.ofString "__getitem__") hT slot_dict_getitem
    (wpAny_call_entry slot_dict_getitem hT entry_dict_getitem ?_ (args_dict_getitem _ _)))
  show wpAny _ _ (dictGet d key >>= _) _ _ s
  refine wpAny_bind (wpAny_mono h (fun r s' hr => ?_) fun _ _ x => x)
  obtain ⟨v, rfl, q⟩ := hr
  exact wpAny_pure ⟨v, rfl, wpAny_pure q⟩
end
end Mine
end
section
open PySem PySem.W PyProof.Rows PySem.Calls
set_option Elab.async false
set_option maxRecDepth 100000
set_option maxHeartbeats 8000000
namespace Mine
set_option pp.maxSteps 600
theorem fill4 : (fun (_ : OpenLaw) (_ : Params → Frag) => True) PySem.Challenge.rw_fe0181_02 hd2.heap_39 := by
  k_fill; trivial
local macro_rules | `(tactic| walk_at "eval Name") => `(tactic| first
  | (refine nm_loc (by assumption) (by exact rfl) ?_)
  | (refine nm_glob (by assumption) (by k_is) ?_)
  | (refine nm_built (by assumption) (by k_is) (by boot_by_name) ?_))
local macro_rules | `(tactic| walk_at "go") => `(tactic| repeat' (first | (k_unfold; (try dsimp only)) | walk1 | (dsimp only; walk1)))
section
variable {prog : Program} {w : World} {A : Around} {E : Value → Shared → Prop} {s : Shared} {env : Env} {h₀ : Heap} {g : PM} {m : Str → Option Value}

def pushed (h : Heap) (C : Addr) : Heap := (h.push emptyDict).push (instObj C h.objs.size)
theorem pushed_keep (h : Heap) (C : Addr) : ∀ b o, h.get? b = some o → (pushed h C).get? b = some o := fun b o e => Heap.get?_push_of_some _ (Heap.get?_push_of_some _ e)
theorem pushed_size (h : Heap) (C : Addr) : (pushed h C).objs.size = h.objs.size + 2 := by unfold pushed; rw [Heap.size_push, Heap.size_push]

/-- an instance with one attribute -/
def OneAt (g : PM) (C : Addr) (name : Str) (x : Addr) (v : Value) : Prop :=
  ∃ dx hh t n, g x = some (instObj C dx) ∧ g dx = some (dictOf [⟨hh, .str name t, v⟩] n)
theorem OneAt.le {g g' : PM} {C : Addr} {name : Str} {x : Addr} {v : Value} (V : OneAt g C name x v) (l : g.le g') : OneAt g' C name x v :=
  let ⟨dx, hh, t, n, h1, h2⟩ := V; ⟨dx, hh, t, n, l _ _ h1, l _ _ h2⟩

theorem PM.ins_ne {g : PM} (a : Addr) (o : Obj) {b : Addr} (h : b ≠ a) : g.ins a o b = g b := by unfold PM.ins; rw [if_neg h]
theorem ins_two {h h' : Heap} {od ox : Obj} (on : g.on h) (k : ∀ b o, h.get? b = some o → h'.get? b = some o) (hd : h'.get? h.objs.size = some od) (hx : h'.get? (h.objs.size + 1) = some ox) :
    Ext h.objs.size g ((g.ins h.objs.size od).ins (h.objs.size + 1) ox) ∧ PM.on ((g.ins h.objs.size od).ins (h.objs.size + 1) ox) h' ∧ h.objs.size ≤ h'.objs.size := by
  have n0 : ∀ b, h.objs.size ≤ b → g b = none := fun b hb => by
    cases q : g b with
    | none => rfl
    | some o => exact absurd (Heap.lt_size (on _ _ q)) (Nat.not_lt.mpr hb)
  refine ⟨(Ext.ins (Nat.le_refl _) (n0 _ (Nat.le_refl _))).trans (Ext.ins (k := h.objs.size) (Nat.le_succ _) ?_) (Nat.le_refl _), fun b o e => ?_, Nat.le_of_lt (Heap.lt_size hd)⟩
  · unfold PM.ins
    rw [if_neg (show ¬ (h.objs.size + 1 = h.objs.size) by omega)]; exact n0 _ (Nat.le_succ _)
  · unfold PM.ins at e
    by_cases q : b = h.objs.size + 1
    · rw [if_pos q] at e; cases e; rw [q]; exact hx
    · rw [if_neg q] at e
      by_cases q' : b = h.objs.size
      · rw [if_pos q'] at e; cases e; rw [q']; exact hd
      · rw [if_neg q'] at e; exact k _ _ (on _ _ e)

theorem make_gen {rows : Value} {R : Result → Shared → Prop} (hu : A.units + 100 < cLine) (hroom : A.depth + 5 < recursionLimit) (G : Gd w s.heap) (on : g.on s.heap)
    (h : ∀ s' g' x, Grow s s' → Ext s.heap.objs.size g g' → g'.on s'.heap → OneAt g' 38 "rows" x rows → s'.gens = s.gens → R (.ok (.ret (.ref x))) s') : codeAny (model prog w) A (.call (.ref 38) ⟨[rows], []⟩) R s := by
  obtain ⟨hh, gg, d, t, os⟩ := s
  refine make_core (init := .ref 35) (makes_of G.K (by k_is)) (looks_findIn G.K (by k_is)) (fun self => bind_fn G.K self (by k_is)) (.inl rfl) ?_
  have kp := pushed_keep hh 38
  refine enterN (g := g) (binds := [("self", .ref (hh.objs.size + 1)), ("rows", rows)]) (G.keeps kp) (by k_is) (by k_is) rfl (by simp only [depth_under_make]; omega) (BindsTo.of_eq rfl) (by decide) (locs rfl) (on.keeps kp) (fun h₁ F => ?_)
  k_fold
  have X0 : (hd2.heap_39 w.params).In hh := G.K
  have FF : Fr hh (pushed hh 38).objs.size h₁ _ := ⟨F.ns, fun b o e => F.keep b o (kp b o e), by rw [pushed_size]; omega⟩
  have NN : News hh (pushed hh 38).objs.size h₁ [(hh.objs.size + 1, instObj 38 hh.objs.size), (hh.objs.size, dictOf [] 0)] := by
    have nh : ∀ b, hh.objs.size ≤ b → hh.get? b = none := fun b hb => by
      cases q : hh.get? b with
      | none => rfl
      | some o => exact absurd (Heap.lt_size q) (Nat.not_lt.mpr hb)
    have p1 : (pushed hh 38).get? (hh.objs.size + 1) = some (instObj 38 hh.objs.size) := by unfold pushed; heap_get
    have p2 : (pushed hh 38).get? hh.objs.size = some (dictOf [] 0) := by unfold pushed; heap_get
    intro p hp
    rcases List.mem_cons.mp hp with rfl | hp
    · exact ⟨F.keep _ _ p1, by rw [pushed_size]; simp, nh _ (by simp)⟩
    · rcases List.mem_cons.mp hp with rfl | hp
      · exact ⟨F.keep _ _ p2, by rw [pushed_size]; simp, nh _ (Nat.le_refl _)⟩
      · cases hp
  repeat walk1
  rename Fr _ _ _ _ => F9
  rename News _ _ _ _ => N9
  have hx := (N9 _ (.head _)).1
  have hd := (N9 _ (.tail _ (.head _))).1
  obtain ⟨e1, e2, e3⟩ := ins_two on F9.keep hd hx
  refine ⟨rfl, h _ _ _ ⟨F9.keep, fun _ _ e => e, id, e3, rfl⟩ e1 e2 ⟨hh.objs.size, _, _, _, PM.ins_self _ _ _, (PM.ins_ne _ _ (by simp)).trans (PM.ins_self _ _ _)⟩ rfl⟩


theorem enterS {s₁ : Shared} {R : Result → Shared → Prop} {a : Addr} {oc : Value} {od : Option Addr} {sl : Array (Option Value)} {fd : FuncData} {body : List Stmt} {args : Args} {binds : List (Str × Value)}
    (G : Gd w s.heap) (ho : (hd2.heap_39 w.params).lookup a = some ⟨oc, od, .func fd, sl⟩) (hcd : codeIn (hd2.heap_39 w.params) fd.code fd.qualname = true) (hbody : fd.body = .stmts body) (hroom : A.depth < recursionLimit)
    (k₁ : ∀ b o, s.heap.get? b = some o → s₁.heap.get? b = some o)
    (hbind : ∀ (A : Around) (E : Value → Shared → Prop) (Q : List (Str × Value) → Shared → Prop), Q binds s₁ → wpAny (model prog w) A (bindArgs fd args) Q E s)
    (hcell : ∀ x ∈ fd.scope.names, x.2 ≠ .cell) (hloc : ∀ x ∈ binds, fd.scope.names.lookup x.1 = some .local) (hg : g.on s₁.heap)
    (h : ∀ h₁, Fx w s₁.heap g s₁.heap.objs.size h₁ (fun x => binds.reverse.lookup x) →
      wpAny (model prog w) (A.deeper (callEnv fd s₁.heap.objs.size a)) (execs body (callEnv fd s₁.heap.objs.size a)) (fun f s' => R (.ok (.ret (match f with | .ret v => v | _ => .none))) s')
        (fun _ _ => False) { s₁ with heap := h₁, toks := s₁.toks + binds.length })
    (hco : fd.scope.isCoroutine = false := by rfl) (hgen : fd.scope.isGenerator = false := by rfl) (hk : fd.scope.kind = .function := by rfl) :
    codeAny (model prog w) A (.call (.ref a) args) R s := by
  refine codeAny_call_function hroom (G.K _ _ ho) rfl hco hgen hbody (codeRec_of G.K hcd) (hbind _ _ _ ?_)
  have G₁ := G.keeps k₁
  refine wpAny_newFunctionEnv hcell hloc (fun h₀ hns₀ hsb₀ => ⟨G₁.nolimit.fresh _ hsb₀, codeAny_func ?_⟩) hk
  have kk : ∀ b o, s₁.heap.get? b = some o → h₀.get? b = some o := fun b o e => hsb₀.extBut b o (Nat.ne_of_lt (Heap.lt_size e)) (Heap.get?_push_of_some _ e)
  exact wpAny_mono (h h₀ ⟨hns₀, fun b o e => kk b o (hg b o e), by
      cases q : g s₁.heap.objs.size with
      | none => rfl
      | some o => exact absurd (Heap.lt_size (hg _ _ q)) (Nat.lt_irrefl _), kk, Nat.le_refl _, G₁⟩) (fun _ _ x => x) (fun _ _ x => x.elim)

theorem make_sup {v : Value} {R : Result → Shared → Prop} (hu : A.units + 100 < cLine) (hroom : A.depth + 5 < recursionLimit) (G : Gd w s.heap)
    (h : ∀ s' tp x dx n hh t, Grow s s' → s'.heap.get? x = some (instObj 135 dx) → s'.heap.get? dx = some (dictOf [⟨hh, .str "_exceptions" t, .ref tp⟩] n) → s'.heap.get? tp = some { cls := .type "tuple", data := .seq #[v] } →
      s.heap.objs.size ≤ x → s.heap.objs.size ≤ dx → s.heap.objs.size ≤ tp → s'.gens = s.gens → R (.ok (.ret (.ref x))) s') : codeAny (model prog w) A (.call (.ref 135) ⟨[v], []⟩) R s := by
  obtain ⟨hh, gg, d, t, os⟩ := s
  refine make_core (init := .ref 118) (makes_of G.K (by k_is)) (looks_findIn G.K (by k_is)) (fun self => bind_fn G.K self (by k_is)) (.inl rfl) ?_
  have kp := pushed_keep hh 135
  have kq : ∀ b o, (pushed hh 135).get? b = some o → ((pushed hh 135).push { cls := .type "tuple", data := .seq #[v] }).get? b = some o := fun b o e => Heap.get?_push_of_some _ e
  refine enterS (g := fun _ => none) (s₁ := ⟨(pushed hh 135).push { cls := .type "tuple", data := .seq #[v] }, gg, d, t, os⟩) (binds := [("self", .ref (hh.objs.size + 1)), ("exceptions", .ref (hh.objs.size + 2))]) (G.keeps kp) (by k_is) (by k_is) rfl (by simp only [depth_under_make]; omega) kq
    (fun A E Q q => ?_) (by decide) (locs rfl) (fun _ _ e => by cases e) (fun h₁ F => ?_)
  · show wpAny _ A (newTuple [v] >>= fun t => pure [(Str.ofString "self", Value.ref (hh.objs.size + 1)), (Str.ofString "exceptions", t)]) Q E _
    rw [← pushed_size hh 135] at q
    exact wpAny_bind (wpAny_newTuple (wpAny_pure q))
  k_fold
  have X0 : (hd2.heap_39 w.params).In hh := G.K
  have FF : Fr hh _ h₁ _ := ⟨F.ns, fun b o e => F.keep b o (kq b o (kp b o e)), by rw [Heap.size_push, pushed_size]; omega⟩
  have NN : News hh ((pushed hh 135).push { cls := .type "tuple", data := .seq #[v] }).objs.size h₁ [(hh.objs.size + 1, instObj 135 hh.objs.size), (hh.objs.size, dictOf [] 0), (hh.objs.size + 2, { cls := .type "tuple", data := .seq #[v] })] := by
    have nh : ∀ b, hh.objs.size ≤ b → hh.get? b = none := fun b hb => by
      cases q : hh.get? b with
      | none => rfl
      | some o => exact absurd (Heap.lt_size q) (Nat.not_lt.mpr hb)
    have p1 : (pushed hh 135).get? (hh.objs.size + 1) = some (instObj 135 hh.objs.size) := by unfold pushed; heap_get
    have p2 : (pushed hh 135).get? hh.objs.size = some (dictOf [] 0) := by unfold pushed; heap_get
    have p3 : ((pushed hh 135).push { cls := .type "tuple", data := .seq #[v] }).get? (hh.objs.size + 2) = some { cls := .type "tuple", data := .seq #[v] } := by unfold pushed; heap_get
    intro p hp
    rcases List.mem_cons.mp hp with rfl | hp
    · exact ⟨F.keep _ _ (kq _ _ p1), by rw [Heap.size_push, pushed_size]; k_ne, nh _ (by simp)⟩
    · rcases List.mem_cons.mp hp with rfl | hp
      · exact ⟨F.keep _ _ (kq _ _ p2), by rw [Heap.size_push, pushed_size]; k_ne, nh _ (Nat.le_refl _)⟩
      · rcases List.mem_cons.mp hp with rfl | hp
        · exact ⟨F.keep _ _ p3, by rw [Heap.size_push, pushed_size]; k_ne, nh _ (by simp)⟩
        · cases hp
  repeat walk1
  rename Fr _ _ _ _ => F9
  rename News _ _ _ _ => N9
  have hx := (N9 _ (.head _)).1
  have hd := (N9 _ (.tail _ (.head _))).1
  have ht := (N9 _ (.tail _ (.tail _ (.head _)))).1
  refine ⟨rfl, h _ _ _ _ _ _ _ ⟨F9.keep, fun _ _ e => e, id, Nat.le_of_lt (Heap.lt_size hd), rfl⟩ hx hd ht (Nat.le_succ _) (Nat.le_refl _) (Nat.le_add_right _ _) rfl⟩
end
end Mine
end
section
open PySem PySem.W PyProof.Rows PySem.Calls
set_option Elab.async false
set_option maxRecDepth 100000
set_option maxHeartbeats 8000000
namespace Mine
set_option pp.maxSteps 600
theorem fill5 : (fun (_ : OpenLaw) (_ : Params → Frag) => True) PySem.Challenge.rw_fe0181_02 hd2.heap_39 := by
  k_fill; trivial
local macro_rules | `(tactic| walk_at "eval Name") => `(tactic| first
  | (refine nm_loc (by assumption) (by first | assumption | exact rfl) ?_)
  | (refine nm_glob (by assumption) (by k_is) ?_)
  | (refine nm_built (by assumption) (by k_is) (by boot_by_name) ?_))
local macro_rules | `(tactic| walk_at "callWith ref") => `(tactic| first
  | (refine callWith_K0 (Gd.K (Fx.gd (by assumption))) (by k_is) ?_)
  | (refine callWith_K (Gd.K (Fx.gd (by assumption))) (by k_is) ?_))
local macro_rules | `(tactic| walk_at "And") => `(tactic| ((with_reducible show Frag.In _ _ ∧ _); refine ⟨Gd.K (Fx.gd (by assumption)), ?_⟩; try dsimp only [List.nil_append, List.cons_append]))
local macro_rules | `(tactic| walk_at "room") => `(tactic| (simp only [Around.deeper, Around.in1, Around.mark]; omega))
local macro_rules | `(tactic| walk_at "go") => `(tactic| repeat' (first | (k_unfold; (try dsimp only)) | walk1 | (dsimp only; walk1)))
section
variable {prog : Program} {w : World} {A : Around} {E : Value → Shared → Prop} {s : Shared} {env : Env} {h₀ : Heap} {g : PM} {m : Str → Option Value}

theorem sup_enter {v : Value} {R : Result → Shared → Prop} (hroom : A.depth < recursionLimit) (G : Gd w s.heap) 
    (h : ∀ s', Grow s s' → s'.gens = s.gens → R (.ok (.ret .none)) s') : codeAny (model prog w) A (.call (.ref 125) ⟨[v], []⟩) R s := by
  refine enterN (g := fun _ => none) (binds := [("self", v)]) G (by k_is) (by k_is) rfl hroom (BindsTo.of_eq rfl) (by decide) (locs rfl) (fun _ _ e => by cases e) (fun h₁ F => ?_)
  k_fold
  walk_at "go"
  exact h _ (Fx.grow (by assumption)) rfl
theorem sup_exit {v : Value} {R : Result → Shared → Prop} (hroom : A.depth < recursionLimit) (G : Gd w s.heap) 
    (h : ∀ s', Grow s s' → s'.gens = s.gens → R (.ok (.ret .none)) s') : codeAny (model prog w) A (.call (.ref 132) ⟨[v, .none, .none, .none], []⟩) R s := by
  refine enterN (g := fun _ => none) (binds := [("self", v), ("exctype", .none), ("excinst", .none), ("exctb", .none)]) G (by k_is) (by k_is) rfl hroom (BindsTo.of_eq rfl) (by decide) (locs rfl) (fun _ _ e => by cases e) (fun h₁ F => ?_)
  k_fold
  walk_at "go"
  exact h _ (Fx.grow (by assumption)) rfl

/-- a key that is in no substitution: looking it up gives nothing -/
def NoKey (w : World) (g : PM) (d : Addr) (v : Value) : Prop :=
  ∀ (prog : Program) (A : Around) (E : Value → Shared → Prop) (s : Shared) (Q : Option Value → Shared → Prop), A.units + 100 < cLine → A.depth < recursionLimit → Gd w s.heap → g.on s.heap →
    (∀ s', Grow s s' → Q none s') → wpAny (model prog w) A (dictGet d v) Q E s
theorem NoKey.int {d : Addr} {xs : Xs} {n : Int} {t : Tok} (D : DictAt g d xs) : NoKey w g d (.int n t) := fun _ _ _ _ _ hu hr G on h => get_int hu hr G on D h
theorem NoKey.le {g' : PM} {d : Addr} {v : Value} (N : NoKey w g d v) (l : g.le g') : NoKey w g' d v := fun p A E s Q hu hr G on h => N p A E s Q hu hr G (on.of_le l) h

/-- what transitive_get walks to -/
inductive WalkN (w : World) (g : PM) (d : Addr) (xs : Xs) : Nat → Value → Value → Prop where
  | free {x : Addr} {k : Int} : VarAt g x k → 0 ≤ k → k < 32 → valAt xs k = none → WalkN w g d xs 0 (.ref x) (.ref x)
  | term {v : Value} : NoKey w g d v → WalkN w g d xs 0 v v
  | step {n : Nat} {x : Addr} {k : Int} {v r : Value} : VarAt g x k → 0 ≤ k → k < 32 → valAt xs k = some v → WalkN w g d xs n v r → WalkN w g d xs (n + 1) (.ref x) r


theorem get_walk0 {n : Nat} {v r : Value} {d : Addr} {xs : Xs} {Q : Option Value → Shared → Prop} (hu : A.units + 100 < cLine) (hroom : A.depth < recursionLimit) (G : Gd w s.heap) (on : g.on s.heap) (D : DictAt g d xs) (W : WalkN w g d xs n v r)
    (h0 : n = 0 → v = r → ∀ s', Grow s s' → Q none s') (h1 : ∀ k v', n = k + 1 → WalkN w g d xs k v' r → ∀ s', Grow s s' → Q (some v') s') : wpAny (model prog w) A (dictGet d v) Q E s := by
  cases W with
  | free V k0 k1 e => exact get_var hu hroom G on D V k0 k1 fun s' Gr => e ▸ h0 rfl rfl s' Gr
  | term N => exact N _ _ _ _ _ hu hroom G on fun s' Gr => h0 rfl rfl s' Gr
  | step V k0 k1 e W => exact get_var hu hroom G on D V k0 k1 fun s' Gr => e ▸ h1 _ _ rfl W s' Gr

theorem sub_dict {value slice : PySem.Expr} {d : Addr} {key : Value} {Q : Value → Shared → Prop} (hT : s.TypeIs (.ref d) "dict") (h : wpAny (model prog w) A (getItem (.ref d) key) Q E s)
    (hs : subscripted slice false (.ref d) key = operate [.ref d, key] (getItem (.ref d) key) := by with_unfolding_all rfl) : wpAny (model prog w) A (subscriptTail value slice (.ref d) key) Q E s :=
  tail_any hT slot_dict_getitem.lookup h hs

theorem tget {y r : Value} {d : Addr} {xs : Xs} {n : Nat} {R : Result → Shared → Prop} (hu : A.units + 200 < cLine) (hroom : A.depth + 20 < recursionLimit) (G : Gd w s.heap) (on : g.on s.heap) (D : DictAt g d xs) (WW : WalkN w g d xs n y r)
    (h : ∀ s', Grow s s' → R (.ok (.ret r)) s') : codeAny (model prog w) A (.call (.ref 146) ⟨[y, .ref d], []⟩) R s := by
  refine enterN (binds := [("key", y), ("d", .ref d)]) G (by k_is) (by k_is) rfl (by omega) (BindsTo.of_eq rfl) (by decide) (locs rfl) on (fun h₁ F => ?_)
  k_fold
  refine wpAny_execs_cons (kw_exec0 ?_)
  repeat walk1
  refine wpAny_call (make_sup ?_ ?_ ?_ fun s₂ tp x dx n₁ hh t₁ Gr2 hx hdx htp _ _ _ _ => ?_)
  · walk_at "room"
  · walk_at "room"
  · exact F.gd
  have F2 := F.after0 Gr2
  have I : PySem.W.InstAt s₂.heap x (instObj 135 dx) 135 (some (dictOf [⟨hh, .str "_exceptions" t₁, .ref tp⟩] n₁)) := ⟨hx, rfl, rfl, hdx⟩
  dsimp only
  refine kw_core0 (C := 135) (fe := 125) (fx := 132) F2.gd.K I (by k_is) (by k_is) (by k_is) (by k_is) ?_
  refine wpAny_call (sup_enter ?_ ?_ fun s₃ Gr3 _ => ?_)
  · walk_at "room"
  · exact F2.gd
  have F3 := F2.after0 Gr3
  refine wpAny_execs_cons (wpAny_While ?_)
  refine codeAny_whileLoop (fun k s' => ∃ v m', Grow s s' ∧ Fx w s.heap g s.heap.objs.size s'.heap m' ∧ m' "key" = some v ∧ m' "d" = some (.ref d) ∧ WalkN w g d xs k v r)
    (fun k s' hI => ?_) n ⟨y, _, ?_, F3, rfl, rfl, WW⟩
  · obtain ⟨v, m', Gr, F', hk, hd, W'⟩ := hI
    repeat walk1
    refine in_of_get (D.typeIs F'.on) D.low (get_walk0 ?_ ?_ F'.gd F'.on D W' (fun e0 e1 s₄ Gr4 => ?_) (fun k₁ v₁ e1 W₁ s₄ Gr4 => ?_))
    · walk_at "room"
    · walk_at "room"
    · subst e0 e1
      have F4 := F'.after0 Gr4
      simp only [Option.isSome_none]
      repeat walk1
      refine wpAny_call (sup_exit ?_ F4.gd fun s₅ Gr5 _ => ?_)
      · walk_at "room"
      have F5 := F4.after0 Gr5
      dsimp only
      repeat walk1
      walk_at "go"
      exact h _ ((Gr.trans Gr4).trans Gr5)
    · subst e1
      have F4 := F'.after0 Gr4
      simp only [Option.isSome_some]
      repeat walk1
      refine sub_dict (D.typeIs F4.on) (item_of_get (D.typeIs F4.on) (get_walk0 ?_ ?_ F4.gd F4.on D W' (fun e0 => by omega) (fun k₂ v₂ e2 W₂ s₅ Gr5 => ?_)))
      · walk_at "room"
      · walk_at "room"
      have F5 := F4.after0 Gr5
      refine ⟨_, rfl, ?_⟩
      refine st_loc F5 (fun h' F6 _ => ?_)
      obtain rfl : k₁ = k₂ := by omega
      refine wpAny_execs_nil ⟨k₁, Nat.lt_succ_self _, v₂, _, ?_, F6, rfl, hd, W₂⟩
      have gr := (Gr.trans Gr4).trans Gr5
      exact ⟨F6.keep, gr.gens, gr.bare, Nat.le_of_lt F6.lt, gr.os⟩
  · exact ((Fx.grow (d := s.drawn) (t := 0) F).trans ⟨Gr2.keep, Gr2.gens, Gr2.bare, Gr2.size, Gr2.os⟩).trans Gr3
end
end Mine
end
section
open PySem PySem.W PyProof.Rows PySem.Calls
set_option Elab.async false
set_option maxRecDepth 100000
set_option maxHeartbeats 8000000
namespace Mine
set_option pp.maxSteps 600
theorem fill6 : (fun (_ : OpenLaw) (_ : Params → Frag) => True) PySem.Challenge.rw_fe0181_02 hd2.heap_39 := by
  k_fill; trivial
local macro_rules | `(tactic| walk_at "no such word 0") => `(tactic| fail)
local macro_rules | `(tactic| walk_at "eval Name") => `(tactic| first
  | (refine nm_loc (by assumption) (by first | assumption | exact rfl) ?_)
  | (refine nm_glob (by assumption) (by k_is) ?_)
  | (refine nm_built (by assumption) (by k_is) (by boot_by_name) ?_))
local macro_rules | `(tactic| walk_at "callWith ref") => `(tactic| first
  | (refine callWith_K0 (Gd.K (Fx.gd (by assumption))) (by k_is) ?_)
  | (refine callWith_K (Gd.K (Fx.gd (by assumption))) (by k_is) ?_))
local macro_rules | `(tactic| walk_at "And") => `(tactic| ((with_reducible show Frag.In _ _ ∧ _); refine ⟨Gd.K (Fx.gd (by assumption)), ?_⟩; try dsimp only [List.nil_append, List.cons_append]))
local macro_rules | `(tactic| walk_at "room") => `(tactic| (simp only [Around.deeper, Around.in1, Around.mark]; omega))
local macro_rules | `(tactic| walk_at "go") => `(tactic| repeat' (first | (k_unfold; (try dsimp only)) | walk1 | (dsimp only; walk1)))
section
variable {prog : Program} {w : World} {A : Around} {E : Value → Shared → Prop} {s : Shared} {env : Env} {h₀ : Heap} {g : PM} {m : Str → Option Value}

/-- what isinstance says of a value -/
structure Isi (w : World) (g : PM) (v t : Value) : Prop where
  kit : ∃ H : Heap → Prop, KitX (hd2.heap_39 w.params) v t H ∧ ∀ h, g.on h → H h
  nb : v ≠ .builtin "__main__.__loader__#opaque"
theorem Isi.call {v t c : Value} {b : Bool} {Q : Value → Shared → Prop} (I : Isi w g v t) (G : Gd w s.heap) (on : g.on s.heap) (e : kitOne (hd2.heap_39 w.params) t c = some b) (h : ∀ tk, Q (.bool b) { s with toks := tk }) :
    wpAny (model prog w) A (call (.builtin "isinstance") [v, c]) Q E s := by
  obtain ⟨⟨H, Z, hH⟩, nb⟩ := I
  exact kia_one Z G.K (hH _ on) e nb h

theorem kitOne_of {K : Frag} {t c : Value} {b : Bool} (h : (t == c) = true ∧ b = true ∨ (t == c) = false ∧ kitCls K t c = some b) : kitOne K t c = some b := by
  unfold kitOne
  rcases h with ⟨h1, rfl⟩ | ⟨h1, h2⟩
  · rw [if_pos h1]
  · rw [if_neg (by simp [h1]), h2]
theorem kitCls_ref {K : Frag} {t : Value} {C : Addr} {b : Bool} {o : Obj} {cd : ClassData} (h1 : clsIn K C = some cd) (h2 : typeIn K (.ref C) = some (.type "type")) (h3 : subIn K t (.ref C) = some b) : kitCls K t (.ref C) = some b := by
  unfold kitCls
  simp [h1, h2, h3]
theorem kitCls_type {K : Frag} {t : Value} {T : String} {b : Bool} (h1 : kitMeta T = true) (h3 : subIn K t (.type T) = some b) : kitCls K t (.type T) = some b := by
  unfold kitCls
  simp [h1, h3]

theorem isi_var {x : Addr} {k : Int} (V : VarAt g x k) : Isi w g (.ref x) (.ref 185) := by
  obtain ⟨dx, hh, t₁, t₂, n, sl, h1, h2⟩ := V
  exact ⟨⟨_, kitx_own (x := x) (D := 185) (ox := ⟨.ref 185, some dx, .plain, sl⟩) (od := dictOf [⟨hh, .str "token" t₁, .int k t₂⟩] n) (by k_is) (by k_is) (by k_is) (by k_is) (by k_is) (by k_is), fun h on => ⟨on _ _ h1, rfl, rfl, on _ _ h2⟩⟩, by simp⟩
theorem isi_gen {x : Addr} {v : Value} (V : OneAt g 38 "rows" x v) : Isi w g (.ref x) (.ref 38) := by
  obtain ⟨dx, hh, t₁, n, h1, h2⟩ := V
  exact ⟨⟨_, kitx_own (x := x) (D := 38) (ox := instObj 38 dx) (od := dictOf [⟨hh, .str "rows" t₁, v⟩] n) (by k_is) (by k_is) (by k_is) (by k_is) (by k_is) (by k_is), fun h on => ⟨on _ _ h1, rfl, rfl, on _ _ h2⟩⟩, by simp⟩
theorem isi_int {n : Int} {t : Tok} : Isi w g (.int n t) (.type "int") := ⟨⟨_, kitx_int, fun _ _ => trivial⟩, by simp⟩
theorem isi_bool {b : Bool} : Isi w g (.bool b) (.type "bool") := ⟨⟨_, kitx_bool, fun _ _ => trivial⟩, by simp⟩
theorem isi_none : Isi w g .none (.type "NoneType") := ⟨⟨_, kitx_none, fun _ _ => trivial⟩, by simp⟩
theorem isi_bt {y : Value} {T : String} (B : BT g T y) (hT : GoodT T) : Isi w g y (.type T) := by
  have hh : ∀ a o, g a = some o → o.cls = .type T → ∀ h, g.on h → KitAt a T h := fun a o e1 e2 h on => ⟨o, on _ _ e1, e2⟩
  rcases hT with rfl | rfl | rfl | rfl
  · obtain ⟨n, t, rfl⟩ := B.int_is
    exact isi_int
  · obtain ⟨a, rfl⟩ := B.ref_is (by simp)
    obtain ⟨o, e1, e2, _⟩ := B
    exact ⟨⟨_, kitx_tuple, hh a o e1 e2⟩, by simp⟩
  · obtain ⟨a, rfl⟩ := B.ref_is (by simp)
    obtain ⟨o, e1, e2, _⟩ := B
    exact ⟨⟨_, kitx_list, hh a o e1 e2⟩, by simp⟩
  · obtain ⟨a, rfl⟩ := B.ref_is (by simp)
    obtain ⟨o, e1, e2, _⟩ := B
    exact ⟨⟨_, kitx_dict, hh a o e1 e2⟩, by simp⟩

/-- the answers of isinstance against Var, Generator, tuple, list, dict by the value's type -/
theorem ko_var_var : kitOne (hd2.heap_39 w.params) (.ref 185) (.ref 185) = some true := kitOne_of (.inl ⟨by simp, rfl⟩)
theorem ko_gen_gen : kitOne (hd2.heap_39 w.params) (.ref 38) (.ref 38) = some true := kitOne_of (.inl ⟨by simp, rfl⟩)
theorem ko_type_var {T : String} (hT : T = "int" ∨ T = "tuple" ∨ T = "list" ∨ T = "dict" ∨ T = "bool" ∨ T = "object") : kitOne (hd2.heap_39 w.params) (.type T) (.ref 185) = some false := by
  refine kitOne_of (.inr ⟨by simp, ?_⟩)
  refine kitCls_ref (o := default) (by k_is) (by k_is) ?_
  rcases hT with rfl | rfl | rfl | rfl | rfl | rfl <;> k_is
theorem ko_type_gen {T : String} (hT : T = "int" ∨ T = "tuple" ∨ T = "list" ∨ T = "dict" ∨ T = "bool" ∨ T = "object") : kitOne (hd2.heap_39 w.params) (.type T) (.ref 38) = some false := by
  refine kitOne_of (.inr ⟨by simp, ?_⟩)
  refine kitCls_ref (o := default) (by k_is) (by k_is) ?_
  rcases hT with rfl | rfl | rfl | rfl | rfl | rfl <;> k_is
theorem ko_var_gen : kitOne (hd2.heap_39 w.params) (.ref 185) (.ref 38) = some false := 
  kitOne_of (.inr ⟨by decide, kitCls_ref (o := default) (by k_is) (by k_is) (by k_is)⟩)
theorem ko_var_type {T : String} (hT : T = "tuple" ∨ T = "list" ∨ T = "dict") : kitOne (hd2.heap_39 w.params) (.ref 185) (.type T) = some false := by
  refine kitOne_of (.inr ⟨by simp, ?_⟩)
  rcases hT with rfl | rfl | rfl <;> exact kitCls_type (by decide +kernel) (by k_is)
theorem ko_type_type {T T' : String} (hT : GoodT T) (hT' : T' = "tuple" ∨ T' = "list" ∨ T' = "dict") : kitOne (hd2.heap_39 w.params) (.type T) (.type T') = some (decide (T = T')) := by
  refine kitOne_of ?_
  rcases hT with rfl | rfl | rfl | rfl <;> rcases hT' with rfl | rfl | rfl <;> first | exact .inl ⟨by decide, by decide⟩ | exact .inr ⟨by decide, kitCls_type (by decide +kernel) (by k_is)⟩

/-- what isvar says -/
theorem isvar_call {v : Value} {t : Value} {b : Bool} {R : Result → Shared → Prop} (hroom : A.depth < recursionLimit) (G : Gd w s.heap) (on : g.on s.heap) (I : Isi w g v t) (e : kitOne (hd2.heap_39 w.params) t (.ref 185) = some b)
    (h : ∀ s', Grow s s' → s'.gens = s.gens → R (.ok (.ret (.bool b))) s') : codeAny (model prog w) A (.call (.ref 197) ⟨[v], []⟩) R s := by
  refine enterN (binds := [("o", v)]) G (by k_is) (by k_is) rfl hroom (BindsTo.of_eq rfl) (by decide) (locs rfl) on (fun h₁ F => ?_)
  k_fold
  repeat walk1
  refine I.call F.gd F.on e (fun tk => ?_)
  walk_at "go"
  exact h _ (Fx.grow (by assumption)) rfl
end
end Mine
end
section
open PySem PySem.W PyProof.Rows PySem.Calls
set_option Elab.async false
set_option maxRecDepth 100000
set_option maxHeartbeats 8000000
namespace Mine
set_option pp.maxSteps 600
theorem fill7 : (fun (_ : OpenLaw) (_ : Params → Frag) => True) PySem.Challenge.rw_fe0181_02 hd2.heap_39 := by
  k_fill; trivial
local macro_rules | `(tactic| walk_at "eval Name") => `(tactic| first
  | (refine nm_loc (by assumption) (by first | assumption | exact rfl) ?_)
  | (refine nm_glob (by assumption) (by k_is) ?_)
  | (refine nm_built (by assumption) (by k_is) (by boot_by_name) ?_))
local macro_rules | `(tactic| walk_at "callWith ref") => `(tactic| first
  | (refine callWith_K0 (Gd.K (Fx.gd (by assumption))) (by k_is) ?_)
  | (refine callWith_K (Gd.K (Fx.gd (by assumption))) (by k_is) ?_))
local macro_rules | `(tactic| walk_at "And") => `(tactic| ((with_reducible show Frag.In _ _ ∧ _); refine ⟨Gd.K (Fx.gd (by assumption)), ?_⟩; try dsimp only [List.nil_append, List.cons_append]))
local macro_rules | `(tactic| walk_at "room") => `(tactic| (simp only [Around.deeper, Around.in1, Around.mark]; omega))
local macro_rules | `(tactic| walk_at "go") => `(tactic| repeat' (first | (k_unfold; (try dsimp only)) | walk1 | (dsimp only; walk1)))
section
variable {prog : Program} {w : World} {A : Around} {E : Value → Shared → Prop} {s : Shared} {env : Env} {h₀ : Heap} {g : PM} {m : Str → Option Value}
theorem looks_forIn {M : Model} {h : Heap} {α : Type} {f : α → PUnit → Sem (ForInStep PUnit)} : ∀ {l : List α}, (∀ e ∈ l, Looks M h (f e ⟨⟩) (.yield ⟨⟩)) → Looks M h (forIn l PUnit.unit f) ⟨⟩
  | [], _ => by
    rw [List.forIn_nil]; exact .now
  | e :: l, hf => by
    rw [List.forIn_cons]
    exact (hf e (.head _)).andThen (looks_forIn fun e he => hf e (.tail _ he))

theorem hash_once {xs : Xs} (hn : (xs.map (·.1)).Nodup) {x : Int × Addr × Value} (hx : x ∈ xs) : ((ents xs).toArray.filter fun e => e.hash == x.1).size ≤ 1 := by
  have : (ents xs).toArray.filter (fun e => e.hash == x.1) = ((ents xs).filter (fun e => e.hash == x.1)).toArray := by simp
  rw [this, List.size_toArray]
  unfold ents
  rw [List.filter_map, List.length_map]
  induction xs with
  | nil => simp
  | cons y ys ih =>
    rw [List.map_cons, List.nodup_cons] at hn
    by_cases q : y.1 = x.1
    · have : ys.filter ((fun e : DictEntry => e.hash == x.1) ∘ fun x : Int × Addr × Value => (⟨x.1, .ref x.2.1, x.2.2⟩ : DictEntry)) = [] := by
        rw [List.filter_eq_nil_iff]
        intro z hz e
        exact hn.1 (List.mem_map.mpr ⟨z, hz, by simpa [q] using e⟩)
      simp [List.filter_cons, q, this]
    · have hx' : x ∈ ys := by
        rcases List.mem_cons.mp hx with rfl | h
        · exact absurd rfl q
        · exact h
      have := ih hn.2 hx' (by simp)
      simpa [List.filter_cons, q] using this

theorem pig : ∀ (n : Nat) (l : List Nat), l.Nodup → (∀ x ∈ l, x < n) → l.length ≤ n
  | 0, l, _, h => by
    cases l with
    | nil => simp
    | cons x l => exact absurd (h x (.head _)) (by omega)
  | n + 1, l, hn, h => by
    by_cases q : n ∈ l
    · have h1 := pig n (l.erase n) (hn.erase n) (fun x hx => by
        have h2 := (hn.mem_erase_iff).mp hx
        have := h x h2.2
        omega)
      rw [List.length_erase_of_mem q] at h1
      omega
    · have := pig n l hn (fun x hx => by
        have h1 := h x hx
        have : x ≠ n := fun e => q (e ▸ hx)
        omega)
      omega
theorem DictAt.len {d : Addr} {xs : Xs} (D : DictAt g d xs) : xs.length ≤ 32 := by
  have hn : ((xs.map (·.1)).map Int.toNat).Nodup := by
    refine List.pairwise_map.mpr (D.nodup.imp_of_mem ?_)
    intro a b ha hb hab e
    obtain ⟨x, hx, rfl⟩ := List.mem_map.mp ha
    obtain ⟨y, hy, rfl⟩ := List.mem_map.mp hb
    have h1 := (D.keys x hx).2
    have h2 := (D.keys y hy).2
    exact hab (by omega)
  have := pig 32 _ hn (fun n hn => by
    obtain ⟨k, hk, rfl⟩ := List.mem_map.mp hn
    obtain ⟨x, hx, rfl⟩ := List.mem_map.mp hk
    have := (D.keys x hx).2
    omega)
  simpa using this

theorem copy_call {d : Addr} {xs : Xs} {Q : Value → Shared → Prop} (hu : A.units + 200 < cLine) (G : Gd w s.heap) (on : g.on s.heap) (D : DictAt g d xs)
    (h : ∀ s' c n, Grow s s' → s'.heap.get? c = some ⟨.type "dict", none, .dict (ents xs).toArray n, #[]⟩ → s.heap.objs.size ≤ c → (c == sysModules) = false → Q (.ref c) s') : wpAny (model prog w) A (call (.builtin "dict.copy") [.ref d]) Q E s := by
  have hT := D.typeIs on
  obtain ⟨n, hd⟩ := D.obj
  have hd' := on _ _ hd
  refine wpAny_call_entry F.slot_dict_copy hT F.entry_dict_copy ?_ (F.args_dict_copy_1 _)
  obtain ⟨hh, gg, dr, t, os⟩ := s
  have LT : Looks (model prog w) hh (typeOf (.ref d)) (.type "dict") := (Looks.ld hd').andThen .now
  have L1 : Looks (model prog w) hh (Builtin.Dict.readDirectly (.ref d)) true := by
    have e1 : Looks (model prog w) hh (isInstance (.ref d) (.type "dict")) true := LT.andThen (Looks.of_pure (by rw [isSubtype_type]; kernel_rfl))
    have e2 : Looks (model prog w) hh (specialOf (.ref d) "__iter__") (some (.builtin "dict.__iter__")) := LT.andThen (Looks.of_pure F.slot_dict_iter.lookup)
    unfold Builtin.Dict.readDirectly
    exact e1.andThen (e2.andThen .now)
  have L2 : Looks (model prog w) hh (Builtin.Dict.entriesForEmpty "dict.copy" d) (ents xs).toArray := by
    unfold Builtin.Dict.entriesForEmpty
    have ld : Looks (model prog w) hh (dictEntries d) (ents xs).toArray := fun A Q E s k q => wpAny_dictEntries (k _ _ hd') rfl q
    refine ld.andThen ?_
    rw [← Array.forIn_toList]
    refine Looks.andThen (looks_forIn fun e he => ?_) .now
    obtain ⟨x, hx, rfl⟩ := List.mem_map.mp (show e ∈ xs.map (fun x => (⟨x.1, .ref x.2.1, x.2.2⟩ : DictEntry)) by simpa [ents] using he)
    obtain ⟨V, _⟩ := D.keys x hx
    obtain ⟨ox, _, _, _, _, I⟩ := V.inst on
    have L3 : Looks (model prog w) hh (Builtin.Dict.quietEq (.ref x.2.1)) false := by
      unfold Builtin.Dict.quietEq
      exact (I.type.andThen (looks_findIn (r := some (.ref 175)) G.K (by k_is))).andThen .now
    refine L3.andThen ?_
    have h1 := hash_once D.nodup hx
    simp only [Bool.not_false, if_true]
    rw [if_neg (by omega)]
    exact .now
  have low := D.low
  show wpAny _ _ (ite ((d == sysModules) = true) _ _) _ _ _
  rw [if_neg (by rw [low]; exact Bool.false_ne_true)]
  show wpAny _ _ (Builtin.Dict.copyOf "dict.copy" (.ref d) >>= _) _ _ _
  refine wpAny_bind ?_
  unfold Builtin.Dict.copyOf
  refine wpAny_bind (wpAny_pure ?_)
  unfold Builtin.Dict.showsAll
  rw [if_neg (by rw [low]; exact Bool.false_ne_true)]
  refine wpAny_bind (wpAny_pure ?_)
  refine wpAny_bind (wpAny_dictEntries hd' rfl ?_)
  have done_ : ∀ es : Array DictEntry, es = (ents xs).toArray → wpAny (model prog w) A.in1 (newDict es) (fun a s' => wpAny (model prog w) A.in1 (do
        let __do_lift ← bearsInstanceDictMark d
        if __do_lift = true then
          (match a with
            | .ref ca => do markAsInstanceDict ca; ret a
            | _ => ret a)
        else ret a) (fun fin s' => ∃ v, fin = .done (.ret v) ∧ Q v s') E s') E ⟨hh, gg, dr, t, os⟩ := by
    rintro es rfl
    have hl := D.len
    unfold newDict
    refine wpAny_newObj_type ?_ (by show (ents xs).toArray.size ≤ sizeLine + 1; rw [List.size_toArray]; unfold ents sizeLine; rw [List.length_map]; omega)
    unfold bearsInstanceDictMark
    refine wpAny_bind (wpAny_bind (wpAny_load (Heap.get?_push_of_some _ hd') (wpAny_pure ?_)))
    rw [if_neg (by simp)]
    have n1 : (hh.objs.size == sysModules) = false := by
      have := Heap.lt_size (G.K 302 _ (by k_is))
      rw [beq_eq_false_iff_ne]
      intro e
      have : hh.objs.size = 1 := e
      have h2 : 302 < hh.objs.size := by assumption
      omega
    exact wpAny_pure ⟨_, rfl, h _ _ _ ⟨fun b o e => Heap.get?_push_of_some _ e, fun _ _ e => e, id, by show _ ≤ (Heap.push _ _).objs.size; rw [Heap.size_push]; exact Nat.le_succ _, rfl⟩
      (Heap.get?_push_size _ rfl) (Nat.le_refl _) n1⟩
  split
  · rename_i he
    exact wpAny_bind (wpAny_rule (done_ #[] (by simpa using he.symm)))
  · refine wpAny_bind (L1.at ?_)
    rw [if_pos rfl]
    refine wpAny_bind (L2.at ?_)
    exact done_ _ rfl

theorem Fx.upd {L c : Addr} {h : Heap} {f : Obj → Obj} (F : Fx w h₀ g L h m) (hL : c ≠ L) (gc : g c = none) (hcs : h₀.objs.size ≤ c) : Fx w h₀ g L (h.update c f) m := by
  have hs : Heap.SameBut c h (h.update c f) := Heap.SameBut.update ..
  exact ⟨F.ns.sameBut hs (Ne.symm hL), fun a o e => (hs.2 a (fun q => by rw [q, gc] at e; cases e)).trans (F.on a o e), F.off,
    fun a o e => (hs.2 a (Nat.ne_of_lt (Nat.lt_of_lt_of_le (Heap.lt_size e) hcs))).trans (F.keep a o e), F.above, F.gd₀⟩
theorem PM.none_of {h : Heap} {c : Addr} (on : g.on h) (hc : h.objs.size ≤ c) : g c = none := by
  cases q : g c with
  | none => rfl
  | some o => exact absurd (Heap.lt_size (on _ _ q)) (Nat.not_lt.mpr hc)

theorem set_new {c u : Addr} {xs : Xs} {k : Int} {v : Value} {n : Nat} {Q : Unit → Shared → Prop} (hu : A.units + 200 < cLine) (hroom : A.depth < recursionLimit) (G : Gd w s.heap) (on : g.on s.heap)
    (hc : s.heap.get? c = some ⟨.type "dict", none, .dict (ents xs).toArray n, #[]⟩) (hk : ∀ x ∈ xs, VarAt g x.2.1 x.1 ∧ 0 ≤ x.1 ∧ x.1 < 32) (hn : (xs.map (·.1)).Nodup) (low : (c == sysModules) = false) (gc : g c = none)
    (V : VarAt g u k) (h0 : 0 ≤ k) (h1 : k < 32) (e : tokAt xs k = none)
    (h : ∀ s', Grow s s' → Q () { s' with heap := s'.heap.update c (Obj.mapDictKeys (·.push ⟨k, .ref u, v⟩)) }) : wpAny (model prog w) A (setItem (.ref c) (.ref u) v) Q E s := by
  have gle : g.le (g.ins c ⟨.type "dict", none, .dict (ents xs).toArray n, #[]⟩) := fun b o q => by
    unfold PM.ins
    by_cases z : b = c
    · subst z; rw [gc] at q; cases q
    · rw [if_neg z]; exact q
  have on1 : PM.on (g.ins c ⟨.type "dict", none, .dict (ents xs).toArray n, #[]⟩) s.heap := fun b o q => by
    unfold PM.ins at q
    by_cases z : b = c
    · rw [if_pos z] at q; cases q; rw [z]; exact hc
    · rw [if_neg z] at q; exact on _ _ q
  have D : DictAt (g.ins c ⟨.type "dict", none, .dict (ents xs).toArray n, #[]⟩) c xs := ⟨⟨_, PM.ins_self _ _ _⟩, fun x hx => ⟨(hk x hx).1.le gle, (hk x hx).2⟩, hn, low⟩
  have hT : s.TypeIs (.ref c) "dict" := ⟨_, hc, rfl⟩
  unfold setItem
  try with_reducible refine wpAny_holding ?_
  refine wpAny_bind (wpAny_sequenceKey hT (by decide) ?_)
  refine wpAny_bind (wpAny_callSpecial?_slot (name := Str.ofString "__setitem__") hT slot_dict_setitem
    (wpAny_call_entry slot_dict_setitem hT entry_dict_setitem ?_ (args_dict_setitem _ _ _)))
  show wpAny _ _ (Builtin.Dict.notOrdered "__setitem__" ⟨[.ref c, .ref u, v], []⟩ >>= _) _ _ s
  refine wpAny_bind (wpAny_notOrdered_dict hT ?_)
  show wpAny _ _ (dictSet c (.ref u) v >>= _) _ _ s
  refine wpAny_bind ?_
  unfold dictSet dictSetHashed
  refine wpAny_holding (wpAny_bind (pyHash_var (by simp only [Around.in1]; omega) hroom G on V h0 h1 fun s₁ G1 => wpAny_holding (wpAny_bind (find_var (by simp only [Around.in1]; omega) hroom (G.keeps G1.keep) (on1.keeps G1.keep) D (V.le gle) fun s₂ G2 => ?_))))
  rw [e]
  have hl := D.len
  have hc2 := G2.keep _ _ (G1.keep _ _ hc)
  refine wpAny_bind (wpAny_rule (wpAny_updateDictKeys hc2 rfl ?_ (by rw [List.size_toArray]; unfold ents sizeLine; rw [List.length_map]; omega) (by simp)))
  exact wpAny_pure ⟨.none, rfl, wpAny_pure (h s₂ (G1.trans G2))⟩

theorem assoc_call {d u : Addr} {k : Int} {xs : Xs} {v : Value} {R : Result → Shared → Prop} (hu : A.units + 400 < cLine) (hroom : A.depth + 10 < recursionLimit) (G : Gd w s.heap) (on : g.on s.heap) (D : DictAt g d xs)
    (V : VarAt g u k) (h0 : 0 ≤ k) (h1 : k < 32) (e : tokAt xs k = none)
    (h : ∀ s' g' c, Grow s s' → Ext s.heap.objs.size g g' → g'.on s'.heap → DictAt g' c (xs ++ [(k, u, v)]) → R (.ok (.ret (.ref c))) s') : codeAny (model prog w) A (.call (.ref 205) ⟨[.ref d, .ref u, v], []⟩) R s := by
  refine enterN (binds := [("s", .ref d), ("u", .ref u), ("v", v)]) G (by k_is) (by k_is) rfl (by omega) (BindsTo.of_eq rfl) (by decide) (locs rfl) on (fun h₁ F => ?_)
  k_fold
  repeat walk1
  refine getMethod_builtin (D.typeIs F.on) PySem.F.plainAttrs_dict PySem.F.slot_dict_copy PySem.F.type_dict_copy (fun a q => ?_) ?_
  · cases q
    obtain ⟨n, hd⟩ := D.obj
    exact ⟨_, F.on _ _ hd, rfl⟩
  repeat walk1
  refine copy_call ?_ F.gd F.on D fun s₂ c n Gr2 hc hcs low => ?_
  · walk_at "room"
  have F2 := F.after0 Gr2
  have cL : c ≠ s.heap.objs.size := Nat.ne_of_gt (Nat.lt_of_lt_of_le F.ns.lt hcs)
  have gc : g c = none := PM.none_of F.on hcs
  have cs : s.heap.objs.size ≤ c := Nat.le_trans (Nat.le_of_lt F.ns.lt) hcs
  refine st_loc F2 (fun h₃ F3 sb3 => ?_)
  have hc3 := (sb3.2 c cL).trans hc
  repeat walk1
  refine set_new ?_ ?_ F3.gd F3.on hc3 D.keys D.nodup low gc V h0 h1 e fun s₄ Gr4 => ?_
  · walk_at "room"
  · walk_at "room"
  have F4 := (F3.after0 Gr4).upd (f := Obj.mapDictKeys (·.push ⟨k, .ref u, v⟩)) cL gc cs
  have hc4 := Heap.get?_update_self (Obj.mapDictKeys (·.push ⟨k, .ref u, v⟩)) (Gr4.keep _ _ hc3) rfl
  walk_at "go"
  have gl : g.le (g.ins c ⟨.type "dict", none, .dict (ents (xs ++ [(k, u, v)])).toArray (n + 1), #[]⟩) := (Ext.ins (k := 0) (Nat.zero_le _) gc).le
  refine h _ (g.ins c ⟨.type "dict", none, .dict (ents (xs ++ [(k, u, v)])).toArray (n + 1), #[]⟩) c ?_ (Ext.ins cs gc) ?_ ⟨⟨_, PM.ins_self _ _ _⟩, fun x hx => ?_, ?_, low⟩
  · exact ⟨F4.keep, fun i x q => Gr4.gens i x (Gr2.gens i x q), fun b => Gr4.bare (Gr2.bare b), Nat.le_of_lt F4.lt, Gr4.os.trans Gr2.os⟩
  · intro b o q
    unfold PM.ins at q
    by_cases z : b = c
    · rw [if_pos z] at q; cases q; rw [z, hc4]
      unfold ents
      simp [Obj.mapDictKeys]
    · rw [if_neg z] at q; exact F4.on _ _ q
  · rcases List.mem_append.mp hx with hx | hx
    · exact ⟨(D.keys x hx).1.le gl, (D.keys x hx).2⟩
    · obtain rfl := List.mem_singleton.mp hx
      exact ⟨V.le gl, h0, h1⟩
  · rw [List.map_append]
    refine List.nodup_append.mpr ⟨D.nodup, by simp, fun a ha b hb => ?_⟩
    obtain rfl : b = k := by simpa using hb
    rintro rfl
    exact tokAt_none e ha

end
end Mine
end
section
open PySem PySem.W PyProof.Rows PySem.Calls
open PySem.W.X (SegX wake_any)
set_option Elab.async false
set_option maxRecDepth 100000
set_option maxHeartbeats 8000000
namespace Mine
set_option pp.maxSteps 600
theorem fill8 : (fun (_ : OpenLaw) (_ : Params → Frag) => True) PySem.Challenge.rw_fe0181_02 hd2.heap_39 := by
  k_fill; trivial
section
variable {prog : Program} {w : World} {A : Around} {c : Code} {fs : List Frame} {s : Shared} {env : Env} {P : End → Shared → Prop} {gd : Bool → Bool} {lv : List Value → List Value} {H : Value → Sem Fin}

theorem sx_wrap {α : Type} {m : Sem α} {K : α → Sem Fin} (h : wpAny (model prog w) (A.over c fs) m (fun a s' => SegX (model prog w) A c (K a) fs s' P) (fun _ _ => False) s) :
    SegX (model prog w) A c (m.wrap K H gd lv) fs s P := by
  rintro Γ p rfl hΓ
  obtain ⟨e, s', hr, hq⟩ := runs_wrap_of_wp (Φ := fun e s' => e.quiet = true ∧ P e s') K H gd lv m (h (Γ.over fs) p (hΓ.over fs)) (fun a p' s' h' => h' Γ p' rfl hΓ) (fun x p' s' h' => h'.elim)
  exact ⟨e, s', hr, hq⟩
theorem wrap_bind {α β : Type} (m : Sem α) (f : α → Sem β) (K : β → Sem Fin) : (m >>= f).wrap K H gd lv = m.wrap (fun a => (f a).wrap K H gd lv) H gd lv := by
  rw [Sem.bind_eq_wrap', Sem.wrap_wrap]
  rfl
/-- a part that yields nothing, then the rest -/
theorem sx_b {α β : Type} {m : Sem α} {f : α → Sem β} {K : β → Sem Fin} (h : wpAny (model prog w) (A.over c fs) m (fun a s' => SegX (model prog w) A c ((f a).wrap K H gd lv) fs s' P) (fun _ _ => False) s) :
    SegX (model prog w) A c ((m >>= f).wrap K H gd lv) fs s P := by
  rw [wrap_bind]; exact sx_wrap h
theorem sx_bb {α β : Type} {m : Sem α} {f : α → Sem β} {K : β → Sem Fin} (h : SegX (model prog w) A c (m.wrap (fun a => (f a).wrap K H gd lv) H gd lv) fs s P) :
    SegX (model prog w) A c ((m >>= f).wrap K H gd lv) fs s P := by
  rw [wrap_bind]; exact h

theorem sx_nil {K : Flow → Sem Fin} (h : SegX (model prog w) A c (K .next) fs s P) : SegX (model prog w) A c ((execs [] env).wrap K H gd lv) fs s P := h
theorem sx_cons {st : Stmt} {rest : List Stmt} {K : Flow → Sem Fin}
    (h : SegX (model prog w) A c ((exec st env).wrap (fun f => match f with | .next => (execs rest env).wrap K H gd lv | f => K f) H gd lv) fs s P) :
    SegX (model prog w) A c ((execs (st :: rest) env).wrap K H gd lv) fs s P := by rw [execs_cons_wrap]; exact h
/-- a statement that yields nothing -/
theorem sx_stmt {st : Stmt} {rest : List Stmt} {K : Flow → Sem Fin}
    (h : wpAny (model prog w) (A.over c fs) (exec st env) (fun f s' => SegX (model prog w) A c (match f with | .next => (execs rest env).wrap K H gd lv | f => K f) fs s' P) (fun _ _ => False) s) :
    SegX (model prog w) A c ((execs (st :: rest) env).wrap K H gd lv) fs s P := sx_cons (sx_wrap h)
theorem sx_if {t : PySem.Expr} {b o : List Stmt} {pos : Pos} {K : Flow → Sem Fin}
    (h : wpAny (model prog w) (A.over c fs) (isTrue t env (eval t env)) (fun k s' => SegX (model prog w) A c ((if k = true then execs b env else execs o env).wrap K H gd lv) fs s' P) (fun _ _ => False) s) :
    SegX (model prog w) A c ((exec (.If t b o pos) env).wrap K H gd lv) fs s P := by
  show SegX _ _ _ ((do standAt pos; if ← isTrue t env (eval t env) then execs b env else execs o env : Sem Flow).wrap K H gd lv) _ _ _
  exact sx_b (wpAny_standAt (sx_b h))

theorem yo_eq (hco : env.scope.isCoroutine = false) (v : Value) : yieldOut env v = yieldValue v := by simp only [yieldOut, hco, Bool.false_eq_true, if_false]
theorem sx_yieldOut {v : Value} {K : Value → Sem Fin} (hfs : splitAtGen fs = none) (hgd : gd false = false) (hfg : fs.any Frame.guarded = false)
    (h : ∀ p (k : Resume → Sem Fin), (∀ x, k (.send x) = K x) → P (.susp v false (lv []) k c p fs) s) (hco : env.scope.isCoroutine = false := by rfl) :
    SegX (model prog w) A c ((yieldOut env v).wrap K H gd lv) fs s P := by
  rw [yo_eq hco]
  show SegX _ _ _ (.yield v (gd false) (lv []) _) _ _ _
  rw [hgd]
  exact X.s_yield prog w A c fs P s v (lv []) _ hfs hfg fun p => h p _ fun x => rfl
/-- `yield e` as a statement -/
theorem sx_Expr_Yield {e : PySem.Expr} {ypos pos : Pos} {K : Flow → Sem Fin} (hfs : splitAtGen fs = none) (hgd : gd false = false) (hfg : fs.any Frame.guarded = false)
    (h : wpAny (model prog w) (A.over c fs) (eval e env) (fun v s' => ∀ p (k : Resume → Sem Fin), (∀ x s'' P', SegX (model prog w) A c (K .next) fs s'' P' → SegX (model prog w) A c (k (.send x)) fs s'' P') → P (.susp v false (lv []) k c p fs) s') (fun _ _ => False) s)
    (hco : env.scope.isCoroutine = false := by rfl) (hi : interactive env = false := by rfl) :
    SegX (model prog w) A c ((exec (.Expr (.Yield (some e) ypos) pos) env).wrap K H gd lv) fs s P := by
  rw [exec_Expr env _ pos hi rfl]
  show SegX (model prog w) A c (.at pos fun _ => ((eval e env >>= fun v => (standAt ypos >>= fun _ => yieldOut env v)) >>= fun x =>
    dropValue (.Yield (some e) ypos) pos x).wrap K H gd lv) fs s P
  refine sx_wrap (H := .raise) (gd := id) (lv := id) (m := standAt pos) (K := fun _ => ((eval e env >>= fun v => (standAt ypos >>= fun _ => yieldOut env v)) >>= fun x =>
    dropValue (.Yield (some e) ypos) pos x).wrap K H gd lv) (wpAny_standAt ?_)
  refine sx_bb (sx_b (wpAny_mono h (fun v s' h' => ?_) fun _ _ x => x))
  refine sx_b (wpAny_standAt (sx_yieldOut hfs hgd hfg (fun p k hk => h' p k fun x s'' P' q => ?_) hco))
  rw [hk]
  exact sx_wrap (wpAny_dropValue q)
/-- `x = yield e` -/
theorem sx_Assign_Yield {e : PySem.Expr} {x : Str} {xpos ypos pos : Pos} {K : Flow → Sem Fin} (hfs : splitAtGen fs = none) (hgd : gd false = false) (hfg : fs.any Frame.guarded = false)
    (h : wpAny (model prog w) (A.over c fs) (eval e env) (fun v s' => ∀ p (k : Resume → Sem Fin), (∀ y s'' P', wpAny (model prog w) (A.over c fs) (storeName env x y) (fun _ s3 => SegX (model prog w) A c (K .next) fs s3 P') (fun _ _ => False) s'' → SegX (model prog w) A c (k (.send y)) fs s'' P') → P (.susp v false (lv []) k c p fs) s') (fun _ _ => False) s)
    (hco : env.scope.isCoroutine = false := by rfl) :
    SegX (model prog w) A c ((exec (.Assign [.Name x xpos] (.Yield (some e) ypos) pos) env).wrap K H gd lv) fs s P := by
  show SegX _ _ _ ((do
    standAt pos
    let v ← (eval e env >>= fun v => (standAt ypos >>= fun _ => yieldOut env v))
    assign (.Name x xpos) env v
    pure .next : Sem Flow).wrap K H gd lv) _ _ _
  refine sx_b (wpAny_standAt ?_)
  refine sx_bb (sx_b (wpAny_mono h (fun v s' h' => ?_) fun _ _ x => x))
  refine sx_b (wpAny_standAt (sx_yieldOut hfs hgd hfg (fun p k hk => h' p k fun y s'' P' q => ?_) hco))
  rw [hk]
  exact sx_b (wpAny_assign_Name (wpAny_mono q (fun _ _ z => z) fun _ _ z => z))

theorem sx_func {body : List Stmt}
    (h : SegX (model prog w) A (.func body env) ((execs body env).wrap (fun f => .pure (.done (.ret (match f with | .ret v => v | _ => .none))))
      (fun e => (leaving env e).wrap (fun _ => .raise e) .raise id id) id id) fs s P) :
    SegX (model prog w) A (.func body env) (denote table (.func body env)) fs s P := by
  show SegX _ A _ (.point [] fun _ => ((execs body env).onRaise (leaving env)) >>= _) fs s P
  refine sx_wrap (m := point) (H := .raise) (gd := id) (lv := fun _ => []) (K := fun _ => ((execs body env).onRaise (leaving env)) >>= _) (wpAny_point ?_)
  rw [Sem.onRaise_eq_wrap, Sem.bind_eq_wrap', Sem.wrap_wrap]
  rw [Sem.wrap_congr (execs body env) _ _ (K' := fun f => .pure (.done (.ret (match f with | .ret v => v | _ => .none))))
    (H' := fun e => (leaving env e).wrap (fun _ => .raise e) .raise id id) (fun f => by cases f <;> rfl)
    (fun e => by rw [Sem.bind_eq_wrap, Sem.wrap_wrap]; rfl)]
  exact h
end
end Mine
end
section
open PySem PySem.W PyProof.Rows PySem.Calls
open PySem.W.X (SegX wake_any)
set_option Elab.async false
set_option maxRecDepth 100000
set_option maxHeartbeats 8000000
namespace Mine
set_option pp.maxSteps 600
section
variable {prog : Program} {w : World} {A : Around} {c : Code} {fs : List Frame} {s : Shared} {env : Env} {P : End → Shared → Prop} {gd : Bool → Bool} {lv : List Value → List Value} {H : Value → Sem Fin}

/-- `for` inside a generator: the loop's own activation -/
theorem sx_for {target iter : PySem.Expr} {body orelse : List Stmt} {pos : Pos} {K : Flow → Sem Fin} (hgd : gd false = false)
    (h : wpAny (model prog w) (A.over c fs) (eval iter env) (fun x s₁ => wpAny (model prog w) (A.over c fs) (pyIter x) (fun it s₂ =>
      ∀ p (kk : Result → Sem Fin), (∀ f, kk (.ok f) = K f) → SegX (model prog w) A (.forLoop target it body orelse env) (denote table (.forLoop target it body orelse env)) (.ret kk none false (lv []) c p [] :: fs) s₂ P)
      (fun _ _ => False) s₁) (fun _ _ => False) s)
    (hs : ∀ x, foldedSetIterable iter env x = pure x := by intro _; rfl) :
    SegX (model prog w) A c ((exec (.For target iter body orelse pos) env).wrap K H gd lv) fs s P := by
  rw [exec_For]
  refine sx_b (wpAny_standAt ?_)
  refine sx_b (wpAny_mono h (fun x s₁ h₁ => ?_) fun _ _ z => z)
  refine sx_b (wpAny_of_eq (hs x) ?_)
  refine sx_b (wpAny_standAt ?_)
  refine sx_b (wpAny_holding (wpAny_mono h₁ (fun it s₂ h₂ => ?_) fun _ _ z => z))
  show SegX _ _ _ (.call (.forLoop target it body orelse env) none (gd false) (lv []) _) _ _ _
  rw [hgd]
  exact X.s_call prog w A c fs P s₂ _ none false (lv []) _ fun p => h₂ p _ fun f => rfl

/-- the frame of such a loop -/
theorem own_split {kk : Result → Sem Fin} {hd : Option Value} {l : List Value} {p : Pos} {kp} (hfs : splitAtGen fs = none) : splitAtGen (.ret kk hd false l c p kp :: fs) = none := by
  show (splitAtGen fs).map _ = none
  rw [hfs]; rfl
theorem own_guard {kk : Result → Sem Fin} {hd : Option Value} {l : List Value} {p : Pos} {kp} (hfg : fs.any Frame.guarded = false) : (Frame.ret kk hd false l c p kp :: fs).any Frame.guarded = false := by
  rw [List.any_cons, hfg]; rfl

def turnK (lc : Code) : Flow → Sem Fin
  | .next | .cont => .pure (.again lc)
  | .brk => .pure (.done .next)
  | .ret v => .pure (.done (.ret v))
def turnH (env : Env) : Value → Sem Fin := fun e => (do noteFrame e env; theTreesLotGoes e : Sem Unit).bind fun _ => .raise e

/-- one turn of a `for` loop -/
theorem sx_forLoop {target : PySem.Expr} {it : Value} {body orelse : List Stmt}
    (h : wpAny (model prog w) (A.over (.forLoop target it body orelse env) fs) (pyNext it) (fun o s₁ => match o with
      | none => SegX (model prog w) A (.block orelse env) ((execs orelse env).wrap (fun f => .pure (.done f)) (turnH env) id id) fs s₁ P
      | some v => wpAny (model prog w) (A.over (.forLoop target it body orelse env) fs) (letOwnedTupleGo target it v) (fun _ s₂ => wpAny (model prog w) (A.over (.forLoop target it body orelse env) fs) (assign target env v) (fun _ s₃ =>
          SegX (model prog w) A (.forLoop target it body orelse env) ((execs body env).wrap (turnK (.forLoop target it body orelse env)) (turnH env) id id) fs s₃ P) (fun _ _ => False) s₂) (fun _ _ => False) s₁)
      (fun _ _ => False) s) :
    SegX (model prog w) A (.forLoop target it body orelse env) (denote table (.forLoop target it body orelse env)) fs s P := by
  show SegX _ A _ ((forTurn target it body orelse env).onRaise (fun x => do noteFrame x env; theTreesLotGoes x)) fs s P
  rw [Sem.onRaise_eq_wrap]
  unfold forTurn
  refine sx_b (wpAny_standAt ?_)
  refine sx_b (wpAny_onRaise ?_)
  refine wpAny_mono h (fun o s₁ h₁ => ?_) (fun _ _ z => z.elim)
  cases o with
  | none =>
    refine X.s_again prog w A _ fs P s₁ _ rfl ?_
    show SegX _ A _ ((do return .done (← (execs orelse env).onRaise (fun x => do noteFrame x env; theTreesLotGoes x)) : Sem Fin)) fs s₁ P
    rw [Sem.onRaise_eq_wrap, Sem.bind_eq_wrap', Sem.wrap_wrap]
    rw [Sem.wrap_congr (execs orelse env) _ _ (K' := fun f => .pure (.done f)) (H' := turnH env) (fun f => by rfl) (fun e => by
      show ((do noteFrame e env; theTreesLotGoes e : Sem Unit).bind fun _ => .raise e).wrap _ _ _ _ = _
      rw [Sem.bind_eq_wrap, Sem.wrap_wrap]
      unfold turnH
      rw [Sem.bind_eq_wrap]; rfl)]
    exact h₁
  | some v =>
    refine sx_b (wpAny_mono h₁ (fun _ s₂ h₂ => ?_) fun _ _ z => z)
    refine sx_b (wpAny_mono h₂ (fun _ s₃ h₃ => ?_) fun _ _ z => z)
    refine sx_bb ?_
    exact X.s_eq prog w A _ fs P s₃ _ _ (Sem.wrap_congr (execs body env) _ _ (fun f => by cases f <;> rfl) (fun e => rfl)) h₃
/-- behind a turn's body -/
theorem sx_turn_next {target : PySem.Expr} {it : Value} {body orelse : List Stmt} {c' : Code} (hq : (Code.forLoop target it body orelse env).quiet = true := by rfl)
    (h : SegX (model prog w) A (.forLoop target it body orelse env) (denote table (.forLoop target it body orelse env)) fs s P) : SegX (model prog w) A c' (turnK (.forLoop target it body orelse env) .next) fs s P :=
  X.s_again prog w A _ fs P s _ hq h
theorem sx_done {f : Flow} {K : Flow → Sem Fin} {c' : Code} {kk : Result → Sem Fin} {l : List Value} {p : Pos} (hk : ∀ f, kk (.ok f) = K f) (h : SegX (model prog w) A c (K f) fs s P) : SegX (model prog w) A c' (.pure (.done f)) (.ret kk none false l c p [] :: fs) s P :=
  X.s_pop prog w A c' fs P s (.ok f) _ rfl kk none false l c p [] (by rw [hk]; exact h)
theorem sx_end {v : Value} {c' : Code} (h : P (.ret (.ok (.ret v))) s) : SegX (model prog w) A c' (.pure (.done (.ret v))) [] s P :=
  X.s_end prog w A c' P s (.ok (.ret v)) _ rfl h
end
end Mine
end
section
open PySem PySem.W PyProof.Rows PySem.Calls
open PySem.W.X (SegX wake_any)
set_option Elab.async false
set_option maxRecDepth 100000
set_option maxHeartbeats 8000000
namespace Mine
set_option pp.maxSteps 600
theorem fill9 : (fun (_ : OpenLaw) (_ : Params → Frag) => True) PySem.Challenge.rw_fe0181_02 hd2.heap_39 := by
  k_fill; trivial

theorem plainAttrs_gen : PlainAttrs "generator" :=
  ⟨⟨"object.__getattribute__", by rw [typeLookup_type, builtinLookup_eq_fast]; kernel_rfl, by decide +kernel⟩, by rw [typeLookup_type, builtinLookup_eq_fast]; kernel_rfl⟩
theorem slot_gen_send : Slot "generator" "send" "generator.send" :=
  .of (owner := "generator") (n := "send") (by rw [typeLookup_type, builtinLookup_eq_fast]; kernel_rfl) (by decide +kernel) (by decide +kernel) (by decide +kernel)
    (by first | exact .inl (by decide +kernel) | exact .inr (by decide +kernel)) (by rw [isSubtype_type]; kernel_rfl)
theorem type_gen_send : typeOf (.builtin "generator.send") = pure (.type "method_descriptor") := by show builtinType _ = _; rw [builtinType_eq_fast]; kernel_rfl
theorem entry_gen_send : entryFor table "generator.send" = some Builtin.«generator.send» := entryFor_of_tree (by kernel_rfl)
theorem args_gen_send (a b : Value) : argsOk "generator.send" ⟨[a, b], []⟩ := by unfold argsOk; kernel_rfl

section
variable {prog : Program} {w : World} {A : Around} {E : Value → Shared → Prop} {s : Shared} {env : Env} {h₀ : Heap} {g : PM} {m : Str → Option Value}

/-- how a generator is woken with v -/
def Wk (gs : GenState) (v : Value) (c₀ : Code) (t₀ : Sem Fin) (fs₀ : List Frame) : Prop :=
  (gs = .fresh c₀ ∧ v = .none ∧ t₀ = denote table c₀ ∧ fs₀ = []) ∨ (∃ k₀ l₀ p₀ cl, gs = .suspended k₀ l₀ c₀ p₀ fs₀ cl ∧ t₀ = k₀ (.send v))

theorem send_gen {a : Addr} {i : Nat} {gs : GenState} {v : Value} {c₀ : Code} {t₀ : Sem Fin} {fs₀ : List Frame} {Q : Value → Shared → Prop} (hh : A.handled = none) (hl : s.heap.NoLimit) (hroom : A.depth < recursionLimit)
    (hg : s.heap.IsGen a i) (hgs : s.gens[i]? = some gs) (hw : Wk gs v c₀ t₀ fs₀)
    (x : SegX (model prog w) A.in1 c₀ t₀ fs₀ (s.setGen i .running) (fun e s₁ => match e with
      | .susp y _ _ _ _ _ _ => Q y (s₁.setGen i e.genState)
      | .ret (.ok (.ret .none)) => ∀ h' e', Heap.NewExc s₁.heap h' e' "StopIteration" → s₁.heap.objs.size ≤ e' → h'.objs.size = e' + 1 → E (.ref e') { s₁.setGen i .finished with heap := h' }
      | _ => False)) :
    wpAny (model prog w) A (call (.builtin "generator.send") [.ref a, v]) Q E s := by
  refine wpAny_call_entry slot_gen_send hg.typeIs entry_gen_send ?_ (args_gen_send _ _)
  show wpAny _ _ (Builtin.Generator.genWake (.ref a) (.send v)) _ _ s
  unfold Builtin.Generator.genWake
  refine wpAny_bind (wpAny_holding (wpAny_genNumber hg (wpAny_bind (wpAny_genState hgs ?_))))
  have main : ∀ (k : GenResult → Sem Fin), (∀ y, k (.yielded y) = ret y) → (∃ f : PUnit → Sem Fin, k (.returned .none) = (do let e ← newExc (.type "StopIteration") []; let r ← raiseNew e; f r)) →
      wpAny (model prog w) A.in1 (.resume i (.send v) [] k) (fun fin s' => ∃ v, fin = .done (.ret v) ∧ Q v s') E s := by
    rintro k k1 ⟨f, k2⟩
    refine wake_any (α := Fin) prog w (c₀ := c₀) (t₀ := t₀) (fs₀ := fs₀) hgs ?_ (fun Γ => Γ.In A.in1) (fun _ z => z) (x.mono fun e s₁ he Γ p hΓ => ?_)
    · rcases hw with ⟨h1, h2, h3, h4⟩ | ⟨k₀, l₀, p₀, cl, h1, h2⟩
      · exact .inl ⟨h1, by rw [h2], h3, h4⟩
      · exact .inr ⟨k₀, l₀, p₀, cl, h1, h2⟩
    · have go : wpAny (model prog w) A.in1 (k e.result) (fun fin s' => ∃ v, fin = .done (.ret v) ∧ Q v s') E (s₁.setGen i e.genState) := by
        cases e with
        | susp y gd l kk c p fs =>
          show wpAny _ _ (k (.yielded y)) _ _ _
          rw [k1]
          exact wpAny_pure ⟨y, rfl, he⟩
        | ret r =>
          cases r with
          | error _ => exact he.elim
          | ok f =>
            cases f with
            | ret z =>
              cases z with
              | none =>
                show wpAny _ _ (k (.returned .none)) _ _ _
                rw [k2]
                refine wpAny_bind ?_
                simp only [newExc, newTuple]
                refine wpAny_bind (wpAny_newObj_type ?_ (by size_fits))
                refine wpAny_bind (m := firstArgMember _ _) (wpAny_of_eq (a := Value.none) (by first | rfl | (simp only [firstArgMember]; rfl)) ?_)
                refine wpAny_newObj_type ?_ (by size_fits)
                simp only [raiseNew]
                refine wpAny_bind (wpAny_bind (wpAny_bind (wpAny_handled ?_)))
                rw [show A.in1.handled = none from hh]
                refine wpAny_pure (wpAny_throw (he _ _ ?_ (by rw [Heap.size_push]; exact Nat.le_succ _) (Heap.size_push ..)))
                refine ⟨fun b o e => Heap.get?_push_of_some _ (Heap.get?_push_of_some _ e), ?_, ⟨_, _, Heap.get?_push_size _ rfl, rfl, rfl⟩⟩
                cases q : s₁.heap.get? _ with
                | none => rfl
                | some o =>
                  have := Heap.lt_size q
                  rw [Heap.size_push] at this
                  exact absurd this (Nat.not_lt.mpr (Nat.le_succ _))
              | _ => exact he.elim
            | _ => exact he.elim
      exact go Γ p hΓ
  cases gs with
  | running => rcases hw with ⟨h, _⟩ | ⟨_, _, _, _, h, _⟩ <;> cases h
  | finished => rcases hw with ⟨h, _⟩ | ⟨_, _, _, _, h, _⟩ <;> cases h
  | _ =>
    refine wpAny_bind (wpAny_roomToWake hl hroom ?_)
    exact main _ (fun _ => rfl) ⟨_, rfl⟩

/-- call a generator's def -/
theorem enterG {R : Result → Shared → Prop} {a : Addr} {oc : Value} {od : Option Addr} {sl : Array (Option Value)} {fd : FuncData} {body : List Stmt} {args : Args} {binds : List (Str × Value)}
    (G : Gd w s.heap) (ho : (hd2.heap_39 w.params).lookup a = some ⟨oc, od, .func fd, sl⟩) (hcd : codeIn (hd2.heap_39 w.params) fd.code fd.qualname = true) (hbody : fd.body = .stmts body) (hroom : A.depth < recursionLimit)
    (hbind : BindsTo s fd args binds) (hcell : ∀ x ∈ fd.scope.names, x.2 ≠ .cell) (hloc : ∀ x ∈ binds, fd.scope.names.lookup x.1 = some .local)
    (h : ∀ s' ga nm qn, Grow s s' → s'.gens = s.gens.push (.fresh (.func body (callEnv fd s.heap.objs.size a))) → s'.heap.Ns s.heap.objs.size (fun x => binds.reverse.lookup x) →
      s'.heap.get? ga = some { cls := .type "generator", data := .fields #[.int s.gens.size 0, nm, qn] } → s.heap.objs.size < ga → R (.ok (.ret (.ref ga))) s')
    (hco : fd.scope.isCoroutine = false := by rfl) (hgen : fd.scope.isGenerator = true := by rfl) (hk : fd.scope.kind = .function := by rfl) :
    codeAny (model prog w) A (.call (.ref a) args) R s := by
  refine codeAny_call_generator hroom (G.K _ _ ho) rfl hco hgen hbody (codeRec_of G.K hcd) (hbind _ _ _ _ ?_)
  refine wpAny_newFunctionEnv hcell hloc (fun h₀ hns₀ hsb₀ => ⟨G.nolimit.fresh _ hsb₀, ?_⟩) hk
  have kk : ∀ b o, s.heap.get? b = some o → h₀.get? b = some o := fun b o e => hsb₀.extBut b o (Nat.ne_of_lt (Heap.lt_size e)) (Heap.get?_push_of_some _ e)
  have lt := hns₀.lt
  refine h _ _ _ _ ⟨fun b o e => Heap.get?_push_of_some _ (kk b o e), fun i x e => ?_, fun b => AllBare.push b rfl, ?_, rfl⟩ rfl (hns₀.keeps fun b o e => Heap.get?_push_of_some _ e) (Heap.get?_push_size _ rfl) lt
  · show (s.gens.push _)[i]? = some x
    rw [Array.getElem?_push]
    split
    · rename_i q
      subst q
      rw [Array.getElem?_eq_none (Nat.le_refl _)] at e; cases e
    · exact e
  · show _ ≤ (Heap.push _ _).objs.size
    rw [Heap.size_push]; exact Nat.le_of_lt (Nat.lt_succ_of_lt lt)
end
end Mine
end
section
open PySem PySem.W PyProof.Rows PySem.Calls
open PySem.W.X (SegX wake_any)
set_option Elab.async false
set_option maxRecDepth 100000
set_option maxHeartbeats 8000000
namespace Mine
set_option pp.maxSteps 600
theorem fill10 : (fun (_ : OpenLaw) (_ : Params → Frag) => True) PySem.Challenge.rw_fe0181_02 hd2.heap_39 := by
  k_fill; trivial
local macro_rules | `(tactic| walk_at "eval Name") => `(tactic| first
  | (refine nm_loc (by assumption) (by first | assumption | exact rfl) ?_)
  | (refine nm_glob (by assumption) (by k_is) ?_)
  | (refine nm_built (by assumption) (by k_is) (by boot_by_name) ?_))
local macro_rules | `(tactic| walk_at "callWith ref") => `(tactic| first
  | (refine callWith_K0 (Gd.K (Fx.gd (by assumption))) (by k_is) ?_)
  | (refine callWith_K (Gd.K (Fx.gd (by assumption))) (by k_is) ?_))
local macro_rules | `(tactic| walk_at "And") => `(tactic| ((with_reducible show Frag.In _ _ ∧ _); refine ⟨Gd.K (Fx.gd (by assumption)), ?_⟩; try dsimp only [List.nil_append, List.cons_append]))
local macro_rules | `(tactic| walk_at "room") => `(tactic| (simp only [Around.deeper, Around.in1, Around.mark]; omega))
local macro_rules | `(tactic| walk_at "go") => `(tactic| repeat' (first | (k_unfold; (try dsimp only)) | walk1 | (dsimp only; walk1)))
section
variable {prog : Program} {w : World} {A : Around} {E : Value → Shared → Prop} {s : Shared} {env : Env} {h₀ : Heap} {g : PM} {m : Str → Option Value}
/-- a Generator object around generator i -/
def GenZ (g : PM) (z : Addr) (i : Nat) : Prop :=
  ∃ a nm qn, OneAt g 38 "rows" z (.ref a) ∧ g a = some { cls := .type "generator", data := .fields #[.int i 0, nm, qn] }
theorem GenZ.le {g g' : PM} {z : Addr} {i : Nat} (Z : GenZ g z i) (l : g.le g') : GenZ g' z i := let ⟨a, nm, qn, h1, h2⟩ := Z; ⟨a, nm, qn, h1.le l, l _ _ h2⟩
def NotGen (w : World) (g : PM) (v : Value) : Prop := ∃ t, Isi w g v t ∧ kitOne (hd2.heap_39 w.params) t (.ref 38) = some false
theorem Isi.le {g g' : PM} {v t : Value} (I : Isi w g v t) (l : g.le g') : Isi w g' v t := ⟨let ⟨H, Z, hH⟩ := I.kit; ⟨H, Z, fun h on => hH h (on.of_le l)⟩, I.nb⟩
theorem NotGen.le {g g' : PM} {v : Value} (I : NotGen w g v) (l : g.le g') : NotGen w g' v := let ⟨t, h1, h2⟩ := I; ⟨t, h1.le l, h2⟩

/-- objects below n keep all but their slots -/
def Slk (n : Nat) (X : Addr → Prop) (h h' : Heap) : Prop := ∀ b o, b < n → ¬ X b → h.get? b = some o → ∃ sl, h'.get? b = some { o with slots := sl }
theorem Slk.refl {n : Nat} {X : Addr → Prop} {h : Heap} : Slk n X h h := fun b o _ _ e => ⟨o.slots, e⟩
theorem Slk.trans {n : Nat} {X : Addr → Prop} {h h' h'' : Heap} (x : Slk n X h h') (y : Slk n X h' h'') : Slk n X h h'' := fun b o k q e => by
  obtain ⟨sl, e⟩ := x b o k q e
  obtain ⟨sl', e⟩ := y b _ k q e
  exact ⟨sl', e⟩
theorem Slk.ns {n : Nat} {X : Addr → Prop} {h h' : Heap} {L : Addr} {m : Str → Option Value} (x : Slk n X h h') (N : h.Ns L m) (hL : L < n) (hX : ¬ X L) : h'.Ns L m := by
  obtain ⟨o, es, ep, h1, h2, h3⟩ := N
  obtain ⟨sl, e⟩ := x L o hL hX h1
  exact ⟨_, es, ep, e, h2, h3⟩

/-- what is kept: objects below n (but the driver's own), generators below k -/
structure Kp (n k : Nat) (X : Addr → Prop) (s s' : Shared) : Prop where
  sl : Slk n X s.heap s'.heap
  gens : ∀ (i : Nat) (x : GenState), i < k → s.gens[i]? = some x → s'.gens[i]? = some x
  bare : AllBare s.gens → AllBare s'.gens
  size : s.heap.objs.size ≤ s'.heap.objs.size
  gsize : s.gens.size ≤ s'.gens.size
  os : s'.os = s.os
theorem Kp.refl {n k : Nat} {X : Addr → Prop} {s : Shared} : Kp n k X s s := ⟨.refl, fun _ _ _ e => e, id, Nat.le_refl _, Nat.le_refl _, rfl⟩
theorem Kp.trans {n k : Nat} {X : Addr → Prop} {s s' s'' : Shared} (x : Kp n k X s s') (y : Kp n k X s' s'') : Kp n k X s s'' :=
  ⟨x.sl.trans y.sl, fun i z q e => y.gens i z q (x.gens i z q e), fun b => y.bare (x.bare b), Nat.le_trans x.size y.size, Nat.le_trans x.gsize y.gsize, y.os.trans x.os⟩
theorem gens_size {a b : Array GenState} (h : ∀ (i : Nat) (x : GenState), a[i]? = some x → b[i]? = some x) : a.size ≤ b.size := by
  rcases Nat.eq_zero_or_pos a.size with q | q
  · omega
  · have h1 := h (a.size - 1) _ (Array.getElem?_eq_getElem (by omega))
    have := (Array.getElem?_eq_some_iff.mp h1).1
    omega
theorem Grow.kp {n k : Nat} {X : Addr → Prop} {s s' : Shared} (G : Grow s s') : Kp n k X s s' :=
  ⟨fun b o _ _ e => ⟨o.slots, G.keep b o e⟩, fun i x _ e => G.gens i x e, G.bare, G.size, gens_size G.gens, G.os⟩

/-- what a generator's turn leaves: all but its own frame and state -/
structure Trn (Y : Addr → Prop) (i : Nat) (g g' : PM) (s s' : Shared) : Prop where
  keep : ∀ b o, ¬ Y b → s.heap.get? b = some o → s'.heap.get? b = some o
  gens : ∀ (j : Nat) (x : GenState), j ≠ i → s.gens[j]? = some x → s'.gens[j]? = some x
  bare : AllBare s.gens → AllBare s'.gens
  size : s.heap.objs.size ≤ s'.heap.objs.size
  gsize : s.gens.size ≤ s'.gens.size
  os : s'.os = s.os
  ext : Ext s.heap.objs.size g g'
  on : g'.on s'.heap
  off : ∀ b, Y b → g' b = none

/-- what the driver does between turns -/
structure Drift (X : Addr → Prop) (s s' : Shared) : Prop where
  sl : ∀ b o, ¬ X b → s.heap.get? b = some o → ∃ sl, s'.heap.get? b = some { o with slots := sl }
  gens : s'.gens = s.gens
  size : s.heap.objs.size ≤ s'.heap.objs.size
  os : s'.os = s.os
theorem Drift.kp {n k : Nat} {X : Addr → Prop} {s s' : Shared} (D : Drift X s s') : Kp n k X s s' :=
  ⟨fun b o _ q e => D.sl b o q e, fun i x _ e => by rw [D.gens]; exact e, fun b => by rw [D.gens]; exact b, D.size, by rw [D.gens]; exact Nat.le_refl _, D.os⟩
theorem Drift.trans {X : Addr → Prop} {s s' s'' : Shared} (x : Drift X s s') (y : Drift X s' s'') : Drift X s s'' :=
  ⟨fun b o q e => by
    obtain ⟨sl, e⟩ := x.sl b o q e
    obtain ⟨sl', e⟩ := y.sl b _ q e
    exact ⟨sl', e⟩, y.gens.trans x.gens, Nat.le_trans x.size y.size, y.os.trans x.os⟩

abbrev Loop := List Addr → Value → Value → PM → Shared → Prop

/-- what a segment of generator i (of object z) must do for the driver -/
def TurnP (w : World) (X : Addr → Prop) (LG : Loop) (items : List Addr) (z : Addr) (za zo : Value) (Y : Addr → Prop) (i : Nat) (g : PM) (s₁ : Shared) : End → Shared → Prop := fun e s₂ =>
  ∃ g', Trn Y i g g' s₁ s₂ ∧ match e with
    | .susp v _ _ _ _ _ _ => e.genState.bare = true ∧
      ((∃ z' j, v = .ref z' ∧ GenZ g' z' j ∧ ∀ s₃, Drift X (s₂.setGen i e.genState) s₃ → g'.on s₃.heap → LG (items ++ [z] ++ [z']) .none v g' s₃) ∨
       (NotGen w g' v ∧ ∀ s₃, Drift X (s₂.setGen i e.genState) s₃ → g'.on s₃.heap → LG (items ++ [z]) v v g' s₃))
    | .ret (.ok (.ret .none)) => ∀ s₃, Drift X (s₂.setGen i .finished) s₃ → g'.on s₃.heap → LG items za zo g' s₃
    | _ => False

/-- the loop of stream_eval, seen from the generators -/
structure Driver (prog : Program) (w : World) where
  A : Around
  own : Addr → Prop
  n₀ : Nat
  k₀ : Nat
  LG : Loop
  handled : A.handled = none
  room : A.depth + 60 < recursionLimit
  units : A.units + 2000 < cLine
  base : Heap
  gd : Gd w base
  bn : base.objs.size ≤ n₀
  turn : ∀ (items : List Addr) (z : Addr) (i : Nat) (za zo : Value) (g : PM) (s : Shared) (gs : GenState) (c₀ : Code) (t₀ : Sem Fin) (fs₀ : List Frame) (Y : Addr → Prop),
    items.length + 2 ≤ 4000 → GenZ g z i → s.gens[i]? = some gs → Wk gs za c₀ t₀ fs₀ → k₀ ≤ i → (∀ b, Y b → n₀ ≤ b ∧ ¬ own b ∧ g b = none) →
    (∀ s₁, Drift own s s₁ → g.on s₁.heap → base.StaysIn s₁.heap → k₀ ≤ s₁.gens.size → (∀ b, b < n₀ ∨ own b → b < s₁.heap.objs.size) →
      SegX (model prog w) A c₀ t₀ fs₀ (s₁.setGen i .running) (TurnP w own LG items z za zo Y i g (s₁.setGen i .running))) →
    LG (items ++ [z]) za zo g s

/-- generator i (frame Lc, code c) comes to an answer -/
def Run (prog : Program) (w : World) (An : PM → Value → Prop) (d n k i : Nat) (Lc : Addr) (c : Code) (g₁ : PM) (s₁ : Shared) : Prop :=
  ∀ (D : Driver prog w) (items : List Addr) (z : Addr) (zo : Value) (g₂ : PM) (s₂ : Shared), items.length + d ≤ 4000 → g₁.le g₂ → GenZ g₂ z i → s₂.gens[i]? = some (.fresh c) → (∀ o, s₁.heap.get? Lc = some o → ∃ sl, s₂.heap.get? Lc = some { o with slots := sl }) →
    g₂ Lc = none → D.k₀ ≤ i → D.n₀ ≤ Lc → ¬ D.own Lc →
    (∀ g₃ s₃ ans, An g₃ ans → NotGen w g₃ ans → Kp n k D.own s₂ s₃ → Ext n g₂ g₃ → g₃.on s₃.heap → D.LG items ans ans g₃ s₃) → D.LG (items ++ [z]) .none zo g₂ s₂

/-- r is an answer, or a generator that comes to one -/
def Will (prog : Program) (w : World) (An : PM → Value → Prop) (d n k : Nat) (r : Value) (g₁ : PM) (s₁ : Shared) : Prop :=
  (NotGen w g₁ r ∧ An g₁ r) ∨
  (∃ z i Lc c, r = .ref z ∧ GenZ g₁ z i ∧ k ≤ i ∧ n ≤ Lc ∧ Lc < s₁.heap.objs.size ∧ s₁.gens[i]? = some (.fresh c) ∧ g₁ Lc = none ∧ Run prog w An d n k i Lc c g₁ s₁)
theorem Kp.mono {n n' k k' : Nat} {X : Addr → Prop} {s' : Shared} (K : Kp n' k' X s s') (hn : n ≤ n') (hk : k ≤ k') : Kp n k X s s' :=
  ⟨fun b o q nx e => K.sl b o (Nat.lt_of_lt_of_le q hn) nx e, fun i x q e => K.gens i x (Nat.lt_of_lt_of_le q hk) e, K.bare, K.size, K.gsize, K.os⟩
theorem Ext.mono {n n' : Nat} {g' : PM} (X : Ext n' g g') (hn : n ≤ n') : Ext n g g' := ⟨X.le, fun a o e => (X.new a o e).imp id fun q => Nat.le_trans hn q⟩
theorem Run.mono {An : PM → Value → Prop} {d d' n n' k k' i : Nat} {Lc : Addr} {c : Code} (R : Run prog w An d' n' k' i Lc c g s) (hd : d' ≤ d) (hn : n ≤ n') (hk : k ≤ k') : Run prog w An d n k i Lc c g s :=
  fun D items z zo g₂ s₂ hl gle Z hgi hL gL kD nD oD fin => R D items z zo g₂ s₂ (by omega) gle Z hgi hL gL kD nD oD fun g₃ s₃ ans an ng K X on => fin g₃ s₃ ans an ng (K.mono hn hk) (X.mono hn) on
theorem Will.mono {An : PM → Value → Prop} {d d' n n' k k' : Nat} {r : Value} (W : Will prog w An d' n' k' r g s) (hd : d' ≤ d) (hn : n ≤ n') (hk : k ≤ k') : Will prog w An d n k r g s := by
  rcases W with h | ⟨z, i, Lc, c, e, Z, ki, nL, Llt, hgi, gL, go⟩
  · exact .inl h
  · exact .inr ⟨z, i, Lc, c, e, Z, by omega, Nat.le_trans hn nL, Llt, hgi, gL, go.mono hd hn hk⟩
end

end Mine
end
section
open PySem PySem.W PyProof.Rows PySem.Calls
open PySem.W.X (SegX wake_any)
set_option Elab.async false
set_option maxRecDepth 100000
set_option maxHeartbeats 8000000
namespace Mine
set_option pp.maxSteps 600
theorem fill11 : (fun (_ : OpenLaw) (_ : Params → Frag) => True) PySem.Challenge.rw_fe0181_02 hd2.heap_39 := by
  k_fill; trivial
local macro_rules | `(tactic| walk_at "no such word 0") => `(tactic| fail)
local macro_rules | `(tactic| walk_at "eval Name") => `(tactic| first
  | (refine nm_loc (by assumption) (by first | assumption | exact rfl) ?_)
  | (refine nm_glob (by assumption) (by k_is) ?_)
  | (refine nm_built (by assumption) (by k_is) (by boot_by_name) ?_))
local macro_rules | `(tactic| walk_at "callWith ref") => `(tactic| first
  | (refine callWith_K0 (Gd.K (Fx.gd (by assumption))) (by k_is) ?_)
  | (refine callWith_K (Gd.K (Fx.gd (by assumption))) (by k_is) ?_))
local macro_rules | `(tactic| walk_at "And") => `(tactic| ((with_reducible show Frag.In _ _ ∧ _); refine ⟨Gd.K (Fx.gd (by assumption)), ?_⟩; try dsimp only [List.nil_append, List.cons_append]))
local macro_rules | `(tactic| walk_at "room") => `(tactic| (simp only [Around.deeper, Around.in1, Around.mark]; omega))
local macro_rules | `(tactic| walk_at "go") => `(tactic| repeat' (first | (k_unfold; (try dsimp only)) | walk1 | (dsimp only; walk1)))
section
variable {prog : Program} {w : World} {A : Around} {E : Value → Shared → Prop} {s : Shared} {env : Env} {h₀ : Heap} {g : PM} {m : Str → Option Value}
/-- the ground under a call from the law: base is the heap without the frames that are being run -/
structure Up (w : World) (base : Heap) (g : PM) (A : Around) (outer : List Env) (h : Heap) : Prop where
  fr : A.frames = some outer
  hd : A.handled = none
  stays : base.StaysIn h
  ff : h.FunFrames base outer
  offs : ∀ env ∈ outer, ∀ L, env.frame = some L → g L = none
  gd : Gd w base
  on : g.on h
  bs : base.objs.size ≤ h.objs.size
theorem Up.now {base : Heap} {A : Around} {outer : List Env} {h : Heap} (U : Up w base g A outer h) : Gd w h := U.gd.keeps U.stays

theorem Fx.push' {L : Addr} {h : Heap} (F : Fx w h₀ g L h m) (o : Obj) : Fx w h₀ g L (h.push o) m :=
  ⟨F.ns.keeps fun b x e => Heap.get?_push_of_some _ e, fun b x e => Heap.get?_push_of_some _ (F.on b x e), F.off, fun b x e => Heap.get?_push_of_some _ (F.keep b x e), F.above, F.gd₀⟩

theorem Fx.ext {L : Addr} {h h' : Heap} (F : Fx w h₀ g L h m) (k : ∀ b o, h.get? b = some o → h'.get? b = some o) : Fx w h₀ g L h' m :=
  ⟨F.ns.keeps k, fun b x e => k _ _ (F.on b x e), F.off, fun b x e => k _ _ (F.keep b x e), F.above, F.gd₀⟩

theorem enterB {base : Heap} {outer : List Env} {R : Result → Shared → Prop} {a : Addr} {oc : Value} {od : Option Addr} {sl : Array (Option Value)} {fd : FuncData} {body : List Stmt} {args : Args} {binds : List (Str × Value)}
    (U : Up w base g A outer s.heap) (ho : (hd2.heap_39 w.params).lookup a = some ⟨oc, od, .func fd, sl⟩) (hcd : codeIn (hd2.heap_39 w.params) fd.code fd.qualname = true) (hbody : fd.body = .stmts body) (hroom : A.depth < recursionLimit)
    (hbind : BindsTo s fd args binds) (hcell : ∀ x ∈ fd.scope.names, x.2 ≠ .cell) (hloc : ∀ x ∈ binds, fd.scope.names.lookup x.1 = some .local)
    (h : ∀ h₁, Fx w base g s.heap.objs.size h₁ (fun x => binds.reverse.lookup x) → (∀ b o, s.heap.get? b = some o → h₁.get? b = some o) → (A.deeper (callEnv fd s.heap.objs.size a)).frames = some (callEnv fd s.heap.objs.size a :: outer) →
      wpAny (model prog w) (A.deeper (callEnv fd s.heap.objs.size a)) (execs body (callEnv fd s.heap.objs.size a)) (fun f s' => R (.ok (.ret (match f with | .ret v => v | _ => .none))) s')
        (fun _ _ => False) { s with heap := h₁, toks := s.toks + binds.length })
    (hco : fd.scope.isCoroutine = false := by rfl) (hgen : fd.scope.isGenerator = false := by rfl) (hk : fd.scope.kind = .function := by rfl) :
    codeAny (model prog w) A (.call (.ref a) args) R s :=
  codeAny_call_def hroom (U.now.K _ _ ho) rfl U.now.nolimit (codeRec_of U.now.K hcd) hbody hbind hcell hloc
    (fun h₁ hn hk₀ => wpAny_mono (h h₁ ⟨hn, fun b o e => hk₀ b o (U.on b o e), by
      cases q : g s.heap.objs.size with
      | none => rfl
      | some o => exact absurd (Heap.lt_size (U.on _ _ q)) (Nat.lt_irrefl _), fun b o e => hk₀ b o (U.stays b o e), U.bs, U.gd⟩ hk₀ (Around.frames_deeper U.fr)) (fun _ _ x => x) fun _ _ x => x.elim) hco hgen hk

/-- an exception comes up from a built-in: the frames get their slots, the exception its entry -/
theorem note_new {base : Heap} {outer : List Env} {L e : Addr} {h₁ : Heap} {cls : String} {Q : Unit → Shared → Prop} (hfr : A.frames = some (env :: outer)) (hl : s.heap.FunFrames base (env :: outer)) (hf : env.frame = some L) (hx : Heap.NewExc h₁ s.heap e cls) (hes : s.heap.objs.size = e + 1)
    (hlt : ∀ L' ∈ (env :: outer).filterMap (·.frame), (h₁.get? L').isSome)
    (h : ∀ h', (∀ b o, h₁.get? b = some o → ∃ sl, h'.get? b = some { o with slots := sl }) → (∀ b o, b ∉ (env :: outer).filterMap (·.frame) → h₁.get? b = some o → h'.get? b = some o) →
      (∃ oe vs tb otb tvs, h'.get? e = some oe ∧ oe.cls = .type cls ∧ oe.data = .fields vs ∧ vs[1]? = some (.ref tb) ∧ h'.get? tb = some otb ∧ otb.data = .fields tvs ∧ 3 < tvs.size ∧ ∀ b o, h₁.get? b = some o → tb ≠ b) → s.heap.objs.size ≤ h'.objs.size → Q () { s with heap := h' }) :
    wpAny (model prog w) A (noteFrame (.ref e) env) (fun _ s' => wpAny (model prog w) A (setFlight (.ref e) none) Q E s') E s := by
  obtain ⟨oe, tp, he, hcls, hd⟩ := hx.there
  have ne : e ∉ (env :: outer).filterMap (·.frame) := fun q => by
    have := hlt e q
    rw [hx.new] at this; cases this
  let as := e :: (env :: outer).filterMap (·.frame)
  have hff : s.heap.FunFrames (hideAll s.heap as) (env :: outer) := PySem.W.funFrames_hide hl fun env' hm a ha => .tail _ (List.mem_filterMap.mpr ⟨env', hm, ha⟩)
  unfold noteFrame
  simp only [hf]
  refine wpAny_bind (wpAny_field he hd rfl ?_)
  rw [if_neg (by simp)]
  refine wpAny_newEntry hfr hff hf he (fun b o q => of_hideAll _ q) (hideAll_none _ (.head _)) hd (by simp) (fun h' Lf => ?_)
  obtain ⟨l1, l2, l3, l4⟩ := Lf
  have hne : ∀ b o, h₁.get? b = some o → b ≠ e := fun b o q r => by rw [r, hx.new] at q; cases q
  have k1 : ∀ b o, b ∉ (env :: outer).filterMap (·.frame) → h₁.get? b = some o → h'.get? b = some o := fun b o nb q =>
    l1 b o (hideAll_get _ (hx.keeps b o q) (fun r => by rcases List.mem_cons.mp r with r | r; exact hne b o q r; exact nb r))
  have k2 : ∀ b o, h₁.get? b = some o → ∃ sl, h'.get? b = some { o with slots := sl } := fun b o q => by
    by_cases nb : b ∈ (env :: outer).filterMap (·.frame)
    · obtain ⟨_, o', ho', nf⟩ := hl.mem nb
      have e1 := hx.keeps b o q
      rw [e1] at ho'; cases ho'
      exact l4 b o e1 nf
    · exact ⟨o.slots, k1 b o nb q⟩
  obtain ⟨oe', vs, tb, otb, tvs, he', hcls', hd', h1', hnT, hTe, hT, hdT, hT3⟩ := l3
  refine h h' k2 k1 ⟨oe', vs, tb, otb, tvs, he', by rw [hcls', hcls], hd', h1', hT, hdT, (Array.getElem?_eq_some_iff.mp hT3).1, fun b o q r => ?_⟩ ?_
  · subst r
    by_cases nb : tb ∈ (env :: outer).filterMap (·.frame)
    · obtain ⟨_, o', ho', nf⟩ := hl.mem nb
      obtain ⟨sl, e4⟩ := k2 _ _ q
      rw [hx.keeps _ _ q] at ho'; cases ho'
      rw [e4] at hT; cases hT
      exact nf _ hdT
    · have := hideAll_get as (hx.keeps _ _ q) (fun r => by rcases List.mem_cons.mp r with r | r; exact hne _ o q r; exact nb r)
      rw [hnT] at this; cases this
  · rw [hes]; exact Heap.lt_size he'
end

end Mine
end
section
open PySem PySem.W PyProof.Rows PySem.Calls
open PySem.W.X (SegX wake_any)
set_option Elab.async false
set_option maxRecDepth 100000
set_option maxHeartbeats 8000000
namespace Mine
set_option pp.maxSteps 600
theorem fill12 : (fun (_ : OpenLaw) (_ : Params → Frag) => True) PySem.Challenge.rw_fe0181_02 hd2.heap_39 := by
  k_fill; trivial
local macro_rules | `(tactic| walk_at "eval Name") => `(tactic| first
  | (refine nm_loc (by assumption) (by first | assumption | exact rfl) ?_)
  | (refine nm_glob (by assumption) (by k_is) ?_)
  | (refine nm_built (by assumption) (by k_is) (by boot_by_name) ?_))
local macro_rules | `(tactic| walk_at "callWith ref") => `(tactic| first
  | (refine callWith_K0 (Gd.K (Fx.gd (by assumption))) (by k_is) ?_)
  | (refine callWith_K (Gd.K (Fx.gd (by assumption))) (by k_is) ?_))
local macro_rules | `(tactic| walk_at "And") => `(tactic| ((with_reducible show Frag.In _ _ ∧ _); refine ⟨Gd.K (Fx.gd (by assumption)), ?_⟩; try dsimp only [List.nil_append, List.cons_append]))
local macro_rules | `(tactic| walk_at "room") => `(tactic| (simp only [Around.deeper, Around.in1, Around.mark]; omega))
local macro_rules | `(tactic| walk_at "go") => `(tactic| repeat' (first | (k_unfold; (try dsimp only)) | walk1 | (dsimp only; walk1)))
section
variable {prog : Program} {w : World} {A : Around} {E : Value → Shared → Prop} {s : Shared} {env : Env} {h₀ : Heap} {g : PM} {m : Str → Option Value}
theorem codeAny_while1 {test : PySem.Expr} {body orelse : List Stmt} {R : Result → Shared → Prop}
    (h : wpAny (model prog w) A (isTrue test env (eval test env)) (fun b s₂ =>
        if b then wpAny (model prog w) A (execs body env) (fun f s₃ => match f with
            | .next | .cont => codeAny (model prog w) A (.whileLoop test body orelse env) R s₃
            | .brk => R (.ok .next) s₃
            | .ret v => R (.ok (.ret v)) s₃) (notedBy (model prog w) A env fun e s' => R (.error e) s') s₂
        else wpAny (model prog w) A (execs orelse env) (fun f s₃ => R (.ok f) s₃) (notedBy (model prog w) A env fun e s' => R (.error e) s') s₂)
        (notedBy (model prog w) A env fun e s' => R (.error e) s') s) : codeAny (model prog w) A (.whileLoop test body orelse env) R s := by
  refine codeAny_of_tree ?_
  show wpAny _ A ((whileTurn test body orelse env).onRaise (fun x => do noteFrame x env; theTreesLotGoes x)) _ _ s
  refine wpAny_noted ?_
  simp only [whileTurn]
  refine wpAny_bind (wpAny_mono h (fun b s₂ h₂ => ?_) fun _ _ h' => h')
  cases b with
  | false =>
    simp only [Bool.false_eq_true, if_false] at h₂ ⊢
    exact wpAny_bind (wpAny_mono h₂ (fun f s₃ h₃ => wpAny_pure h₃) fun _ _ h' => h')
  | true =>
    simp only [if_true] at h₂ ⊢
    refine wpAny_bind (wpAny_mono h₂ (fun f s₃ h₃ => ?_) fun _ _ h' => h')
    cases f with
    | next => exact wpAny_pure ⟨rfl, h₃⟩
    | cont => exact wpAny_pure ⟨rfl, h₃⟩
    | brk => exact wpAny_pure h₃
    | ret v => exact wpAny_pure h₃

/-- the driver's frame L and its list ls -/
structure Dv (w : World) (base : Heap) (n : Nat) (L ls : Addr) (g : PM) (h : Heap) (m : Str → Option Value) (items : List Addr) : Prop where
  F : Fx w base g L h m
  lst : ∃ nn, IsL h ls (items.map Value.ref).toArray nn
  ne : ls ≠ L
  gl : g ls = none
  bl : base.objs.size ≤ ls
  nl : n ≤ ls
  nL : n ≤ L
section
variable {base : Heap} {n : Nat} {L ls : Addr} {h h' : Heap} {m' : Str → Option Value} {items : List Addr} {g' : PM}
theorem Dv.lslt (D : Dv w base n L ls g h m items) : ls < h.objs.size := let ⟨_, e⟩ := D.lst; Heap.lt_size e
theorem Dv.set (D : Dv w base n L ls g h m items) (hn : h'.Ns L m') (hs : Heap.SameBut L h h') : Dv w base n L ls g h' m' items :=
  ⟨D.F.set hn hs, let ⟨nn, e⟩ := D.lst; ⟨nn, (hs.2 ls D.ne).trans e⟩, D.ne, D.gl, D.bl, D.nl, D.nL⟩
theorem Dv.ext (D : Dv w base n L ls g h m items) (k : ∀ b o, h.get? b = some o → h'.get? b = some o) : Dv w base n L ls g h' m items :=
  ⟨D.F.ext k, let ⟨nn, e⟩ := D.lst; ⟨nn, k _ _ e⟩, D.ne, D.gl, D.bl, D.nl, D.nL⟩
/-- the list is written -/
theorem Dv.wr {f : Array Value → Array Value} {items' : List Addr} (D : Dv w base n L ls g h m items) (hf : f (items.map Value.ref).toArray = (items'.map Value.ref).toArray) : Dv w base n L ls g (h.update ls (Obj.mapSeq f)) m items' := by
  obtain ⟨nn, e⟩ := D.lst
  exact ⟨D.F.upd D.ne D.gl D.bl, ⟨_, hf ▸ e.update f⟩, D.ne, D.gl, D.bl, D.nl, D.nL⟩
/-- behind a generator's turn -/
theorem Dv.turned {s s' : Shared} {Y : Addr → Prop} {i : Nat} (D : Dv w base n L ls g s.heap m items) (T : Trn Y i g g' s s') (hL : ¬ Y L) (hl : ¬ Y ls) (hb : ∀ b, Y b → base.objs.size ≤ b) : Dv w base n L ls g' s'.heap m items :=
  ⟨⟨let ⟨o, es, ep, e, r⟩ := D.F.ns; ⟨o, es, ep, T.keep _ _ hL e, r⟩, T.on, by
    cases q : g' L with
    | none => rfl
    | some o => exact (T.ext.new _ _ q).elim (fun e => by rw [D.F.off] at e; cases e) fun e => absurd D.F.ns.lt (Nat.not_lt.mpr e),
    fun b o e => T.keep b o (fun q => Nat.lt_irrefl _ (Nat.lt_of_lt_of_le (Heap.lt_size e) (hb b q))) (D.F.keep b o e), D.F.above, D.F.gd₀⟩,
   let ⟨nn, e⟩ := D.lst; ⟨nn, T.keep _ _ hl e⟩, D.ne, by
    cases q : g' ls with
    | none => rfl
    | some o => exact (T.ext.new _ _ q).elim (fun e => by rw [D.gl] at e; cases e) fun e => absurd D.lslt (Nat.not_lt.mpr e), D.bl, D.nl, D.nL⟩
end

def LGd (prog : Program) (w : World) (A : Around) (lc : Code) (R : Result → Shared → Prop) (base : Heap) (s₀ : Shared) (n k : Nat) (L ls : Addr) (g₀ : PM) : Loop := fun items za zo g s =>
  ∀ m, Dv w base n L ls g s.heap m items → Kp n k (fun _ => False) s₀ s → Ext n g₀ g → m "stack" = some (.ref ls) → m "z_args" = some za → m "z_out" = some zo → m "res_filter" = some .none → codeAny (model prog w) A lc R s
def ownD (L ls : Addr) : Addr → Prop := fun b => b = L ∨ b = ls
theorem loop_go {base : Heap} {s₀ s : Shared} {n k : Nat} {L ls : Addr} {g₀ g : PM} {lc : Code} {R : Result → Shared → Prop} {items : List Addr} {za zo : Value}
    (hh : A.handled = none) (hbn : base.objs.size ≤ n) (hu : A.units + 2100 < cLine) (hroom : A.depth + 70 < recursionLimit)
    (turn : ∀ (items : List Addr) (z : Addr) (i : Nat) (za zo : Value) (g : PM) (s : Shared) (gs : GenState) (c₀ : Code) (t₀ : Sem Fin) (fs₀ : List Frame) (Y : Addr → Prop),
      items.length + 2 ≤ 4000 → GenZ g z i → s.gens[i]? = some gs → Wk gs za c₀ t₀ fs₀ → k ≤ i → (∀ b, Y b → n ≤ b ∧ ¬ ownD L ls b ∧ g b = none) →
      (∀ s₁, Drift (ownD L ls) s s₁ → g.on s₁.heap → base.StaysIn s₁.heap → k ≤ s₁.gens.size → (∀ b, b < n ∨ ownD L ls b → b < s₁.heap.objs.size) →
        SegX (model prog w) A.in1 c₀ t₀ fs₀ (s₁.setGen i .running) (TurnP w (ownD L ls) (LGd prog w A lc R base s₀ n k L ls g₀) items z za zo Y i g (s₁.setGen i .running))) →
      LGd prog w A lc R base s₀ n k L ls g₀ (items ++ [z]) za zo g s)
    (go : (∀ (D : Driver prog w), D.A = A.in1 → D.own = ownD L ls → D.n₀ = n → D.k₀ = k → D.LG = LGd prog w A lc R base s₀ n k L ls g₀ → LGd prog w A lc R base s₀ n k L ls g₀ items za zo g s))
    (m : Str → Option Value) (D : Dv w base n L ls g s.heap m items) (K : Kp n k (fun _ => False) s₀ s) (X : Ext n g₀ g) (h1 : m "stack" = some (.ref ls)) (h2 : m "z_args" = some za) (h3 : m "z_out" = some zo) (h4 : m "res_filter" = some .none) :
    codeAny (model prog w) A lc R s :=
  go ⟨A.in1, ownD L ls, n, k, LGd prog w A lc R base s₀ n k L ls g₀, hh, by simp only [Around.in1]; omega, by simp only [Around.in1]; omega, base, D.F.gd₀, hbn, turn⟩ rfl rfl rfl rfl rfl m D K X h1 h2 h3 h4
end

end Mine
end
section
open PySem PySem.W PyProof.Rows PySem.Calls
open PySem.W.X (SegX wake_any)
set_option Elab.async false
set_option maxRecDepth 100000
set_option maxHeartbeats 8000000
namespace Mine
set_option pp.maxSteps 600
theorem fill13 : (fun (_ : OpenLaw) (_ : Params → Frag) => True) PySem.Challenge.rw_fe0181_02 hd2.heap_39 := by
  k_fill; trivial
local macro_rules | `(tactic| walk_at "eval Name") => `(tactic| first
  | (refine nm_loc (by assumption) (by first | assumption | exact rfl) ?_)
  | (refine nm_glob (by assumption) (by k_is) ?_)
  | (refine nm_built (by assumption) (by k_is) (by boot_by_name) ?_))
local macro_rules | `(tactic| walk_at "callWith ref") => `(tactic| first
  | (refine callWith_K0 (Gd.K (Fx.gd (by assumption))) (by k_is) ?_)
  | (refine callWith_K (Gd.K (Fx.gd (by assumption))) (by k_is) ?_))
local macro_rules | `(tactic| walk_at "And") => `(tactic| ((with_reducible show Frag.In _ _ ∧ _); refine ⟨Gd.K (Fx.gd (by assumption)), ?_⟩; try dsimp only [List.nil_append, List.cons_append]))
local macro_rules | `(tactic| walk_at "room") => `(tactic| (simp only [Around.deeper, Around.in1, Around.mark]; omega))
local macro_rules | `(tactic| walk_at "go") => `(tactic| repeat' (first | (k_unfold; (try dsimp only)) | walk1 | (dsimp only; walk1)))
section
variable {prog : Program} {w : World} {A : Around} {E : Value → Shared → Prop} {s : Shared} {env : Env} {h₀ : Heap} {g : PM} {m : Str → Option Value}
local macro_rules | `(tactic| walk_at "eval Name") => `(tactic| first
  | (refine nm_loc (by assumption) (by first | assumption | exact rfl) ?_)
  | (refine nm_loc (Dv.F (by assumption)) (by first | assumption | exact rfl) ?_)
  | (refine nm_glob (Dv.F (by assumption)) (by k_is) ?_)
  | (refine nm_built (Dv.F (by assumption)) (by k_is) (by boot_by_name) ?_)
  | (refine nm_glob (by assumption) (by k_is) ?_)
  | (refine nm_built (by assumption) (by k_is) (by boot_by_name) ?_))
theorem Dv.isT {base : Heap} {n : Nat} {L ls : Addr} {items : List Addr} (D : Dv w base n L ls g s.heap m items) : s.TypeIs (.ref ls) "list" := let ⟨_, e⟩ := D.lst; ⟨_, e, rfl⟩
theorem Dv.noD {base : Heap} {n : Nat} {L ls : Addr} {items : List Addr} (D : Dv w base n L ls g s.heap m items) : ∀ a, Value.ref ls = .ref a → ∃ o, s.heap.get? a = some o ∧ o.dict = none := fun a q => by cases q; exact let ⟨_, e⟩ := D.lst; ⟨_, e, rfl⟩
theorem Dv.app {base : Heap} {n : Nat} {L ls z : Addr} {items : List Addr} {Q : Value → Shared → Prop} (D : Dv w base n L ls g s.heap m items) (hl : items.length + 1 ≤ 4000)
    (h : ∀ h', Dv w base n L ls g h' m (items ++ [z]) → Heap.SameBut ls s.heap h' → Q .none { s with heap := h' }) :
    wpAny (model prog w) A (call (.builtin "list.append") [.ref ls, .ref z]) Q E s := by
  obtain ⟨nn, e⟩ := D.lst
  refine wpAny_call_entry slot_list_append D.isT entry_list_append ?_ (args_list_append _ _)
  show wpAny _ _ (updateSeq ls (·.push (.ref z)) >>= fun _ => ret .none) _ _ s
  refine wpAny_bind (wpAny_updateSeq e rfl (wpAny_pure ⟨.none, rfl, h _ (D.wr (by simp)) (Heap.SameBut.update ..)⟩) ?_ ?_)
  · simp [sizeLine]; omega
  · simp [sizeLine]; omega
theorem Dv.truth {base : Heap} {n : Nat} {L ls : Addr} {items : List Addr} {Q : Bool → Shared → Prop} (D : Dv w base n L ls g s.heap m items) (hl : items.length ≤ 4000) (h : ∀ tk, Q (!items.isEmpty) { s with toks := tk }) :
    wpAny (model prog w) A (truthy (.ref ls)) Q E s := by
  obtain ⟨nn, e⟩ := D.lst
  refine wpAny_truthy_list e.isList ?_ ?_
  · rw [List.size_toArray, List.length_map]; omega
  · have : (items.map Value.ref).toArray.isEmpty = items.isEmpty := by cases items <;> rfl
    rw [this]; exact h _
theorem sub_list {value slice : PySem.Expr} {l : Addr} {key : Value} {Q : Value → Shared → Prop} (hT : s.TypeIs (.ref l) "list") (h : wpAny (model prog w) A (getItem (.ref l) key) Q E s)
    (hs : subscripted slice false (.ref l) key = operate [.ref l, key] (getItem (.ref l) key) := by with_unfolding_all rfl) : wpAny (model prog w) A (subscriptTail value slice (.ref l) key) Q E s :=
  tail_any hT slot_list_getitem.lookup h hs
theorem Dv.last {base h : Heap} {n : Nat} {L ls z : Addr} {items : List Addr} {t : Tok} {Q : Value → Shared → Prop} (D : Dv w base n L ls g h m (items ++ [z])) (hq : Q (.ref z) s) (es : s.heap = h := by rfl) : wpAny (model prog w) A (getItem (.ref ls) (.int (-1) t)) Q E s := by
  subst es
  obtain ⟨nn, e⟩ := D.lst
  refine wpAny_getItem_list_neg e.isList (by decide) ?_ (by decide) (x := .ref z) ?_ hq
  · simp; omega
  · have : ((-1 : Int) + ((items ++ [z]).map Value.ref).toArray.size).toNat = items.length := by simp; omega
    rw [this]; simp
theorem get_rows {x a : Addr} {expr : Bool} {Q : Value → Shared → Prop} (G : Gd w s.heap) (on : g.on s.heap) (V : OneAt g 38 "rows" x (.ref a))
    (h : Q (.ref a) { s with toks := s.toks + 1 }) : wpAny (model prog w) A (getAttr (.ref x) "rows" expr) Q E s := by
  obtain ⟨dx, hh, t₁, n, h1, h2⟩ := V
  have I : PySem.W.InstAt s.heap x (instObj 38 dx) 38 (some (dictOf [⟨hh, .str "rows" t₁, .ref a⟩] n)) := ⟨on _ _ h1, rfl, rfl, on _ _ h2⟩
  have hpg : plainGet (hd2.heap_39 w.params) 38 "rows" = true := by k_is
  exact get_value G.K I (plainGet_of hpg).1 (findObj_own (by k_is) (by k_is) (by k_is) rfl) rfl h
theorem setGen_get {i j : Nat} {gs : GenState} (h : j ≠ i) : (s.setGen i gs).gens[j]? = s.gens[j]? := by
  unfold Shared.setGen
  simp [Array.getElem?_setIfInBounds, Ne.symm h]
theorem setGen_self {i : Nat} {gs : GenState} (h : i < s.gens.size) : (s.setGen i gs).gens[i]? = some gs := by
  unfold Shared.setGen
  simp [h]
theorem setGen_bare {i : Nat} {gs : GenState} (hb : gs.bare = true) (x : AllBare s.gens) : AllBare (s.setGen i gs).gens := by
  unfold Shared.setGen
  intro y hy
  rcases Array.mem_or_eq_of_mem_setIfInBounds hy with h | rfl
  · exact x y h
  · exact hb
theorem setGen_kp {n k i : Nat} {X : Addr → Prop} {gs : GenState} (hk : k ≤ i) (hb : gs.bare = true) : Kp n k X s (s.setGen i gs) :=
  ⟨.refl, fun j x q e => by rw [setGen_get (by omega)]; exact e, setGen_bare hb, Nat.le_refl _, by unfold Shared.setGen; simp, rfl⟩
theorem Trn.kp {n k i : Nat} {X Y : Addr → Prop} {g' : PM} {s' : Shared} (T : Trn Y i g g' s s') (hn : ∀ b, Y b → n ≤ b) (hk : k ≤ i) : Kp n k X s s' :=
  ⟨fun b o q _ e => ⟨o.slots, T.keep b o (fun y => Nat.lt_irrefl _ (Nat.lt_of_lt_of_le q (hn b y))) e⟩, fun j x q e => T.gens j x (by omega) e, T.bare, T.size, T.gsize, T.os⟩
theorem Drift.kpF {n k : Nat} {L ls : Addr} {s s₁ : Shared} (Dr : Drift (ownD L ls) s s₁) (hL : n ≤ L) (hl : n ≤ ls) : Kp n k (fun _ => False) s s₁ :=
  ⟨fun b o q _ e => Dr.sl b o (fun z => z.elim (fun z => Nat.lt_irrefl _ (Nat.lt_of_lt_of_le q (z ▸ hL))) fun z => Nat.lt_irrefl _ (Nat.lt_of_lt_of_le q (z ▸ hl))) e, fun _ _ _ e => by rw [Dr.gens]; exact e, fun b => by rw [Dr.gens]; exact b, Dr.size, by rw [Dr.gens]; exact Nat.le_refl _, Dr.os⟩
theorem turn_kp {n k i : Nat} {L ls : Addr} {Y : Addr → Prop} {g' : PM} {s₀ s₁ s₂ : Shared} (T : Trn Y i g g' (s₁.setGen i .running) s₂) (K : Kp n k (fun _ => False) s₀ s) (Dr : Drift (ownD L ls) s s₁) (hL : n ≤ L) (hl : n ≤ ls) (hn : ∀ b, Y b → n ≤ b) (hk : k ≤ i) : Kp n k (fun _ => False) s₀ s₂ :=
  K.trans (Kp.trans (s' := s₁) ⟨fun b o q _ e => Dr.sl b o (fun z => z.elim (fun z => Nat.lt_irrefl _ (Nat.lt_of_lt_of_le q (z ▸ hL))) fun z => Nat.lt_irrefl _ (Nat.lt_of_lt_of_le q (z ▸ hl))) e, fun _ _ _ e => by rw [Dr.gens]; exact e, fun b => by rw [Dr.gens]; exact b, Dr.size, by rw [Dr.gens]; exact Nat.le_refl _, Dr.os⟩ ((setGen_kp hk rfl).trans (T.kp hn hk)))
theorem ff_kp {base h h' : Heap} {n : Nat} : ∀ {l : List Env}, h.FunFrames base l → (∀ env ∈ l, ∀ L, env.frame = some L → L < n) → Slk n (fun _ => False) h h' → h'.FunFrames base l
  | [], _, _, _ => trivial
  | env :: rest, ⟨hk, ⟨L, o, hf, hn, ho, hd⟩, hr⟩, hlt, sl => by
    obtain ⟨sl', e⟩ := sl L o (hlt _ (.head _) L hf) id ho
    exact ⟨hk, ⟨L, _, hf, hn, e, hd⟩, ff_kp hr (fun e' h' => hlt e' (.tail _ h')) sl⟩
/-- behind an exception -/
theorem Dv.slk {base h h' : Heap} {n : Nat} {L ls : Addr} {items : List Addr} {S : List Addr} (D : Dv w base n L ls g h m items) (k1 : ∀ b o, h.get? b = some o → ∃ sl, h'.get? b = some { o with slots := sl }) (k2 : ∀ b o, b ∉ S → h.get? b = some o → h'.get? b = some o)
    (hS : ∀ b ∈ S, base.get? b = none ∧ g b = none ∧ b ≠ ls) : Dv w base n L ls g h' m items :=
  ⟨⟨let ⟨o, es, ep, e, r⟩ := D.F.ns; let ⟨_, e'⟩ := k1 _ _ e; ⟨_, es, ep, e', r⟩, fun b o e => k2 b o (fun q => by rw [(hS b q).2.1] at e; cases e) (D.F.on b o e), D.F.off,
    fun b o e => k2 b o (fun q => by rw [(hS b q).1] at e; cases e) (D.F.keep b o e), D.F.above, D.F.gd₀⟩, let ⟨nn, e⟩ := D.lst; ⟨nn, k2 _ _ (fun q => (hS _ q).2.2 rfl) e⟩, D.ne, D.gl, D.bl, D.nl, D.nL⟩
theorem Dv.pop {base h : Heap} {n : Nat} {L ls z : Addr} {items : List Addr} {pos : Pos} {Q : Value → Shared → Prop} (D : Dv w base n L ls g h m (items ++ [z])) (hl : items.length + 1 ≤ 4000)
    (hq : ∀ h', Dv w base n L ls g h' m items → Heap.SameBut ls s.heap h' → Q (.ref z) { s with heap := h' }) (es : s.heap = h := by rfl) :
    wpAny (model prog w) A (callWith pos (.builtin "list.pop") [.ref ls] [] []) Q E s := by
  subst es
  obtain ⟨nn, e⟩ := D.lst
  refine PySem.P.pop_list e (y := .ref z) (by simp) (hq _ (D.wr ?_) (Heap.SameBut.update ..)) ?_
  · simp [Array.eraseIdxIfInBounds, List.eraseIdx_append_of_length_le]
  · simp [sizeLine]; omega
theorem stream_eval_call {An : PM → Value → Prop} {d n k : Nat} {r : Value} {base : Heap} {outer : List Env} {R : Result → Shared → Prop} (hu : A.units + 4000 < cLine) (hroom : A.depth + 80 < recursionLimit) (U : Up w base g A outer s.heap)
    (hn : base.objs.size ≤ n) (hfl : ∀ env ∈ outer, ∀ L, env.frame = some L → L < n) (hns : n ≤ s.heap.objs.size) (hks : k ≤ s.gens.size) (W : Will prog w An d n k r g s) (hd : d ≤ 3000)
    (h : ∀ g' s' ans, An g' ans → NotGen w g' ans → Kp n k (fun _ => False) s s' → Ext n g g' → g'.on s'.heap → base.StaysIn s'.heap → R (.ok (.ret ans)) s') :
    codeAny (model prog w) A (.call (.ref 213) ⟨[r], []⟩) R s := by
  refine enterB (binds := [("z", r), ("res_filter", .none)]) U (by k_is) (by k_is) rfl (by omega) (BindsTo.of_defaults rfl (U.now.K _ _ (by k_is)) rfl rfl rfl) (by decide) (locs rfl) (fun h₁ F kk hfr => ?_)
  k_fold
  rcases W with ⟨ng, an⟩ | ⟨z, i, Lc, c, rfl, Z, ki, nL, Llt, hgi, gL, go⟩
  · obtain ⟨t, I, e⟩ := ng
    repeat walk1
    refine I.call F.gd F.on e (fun tk => ?_)
    walk_at "go"
    exact h g _ r an ⟨t, I, e⟩ ⟨fun b o _ _ q => ⟨o.slots, kk b o q⟩, fun _ _ _ q => q, id, Nat.le_of_lt F.ns.lt, Nat.le_refl _, rfl⟩ .refl F.on F.keep
  · obtain ⟨a, nm, qn, Z1, Z2⟩ := id Z
    repeat walk1
    refine (isi_gen Z1).call F.gd F.on ko_gen_gen (fun tk => ?_)
    repeat walk1
    refine wpAny_newList ?_
    have F1 := F.push' { cls := .type "list", data := .seq #[] }
    have hls := IsL.new h₁ #[]
    have lsne : h₁.objs.size ≠ s.heap.objs.size := Nat.ne_of_gt F.ns.lt
    have lsge : s.heap.objs.size ≤ h₁.objs.size := Nat.le_of_lt F.ns.lt
    have gls : g h₁.objs.size = none := PM.none_of F.on (Nat.le_refl _)
    have kk1 : ∀ b o, s.heap.get? b = some o → (h₁.push { cls := .type "list", data := .seq #[] }).get? b = some o := fun b o q => Heap.get?_push_of_some _ (kk b o q)
    revert hls F1 lsne lsge gls kk1
    generalize h₁.push { cls := .type "list", data := .seq #[] } = h₂
    generalize h₁.objs.size = ls
    intro F1 hls lsne lsge gls kk1
    clear F
    refine st_loc F1 (fun h₃ F3 sb3 => ?_)
    have hls3 : IsL h₃ ls #[] 0 := (sb3.2 ls lsne).trans hls
    repeat walk1
    refine wpAny_newTuple ?_
    have F4 := F3.push' { cls := .type "tuple", data := .seq #[.none, .none] }
    have ht4 : (h₃.push { cls := .type "tuple", data := .seq #[.none, .none] }).get? h₃.objs.size = some { cls := .type "tuple", data := .seq #[.none, .none] } := Heap.get?_push_size _ rfl
    have hls4 := hls3.push { cls := .type "tuple", data := .seq #[.none, .none] }
    repeat walk1
    refine wpAny_assign_Tuple (items := #[.none, .none]) ?_ ⟨_, ht4, rfl, _, rfl⟩ rfl rfl (fun h5 he5 => ?_)
    · exact U.hd
    have ke5 : ∀ b o, (h₃.push { cls := .type "tuple", data := .seq #[.none, .none] }).get? b = some o → h5.get? b = some o := fun b o q => he5 b o (Nat.ne_of_lt (Heap.lt_size q)) q
    have F5 := F4.ext ke5
    have hls5 : IsL h5 ls #[] 0 := ke5 _ _ hls4
    have kk5 : ∀ b o, s.heap.get? b = some o → h5.get? b = some o := fun b o q => ke5 b o (Heap.get?_push_of_some _ ((sb3.2 b (Nat.ne_of_lt (Heap.lt_size q))).trans (kk1 b o q)))
    clear F4 F3 F1
    have D5 : Dv w base n s.heap.objs.size ls g h5 _ [] := ⟨F5, ⟨0, hls5⟩, lsne, gls, Nat.le_trans U.bs lsge, Nat.le_trans hns lsge, hns⟩
    clear F5
    have st := @st_loc prog w
    repeat walk1
    refine st_loc D5.F (fun h6 F6 sb6 => ?_)
    have D6 := D5.set F6.ns sb6
    clear D5 F6
    repeat walk1
    refine st_loc D6.F (fun h7 F7 sb7 => ?_)
    have D7 := D6.set F7.ns sb7
    clear D6 F7
    repeat walk1
    refine getMethod_builtin D7.isT PySem.F.plainAttrs_list PySem.F.slot_list_append PySem.F.type_list_append D7.noD ?_
    repeat walk1
    refine D7.app (by simp) (fun h8 D8 sb8 => ?_)
    repeat walk1
    refine wpAny_While ?_
    have kk8 : ∀ b o, s.heap.get? b = some o → h8.get? b = some o := fun b o q => (sb8.2 b (fun e => by rw [e] at q; exact absurd (Heap.lt_size q) (Nat.not_lt.mpr lsge))).trans
      ((sb7.2 b (Nat.ne_of_lt (Heap.lt_size q))).trans ((sb6.2 b (Nat.ne_of_lt (Heap.lt_size q))).trans (kk5 b o q)))
    refine loop_go (s₀ := s) (g₀ := g) (k := k) (items := [z]) (za := .none) (zo := .none) U.hd hn ?hu ?hr ?turn ?go _ D8 ⟨fun b o _ _ q => ⟨o.slots, kk8 b o q⟩, fun _ _ _ q => q, id, Nat.le_of_lt D8.F.ns.lt, Nat.le_refl _, rfl⟩ .refl rfl rfl rfl rfl
    case hu => walk_at "room"
    case hr => walk_at "room"
    case go =>
      intro D eA eo en ek eL
      have oL : ¬ ownD s.heap.objs.size ls Lc := fun q => q.elim (fun e => by rw [e] at Llt; exact Nat.lt_irrefl _ Llt) fun e => by rw [e] at Llt; exact absurd Llt (Nat.not_lt.mpr lsge)
      rw [← eL]
      refine go D [] z .none g _ (by simp; omega) .refl Z hgi (fun o q => ⟨o.slots, kk8 _ _ q⟩) gL (ek ▸ ki) (en ▸ nL) (eo ▸ oL) (fun g₃ s₃ ans an ng K3 X3 on3 => ?_)
      rw [eL]
      intro m3 D3 K3' X3' e1 e2 e3 e4
      refine codeAny_while1 ?_
      repeat walk1
      refine D3.truth (by simp) (fun tk => ?_)
      simp only [List.isEmpty_nil, Bool.not_true, Bool.false_eq_true, if_false]
      walk_at "go"
      refine h g₃ _ ans an ng ?_ X3' on3 D3.F.keep
      exact ⟨K3'.sl, K3'.gens, K3'.bare, K3'.size, K3'.gsize, K3'.os⟩
    case turn =>
      intro items z i za zo g sT gs c₀ t₀ fs₀ Y hlen Z hgs hw ki hY seg m D K X e1 e2 e3 e4
      have nL : ∀ b, Y b → n ≤ b := fun b q => (hY b q).1
      obtain ⟨a, nm, qn, Z1, Z2⟩ := id Z
      refine codeAny_while1 ?_
      repeat walk1
      refine D.truth (by simp; omega) (fun tk => ?_)
      rw [show (items ++ [z]).isEmpty = false by simp]
      simp only [Bool.not_false, if_true]
      repeat walk1
      refine sub_list D.isT (D.last ?_)
      refine st_loc D.F (fun h1 F1 sb1 => ?_)
      have D1 := D.set F1.ns sb1
      clear F1
      repeat walk1
      refine wpAny_Try_except ?_
      repeat walk1
      refine get_rows D1.F.gd D1.F.on Z1 ?_
      have ha1 := D1.F.on _ _ Z2
      repeat walk1
      refine getMethod_builtin ⟨_, ha1, rfl⟩ plainAttrs_gen slot_gen_send type_gen_send (fun a q => by cases q; exact ⟨_, ha1, rfl⟩) ?_
      repeat walk1
      refine send_gen (i := i) (gs := gs) (c₀ := c₀) (t₀ := t₀) (fs₀ := fs₀) ?_ D1.F.gd.nolimit ?_ ⟨_, _, _, ha1, rfl, rfl, rfl⟩ hgs hw ((seg _ ?_ D1.F.on (by exact D1.F.keep) ?_ ?_).mono ?_)
      · exact U.hd
      · walk_at "room"
      · exact ⟨fun b o nb q => ⟨o.slots, (sb1.2 b (fun e => nb (.inl e))).trans q⟩, rfl, Nat.le_of_eq sb1.1.symm, rfl⟩
      · exact Nat.le_trans hks K.gsize
      · rintro b (q | q | q)
        · exact Nat.lt_of_lt_of_le q (Nat.le_trans D1.nL (Nat.le_of_lt D1.F.ns.lt))
        · exact q ▸ D1.F.ns.lt
        · exact q ▸ D1.lslt
      rintro e s2 ⟨g', T, he⟩
      have D2 := D1.turned T (fun e => (hY _ e).2.1 (.inl rfl)) (fun e => (hY _ e).2.1 (.inr rfl)) (fun b q => Nat.le_trans hn (nL b q))
      have K1 := turn_kp T K ⟨fun b o nb q => ⟨o.slots, (sb1.2 b (fun e => nb (.inl e))).trans q⟩, rfl, Nat.le_of_eq sb1.1.symm, rfl⟩ D1.nL D1.nl nL ki
      cases e with
      | susp v fl l kk c p fs =>
        obtain ⟨bare, ⟨z', j, rfl, Z', lg⟩ | ⟨ng, lg⟩⟩ := he
        · refine st_loc D2.F (fun h3 F3 sb3 => ?_)
          have D3 := D2.set F3.ns sb3
          clear F3
          repeat walk1
          obtain ⟨a', nm', qn', Z1', Z2'⟩ := id Z'
          refine (isi_gen Z1').call D3.F.gd D3.F.on ko_gen_gen (fun tk3 => ?_)
          repeat walk1
          refine getMethod_builtin D3.isT PySem.F.plainAttrs_list PySem.F.slot_list_append PySem.F.type_list_append D3.noD ?_
          repeat walk1
          refine D3.app (by simp; omega) (fun h4 D4 sb4 => ?_)
          repeat walk1
          refine st_loc D4.F (fun h5 F5 sb5 => ?_)
          have D5 := D4.set F5.ns sb5
          clear F5
          repeat walk1
          have kk5 : ∀ b, ¬ ownD s.heap.objs.size ls b → h5.get? b = s2.heap.get? b := fun b nb => (sb5.2 b (fun e => nb (.inl e))).trans ((sb4.2 b (fun e => nb (.inr e))).trans (sb3.2 b (fun e => nb (.inl e))))
          have Dr5 : ∀ tk, Drift (ownD s.heap.objs.size ls) (s2.setGen i (End.susp (.ref z') fl l kk c p fs).genState) { s2.setGen i (End.susp (.ref z') fl l kk c p fs).genState with heap := h5, toks := tk } := fun tk => ⟨fun b o nb q => ⟨o.slots, (kk5 b nb).trans q⟩, rfl, Nat.le_of_eq (sb3.1.symm.trans (sb4.1.symm.trans sb5.1.symm)), rfl⟩
          exact lg _ (Dr5 _) D5.F.on _ D5 ((K1.trans (setGen_kp ki bare)).trans ((Dr5 _).kpF D1.nL D1.nl)) (X.trans T.ext (Nat.le_trans D1.nL (Nat.le_of_lt D1.F.ns.lt))) e1 rfl rfl e4
        · obtain ⟨tn, In, en⟩ := id ng
          refine st_loc D2.F (fun h3 F3 sb3 => ?_)
          have D3 := D2.set F3.ns sb3
          clear F3
          repeat walk1
          refine In.call D3.F.gd D3.F.on en (fun tk3 => ?_)
          repeat walk1
          refine st_loc D3.F (fun h5 F5 sb5 => ?_)
          have D5 := D3.set F5.ns sb5
          clear F5
          repeat walk1
          have kk5 : ∀ b, ¬ ownD s.heap.objs.size ls b → h5.get? b = s2.heap.get? b := fun b nb => (sb5.2 b (fun e => nb (.inl e))).trans (sb3.2 b (fun e => nb (.inl e)))
          have Dr5 : ∀ tk, Drift (ownD s.heap.objs.size ls) (s2.setGen i (End.susp v fl l kk c p fs).genState) { s2.setGen i (End.susp v fl l kk c p fs).genState with heap := h5, toks := tk } := fun tk => ⟨fun b o nb q => ⟨o.slots, (kk5 b nb).trans q⟩, rfl, Nat.le_of_eq (sb3.1.symm.trans sb5.1.symm), rfl⟩
          exact lg _ (Dr5 _) D5.F.on _ D5 ((K1.trans (setGen_kp ki bare)).trans ((Dr5 _).kpF D1.nL D1.nl)) (X.trans T.ext (Nat.le_trans D1.nL (Nat.le_of_lt D1.F.ns.lt))) e1 rfl rfl e4
      | ret r =>
        cases r with
        | error _ => exact he.elim
        | ok f =>
          cases f with
          | ret v =>
            cases v with
            | none =>
              intro h3 e hx hes0 hes
              have X2 := X.trans T.ext (Nat.le_trans D1.nL (Nat.le_of_lt D1.F.ns.lt))
              have ff2 := ff_kp U.ff hfl K1.sl
              have bL : base.get? s.heap.objs.size = none := by
                cases q : base.get? s.heap.objs.size with
                | none => rfl
                | some o => exact absurd (Heap.lt_size q) (Nat.not_lt.mpr U.bs)
              have bl : base.get? ls = none := by
                cases q : base.get? ls with
                | none => rfl
                | some o => exact absurd (Heap.lt_size q) (Nat.not_lt.mpr D2.bl)
              have mkf : ∀ {A' : Around} {env' : Env}, A'.frames = some (env' :: outer) → env'.frame = some s.heap.objs.size → env'.scope.kind ≠ .module → h3.FunFrames base (env' :: outer) := fun _ ef ek =>
                (Heap.FunFrames.cons ek ef D2.F.ns bL ff2).of_keeps (fun b o e _ => ⟨o, hx.keeps b o e, rfl⟩)
              have ff3 := mkf hfr rfl (by intro q; cases q)
              have hfrs : ∀ L' ∈ List.filterMap (·.frame) (_ :: outer), base.get? L' = none ∧ g' L' = none ∧ L' ≠ ls ∧ (s2.heap.get? L').isSome ∧ ∃ o, h3.get? L' = some o ∧ ∀ vs, o.data ≠ .fields vs := fun L' hL' => by
                obtain ⟨q1, q2⟩ := ff3.mem hL'
                rcases List.mem_filterMap.mp hL' with ⟨env', he', hf'⟩
                rcases List.mem_cons.mp he' with rfl | he'
                · cases hf'
                  exact ⟨q1, D2.F.off, D2.ne.symm, by obtain ⟨o, _, _, eo, _⟩ := D2.F.ns; rw [eo]; rfl, q2⟩
                · have ln := hfl _ he' _ hf'
                  refine ⟨q1, ?_, fun e => by rw [e] at ln; exact Nat.lt_irrefl _ (Nat.lt_of_lt_of_le ln D2.nl), by obtain ⟨_, o, eo, _⟩ := ff2.mem (List.mem_filterMap.mpr ⟨env', he', hf'⟩); rw [eo]; rfl, q2⟩
                  cases q : g' L' with
                  | none => rfl
                  | some o => exact (X2.new _ _ q).elim (fun e => by rw [U.offs _ he' _ hf'] at e; cases e) fun e => absurd ln (Nat.not_lt.mpr e)
              refine note_new hfr ff3 rfl hx hes (fun L' hL' => (hfrs L' hL').2.2.2.1) (fun h4 k1 k2 kt sz => ?_)
              obtain ⟨oe, vs, tb, otb, tvs, he4, hcls, hd4, h14, hT, hdT, hT3, nT⟩ := kt
              have D4 := D2.slk k1 k2 (fun b q => ⟨(hfrs b q).1, (hfrs b q).2.1, (hfrs b q).2.2.1⟩)
              refine wpAny_handleBy_builtin (X := "StopIteration") (T := "StopIteration") (b := true) ?hexc ?hnt ?hsub ?_
              case hexc => rw [isSubtype_type]; kernel_rfl
              case hnt => rw [isSubtype_type]; kernel_rfl
              case hsub => exact isSubtype_stop
              refine nm_built D4.F (by k_is) (by boot_by_name) ?_
              refine ⟨rfl, ⟨_, he4, hcls⟩, ?_⟩
              rw [if_pos rfl]
              refine wpAny_setFlight_none he4 hd4 h14 hT hdT hT3 ?_
              have k15 : ∀ b o, s2.heap.get? b = some o → ∃ sl, (h4.update tb (Obj.mapFields (·.setIfInBounds 3 .none))).get? b = some { o with slots := sl } := fun b o q => by
                obtain ⟨sl, e⟩ := k1 b o q
                exact ⟨sl, (Heap.get?_update_other _ _ (nT b o q)).trans e⟩
              have k25 : ∀ b o, b ∉ List.filterMap (·.frame) (_ :: outer) → s2.heap.get? b = some o → (h4.update tb (Obj.mapFields (·.setIfInBounds 3 .none))).get? b = some o := fun b o nb q => (Heap.get?_update_other _ _ (nT b o q)).trans (k2 b o nb q)
              have sz5 : h3.objs.size ≤ (h4.update tb (Obj.mapFields (·.setIfInBounds 3 .none))).objs.size := by rw [Heap.size_after_update]; exact sz
              have D5 := D2.slk k15 k25 (fun b q => ⟨(hfrs b q).1, (hfrs b q).2.1, (hfrs b q).2.2.1⟩)
              revert k15 sz5 D5
              generalize h4.update tb (Obj.mapFields (·.setIfInBounds 3 .none)) = h5
              intro k15 sz5 D5
              clear D4
              repeat walk1
              refine getMethod_builtin D5.isT PySem.F.plainAttrs_list PySem.F.slot_list_pop PySem.F.type_list_pop D5.noD ?_
              refine D5.pop (by omega) (fun h6 D6 sb6 => ?_)
              repeat walk1
              refine st_loc D6.F (fun h7 F7 sb7 => ?_)
              have D7 := D6.set F7.ns sb7
              clear F7
              repeat walk1
              have Dr7 : ∀ tk, Drift (ownD s.heap.objs.size ls) (s2.setGen i .finished) { s2.setGen i .finished with heap := h7, toks := tk } := fun tk => ⟨fun b o nb q => by
                obtain ⟨sl, e⟩ := k15 b o q
                exact ⟨sl, (sb7.2 b (fun e => nb (.inl e))).trans ((sb6.2 b (fun e => nb (.inr e))).trans e)⟩, rfl, ?_, rfl⟩
              · exact he _ (Dr7 _) D7.F.on _ D7 ((K1.trans (setGen_kp ki rfl)).trans ((Dr7 _).kpF D1.nL D1.nl)) X2 e1 e2 e3 e4
              · have z1 : s2.heap.objs.size ≤ h3.objs.size := by rw [hes]; exact Nat.le_succ_of_le hes0
                exact Nat.le_trans z1 (Nat.le_trans sz5 (Nat.le_of_eq (sb6.1.symm.trans sb7.1.symm)))
            | _ => exact he.elim
          | _ => exact he.elim
end
end Mine
end
section
open PySem PySem.W PyProof.Rows PySem.Calls
open PySem.W.X (SegX wake_any)
set_option Elab.async false
set_option maxRecDepth 100000
set_option maxHeartbeats 8000000
namespace Mine
set_option pp.maxSteps 600
theorem fill14 : (fun (_ : OpenLaw) (_ : Params → Frag) => True) PySem.Challenge.rw_fe0181_02 hd2.heap_39 := by
  k_fill; trivial
local macro_rules | `(tactic| walk_at "eval Name") => `(tactic| first
  | (refine nm_loc (by assumption) (by first | assumption | exact rfl) ?_)
  | (refine nm_glob (by assumption) (by k_is) ?_)
  | (refine nm_built (by assumption) (by k_is) (by boot_by_name) ?_))
local macro_rules | `(tactic| walk_at "callWith ref") => `(tactic| first
  | (refine callWith_K0 (Gd.K (Fx.gd (by assumption))) (by k_is) ?_)
  | (refine callWith_K (Gd.K (Fx.gd (by assumption))) (by k_is) ?_))
local macro_rules | `(tactic| walk_at "And") => `(tactic| ((with_reducible show Frag.In _ _ ∧ _); refine ⟨Gd.K (Fx.gd (by assumption)), ?_⟩; try dsimp only [List.nil_append, List.cons_append]))
local macro_rules | `(tactic| walk_at "room") => `(tactic| (simp only [Around.deeper, Around.in1, Around.mark]; omega))
local macro_rules | `(tactic| walk_at "go") => `(tactic| repeat' (first | (k_unfold; (try dsimp only)) | walk1 | (dsimp only; walk1)))
section
variable {prog : Program} {w : World} {A : Around} {E : Value → Shared → Prop} {s : Shared} {env : Env} {h₀ : Heap} {g : PM} {m : Str → Option Value}
/-- the frame of a generator that is being run: hs is the state at the turn's begin -/
structure Gn (w : World) (base : Heap) (hs : Shared) (i : Nat) (Y : Addr → Prop) (g₀ g : PM) (L : Addr) (s : Shared) (m : Str → Option Value) : Prop where
  F : Fx w base g L s.heap m
  T : Trn Y i g₀ g hs s
  hY : Y L
  lt : ∀ b, Y b → b < s.heap.objs.size
section
variable {base : Heap} {hs s' : Shared} {i : Nat} {g₀ g' : PM} {L : Addr} {Y : Addr → Prop} {m' : Str → Option Value}
theorem Gn.gd (G : Gn w base hs i Y g₀ g L s m) : Gd w s.heap := G.F.gd
theorem Gn.on (G : Gn w base hs i Y g₀ g L s m) : g.on s.heap := G.F.on
theorem Gn.start (ns : s.heap.Ns L m) (on : g.on s.heap) (hY : Y L) (off : ∀ b, Y b → g b = none) (st : base.StaysIn s.heap) (gd : Gd w base) (hb : base.objs.size ≤ L) (lt : ∀ b, Y b → b < s.heap.objs.size) : Gn w base (s.setGen i .running) i Y g g L (s.setGen i .running) m :=
  ⟨⟨ns, on, off _ hY, st, hb, gd⟩, ⟨fun _ _ _ e => e, fun _ _ _ e => e, id, Nat.le_refl _, Nat.le_refl _, rfl, .refl, on, off⟩, hY, lt⟩
theorem Gn.after (G : Gn w base hs i Y g₀ g L s m) (Gr : Grow s s') (X : Ext s.heap.objs.size g g') (on : g'.on s'.heap) : Gn w base hs i Y g₀ g' L s' m :=
  ⟨G.F.after Gr X on, ⟨fun b o n e => Gr.keep b o (G.T.keep b o n e), fun j x n e => Gr.gens j x (G.T.gens j x n e), fun b => Gr.bare (G.T.bare b), Nat.le_trans G.T.size Gr.size, Nat.le_trans G.T.gsize (gens_size Gr.gens), Gr.os.trans G.T.os, G.T.ext.trans X G.T.size, on, fun b y => by
    cases q : g' b with
    | none => rfl
    | some o => exact (X.new _ _ q).elim (fun e => by rw [G.T.off b y] at e; cases e) fun e => absurd (G.lt b y) (Nat.not_lt.mpr e)⟩, G.hY, fun b y => Nat.lt_of_lt_of_le (G.lt b y) Gr.size⟩
theorem Gn.after0 (G : Gn w base hs i Y g₀ g L s m) (Gr : Grow s s') : Gn w base hs i Y g₀ g L s' m :=
  ⟨G.F.after0 Gr, ⟨fun b o n e => Gr.keep b o (G.T.keep b o n e), fun j x n e => Gr.gens j x (G.T.gens j x n e), fun b => Gr.bare (G.T.bare b), Nat.le_trans G.T.size Gr.size, Nat.le_trans G.T.gsize (gens_size Gr.gens), Gr.os.trans G.T.os, G.T.ext, G.on.keeps Gr.keep, G.T.off⟩, G.hY, fun b y => Nat.lt_of_lt_of_le (G.lt b y) Gr.size⟩
theorem Gn.set {h' : Heap} {tk : Nat} (G : Gn w base hs i Y g₀ g L s m) (hn : h'.Ns L m') (sb : Heap.SameBut L s.heap h') : Gn w base hs i Y g₀ g L { s with heap := h', toks := tk } m' :=
  have F := G.F.set hn sb
  ⟨F, ⟨fun b o n e => (sb.2 b (fun q => n (q ▸ G.hY))).trans (G.T.keep b o n e), G.T.gens, G.T.bare, Nat.le_trans G.T.size (Nat.le_of_eq sb.1.symm), G.T.gsize, G.T.os, G.T.ext, F.on, G.T.off⟩, G.hY, fun b y => Nat.lt_of_lt_of_le (G.lt b y) (Nat.le_of_eq sb.1.symm)⟩
theorem Gn.ext {h' : Heap} {tk : Nat} (G : Gn w base hs i Y g₀ g L s m) (k : ∀ b o, s.heap.get? b = some o → h'.get? b = some o) (sz : s.heap.objs.size ≤ h'.objs.size) : Gn w base hs i Y g₀ g L { s with heap := h', toks := tk } m :=
  G.after0 (s' := { s with heap := h', toks := tk }) ⟨k, fun _ _ e => e, id, sz, rfl⟩
/-- private objects are written, new ones made -/
theorem Gn.priv {h' : Heap} {tk : Nat} (G : Gn w base hs i Y g₀ g L s m) (k : ∀ b o, ¬ (Y b ∧ b ≠ L) → (b < hs.heap.objs.size ∨ b = L ∨ (g b).isSome ∨ (base.get? b).isSome) → s.heap.get? b = some o → h'.get? b = some o) (sz : s.heap.objs.size ≤ h'.objs.size) (hp : ∀ b, Y b → b ≠ L → base.get? b = none) : Gn w base hs i Y g₀ g L { s with heap := h', toks := tk } m :=
  have on : g.on h' := fun b o e => k b o (fun q => by rw [G.T.off b q.1] at e; cases e) (.inr (.inr (.inl (by rw [e]; rfl)))) (G.on b o e)
  ⟨⟨let ⟨o, es, ep, e, r⟩ := G.F.ns; ⟨o, es, ep, k _ _ (fun q => q.2 rfl) (.inr (.inl rfl)) e, r⟩, on, G.F.off, fun b o e => k b o (fun q => by rw [hp b q.1 q.2] at e; cases e) (.inr (.inr (.inr (by rw [e]; rfl)))) (G.F.keep b o e), G.F.above, G.F.gd₀⟩,
   ⟨fun b o n e => k b o (fun q => n q.1) (.inl (Heap.lt_size e)) (G.T.keep b o n e), G.T.gens, G.T.bare, Nat.le_trans G.T.size sz, G.T.gsize, G.T.os, G.T.ext, on, G.T.off⟩, G.hY, fun b y => Nat.lt_of_lt_of_le (G.lt b y) sz⟩
end

/-- an answer of a yield: what the driver is handed -/
theorem turn_ans {X : Addr → Prop} {LG : Loop} {items : List Addr} {z : Addr} {Y : Addr → Prop} {za zo v : Value} {i : Nat} {g₁ g' : PM} {s₁ s₂ : Shared} {l : List Value} {k : Resume → Sem Fin} {c : Code} {p : Pos} {fs : List Frame}
    (T : Trn Y i g₁ g' s₁ s₂) (hfg : fs.any Frame.guarded = false) (ng : NotGen w g' v) (h : ∀ s₃, Drift X (s₂.setGen i (.suspended k l c p fs false)) s₃ → g'.on s₃.heap → LG (items ++ [z]) v v g' s₃) :
    TurnP w X LG items z za zo Y i g₁ s₁ (.susp v false l k c p fs) s₂ := by
  have e : (End.susp v false l k c p fs).genState = .suspended k l c p fs false := by simp [End.genState, hfg]
  refine ⟨g', T, ?_, .inr ⟨ng, ?_⟩⟩
  · rw [e]; rfl
  · rw [e]; exact h
theorem turn_sub {X : Addr → Prop} {LG : Loop} {items : List Addr} {z z' : Addr} {Y : Addr → Prop} {za zo : Value} {i j : Nat} {g₁ g' : PM} {s₁ s₂ : Shared} {l : List Value} {k : Resume → Sem Fin} {c : Code} {p : Pos} {fs : List Frame}
    (T : Trn Y i g₁ g' s₁ s₂) (hfg : fs.any Frame.guarded = false) (Z : GenZ g' z' j) (h : ∀ s₃, Drift X (s₂.setGen i (.suspended k l c p fs false)) s₃ → g'.on s₃.heap → LG (items ++ [z] ++ [z']) .none (.ref z') g' s₃) :
    TurnP w X LG items z za zo Y i g₁ s₁ (.susp (.ref z') false l k c p fs) s₂ := by
  have e : (End.susp (.ref z') false l k c p fs).genState = .suspended k l c p fs false := by simp [End.genState, hfg]
  refine ⟨g', T, ?_, .inl ⟨z', j, rfl, Z, ?_⟩⟩
  · rw [e]; rfl
  · rw [e]; exact h
theorem turn_end {X : Addr → Prop} {LG : Loop} {items : List Addr} {z : Addr} {Y : Addr → Prop} {za zo : Value} {i : Nat} {g₁ g' : PM} {s₁ s₂ : Shared}
    (T : Trn Y i g₁ g' s₁ s₂) (h : ∀ s₃, Drift X (s₂.setGen i .finished) s₃ → g'.on s₃.heap → LG items za zo g' s₃) :
    TurnP w X LG items z za zo Y i g₁ s₁ (.ret (.ok (.ret .none))) s₂ := ⟨g', T, h⟩
end

inductive Ctor where
  | tup | lst | dct (ks : List Int)
  deriving DecidableEq
/-- terms; a node is a chain of cons that ends in nil -/
inductive Tm where
  | int (n : Int) | var (k : Int) | nil (c : Ctor) | cons (h t : Tm)
  deriving DecidableEq
namespace Tm
def kind : Tm → Ctor
  | .nil c => c
  | .cons _ t => t.kind
  | _ => .tup
def len : Tm → Nat
  | .cons _ t => t.len + 1
  | _ => 0
def isNode : Tm → Bool
  | .nil _ => true
  | .cons _ t => t.isNode
  | _ => false
def isVar : Tm → Bool
  | .var _ => true
  | _ => false
end Tm

def NodeAt (g : PM) (a : Addr) : Ctor → List Value → Prop
  | .tup, vs => ∃ n, g a = some { cls := .type "tuple", dict := none, data := .seq vs.toArray n, slots := #[] }
  | .lst, vs => ∃ n, g a = some { cls := .type "list", dict := none, data := .seq vs.toArray n, slots := #[] }
  | .dct _, _ => False
theorem NodeAt.le {g g' : PM} {a : Addr} {c : Ctor} {vs : List Value} (N : NodeAt g a c vs) (l : g.le g') : NodeAt g' a c vs := by
  cases c with
  | tup => exact let ⟨n, h⟩ := N; ⟨n, l _ _ h⟩
  | lst => exact let ⟨n, h⟩ := N; ⟨n, l _ _ h⟩
  | dct ks => exact N.elim

mutual
def Rep (g : PM) : Tm → Value → Prop
  | .int n, v => ∃ t, v = .int n t
  | .var k, v => ∃ a, v = .ref a ∧ VarAt g a k ∧ 0 ≤ k ∧ k < 32
  | .nil c, v => ∃ a, v = .ref a ∧ NodeAt g a c []
  | .cons h t, v => ∃ a x xs, v = .ref a ∧ NodeAt g a t.kind (x :: xs) ∧ Rep g h x ∧ RepL g t xs
def RepL (g : PM) : Tm → List Value → Prop
  | .cons h t, vs => ∃ x xs, vs = x :: xs ∧ Rep g h x ∧ RepL g t xs
  | .nil _, vs => vs = []
  | _, _ => False
end
mutual
theorem Rep.le {g g' : PM} (l : g.le g') : ∀ {t : Tm} {v : Value}, Rep g t v → Rep g' t v
  | .int _, _, R => by simpa [Rep] using R
  | .var _, _, R => by
    simp only [Rep] at R ⊢
    exact let ⟨a, e, V, k⟩ := R; ⟨a, e, V.le l, k⟩
  | .nil _, _, R => by
    simp only [Rep] at R ⊢
    exact let ⟨a, e, N⟩ := R; ⟨a, e, N.le l⟩
  | .cons h t, _, R => by
    simp only [Rep] at R ⊢
    exact let ⟨a, x, xs, e, N, R1, R2⟩ := R; ⟨a, x, xs, e, N.le l, R1.le l, R2.le l⟩
theorem RepL.le {g g' : PM} (l : g.le g') : ∀ {t : Tm} {vs : List Value}, RepL g t vs → RepL g' t vs
  | .cons h t, _, R => by
    simp only [RepL] at R ⊢
    exact let ⟨x, xs, e, R1, R2⟩ := R; ⟨x, xs, e, R1.le l, R2.le l⟩
  | .nil _, _, R => by simpa [RepL] using R
  | .int _, _, R => by simp [RepL] at R
  | .var _, _, R => by simp [RepL] at R
end
theorem Rep.node {g : PM} {t : Tm} {v : Value} (hn : t.isNode = true) (R : Rep g t v) : ∃ a vs, v = .ref a ∧ NodeAt g a t.kind vs ∧ RepL g t vs := by
  cases t with
  | int _ => cases hn
  | var _ => cases hn
  | nil c =>
    simp only [Rep] at R
    exact let ⟨a, e, N⟩ := R; ⟨a, [], e, N, by simp [RepL]⟩
  | cons h t =>
    simp only [Rep] at R
    exact let ⟨a, x, xs, e, N, R1, R2⟩ := R; ⟨a, x :: xs, e, N, by simp only [RepL]; exact ⟨x, xs, rfl, R1, R2⟩⟩
theorem RepL.len {g : PM} : ∀ {t : Tm} {vs : List Value}, RepL g t vs → vs.length = t.len
  | .cons h t, _, R => by
    simp only [RepL] at R
    obtain ⟨x, xs, rfl, _, R2⟩ := R
    simp [Tm.len, R2.len]
  | .nil _, _, R => by simp only [RepL] at R; simp [R, Tm.len]
  | .int _, _, R => by simp [RepL] at R
  | .var _, _, R => by simp [RepL] at R

/-- substitutions -/
abbrev Sub := List (Int × Tm)
def Sub.get (σ : Sub) (k : Int) : Option Tm := (σ.find? (·.1 == k)).map (·.2)
def RepS (g : PM) : Xs → Sub → Prop
  | [], [] => True
  | x :: xs, p :: σ => x.1 = p.1 ∧ Rep g p.2 x.2.2 ∧ RepS g xs σ
  | _, _ => False
theorem RepS.le {g g' : PM} (l : g.le g') : ∀ {xs : Xs} {σ : Sub}, RepS g xs σ → RepS g' xs σ
  | [], [], _ => trivial
  | _ :: _, _ :: _, ⟨e, R, r⟩ => ⟨e, R.le l, r.le l⟩
  | [], _ :: _, R => R.elim
  | _ :: _, [], R => R.elim
theorem RepS.snoc {g : PM} {k : Int} {a : Addr} {v : Value} {t : Tm} (R0 : Rep g t v) : ∀ {xs : Xs} {σ : Sub}, RepS g xs σ → RepS g (xs ++ [(k, a, v)]) (σ ++ [(k, t)])
  | [], [], _ => ⟨rfl, R0, trivial⟩
  | _ :: _, _ :: _, ⟨e, R, r⟩ => ⟨e, R, r.snoc R0⟩
  | [], _ :: _, R => R.elim
  | _ :: _, [], R => R.elim
def SubAt (g : PM) (v : Value) (σ : Sub) : Prop := ∃ d xs, v = .ref d ∧ DictAt g d xs ∧ RepS g xs σ
theorem SubAt.le {g g' : PM} {v : Value} {σ : Sub} (S : SubAt g v σ) (l : g.le g') : SubAt g' v σ :=
  let ⟨d, xs, e, D, F⟩ := S; ⟨d, xs, e, D.le l, F.le l⟩

/-- the keys that transitive_get may be asked for -/
def Tm.plain : Tm → Bool
  | .int _ => true
  | .var _ => true
  | _ => false
def walk (σ : Sub) : Nat → Tm → Option Tm
  | 0, _ => none
  | n + 1, .var k => match σ.get k with
    | none => some (.var k)
    | some t => walk σ n t
  | _ + 1, t => if t.plain then some t else none
def uniL (f : Sub → Tm → Tm → Option (Option Sub)) : Sub → Tm → Tm → Option (Option Sub)
  | σ, .nil _, .nil _ => some (some σ)
  | σ, .cons a t, .cons b t' => match f σ a b with
    | some (some σ') => uniL f σ' t t'
    | some none => some none
    | none => none
  | _, _, _ => none
/-- what unify answers: none where the fuel is spent or the case is left out -/
def uni : Nat → Sub → Tm → Tm → Option (Option Sub)
  | 0, _, _, _ => none
  | n + 1, σ, u, v =>
    if u.isVar || v.isVar then
      match walk σ n u, (if v.isVar then walk σ n v else some v) with
      | some u', some v' =>
        if u'.plain && v'.plain then
          if u' = v' then some (some σ) else
          match u', v' with
          | .var k, _ => some (some (σ ++ [(k, v')]))
          | _, .var k => some (some (σ ++ [(k, u')]))
          | _, _ => uni n σ u' v'
        else none
      | _, _ => none
    else if u.isNode && v.isNode && decide (u.kind = v.kind) && decide (u.kind = .tup ∨ u.kind = .lst) then
      if u.len ≤ 100 ∧ v.len ≤ 100 then (if u.len = v.len then uniL (uni n) σ u v else some none) else none
    else if u.plain && v.plain then (if u = v then some (some σ) else some none)
    else none

theorem RepS.get {g : PM} {k : Int} : ∀ {xs : Xs} {σ : Sub}, RepS g xs σ → (∀ t, σ.get k = some t → ∃ v, valAt xs k = some v ∧ Rep g t v) ∧ (σ.get k = none → valAt xs k = none ∧ tokAt xs k = none)
  | [], [], _ => ⟨fun t e => by simp [Sub.get] at e, fun _ => ⟨rfl, rfl⟩⟩
  | x :: xs, p :: σ, ⟨e, R, r⟩ => by
    have ih := r.get (k := k)
    by_cases q : p.1 = k
    · have q' : x.1 = k := e.trans q
      have e1 : Sub.get (p :: σ) k = some p.2 := by simp [Sub.get, List.find?_cons, q]
      refine ⟨fun t h => ?_, fun h => by rw [e1] at h; cases h⟩
      rw [e1] at h; cases h
      exact ⟨x.2.2, by simp [valAt, tokAt, List.findIdx?_cons, q'], R⟩
    · have q' : ¬ x.1 = k := fun z => q (e.symm.trans z)
      have e1 : Sub.get (p :: σ) k = Sub.get σ k := by simp [Sub.get, List.find?_cons, q]
      have e2 : tokAt (x :: xs) k = (tokAt xs k).map (· + 1) := by simp [tokAt, List.findIdx?_cons, q']
      have e3 : valAt (x :: xs) k = valAt xs k := by
        unfold valAt
        rw [e2]
        cases tokAt xs k <;> simp
      rw [e1, e3, e2]
      exact ⟨ih.1, fun h => ⟨(ih.2 h).1, by rw [(ih.2 h).2]; rfl⟩⟩
  | [], _ :: _, R => R.elim
  | _ :: _, [], R => R.elim

section
/-- what transitive_get walks to, in terms -/
theorem walk_at {σ : Sub} {d : Addr} {xs : Xs} (D : DictAt g d xs) (S : RepS g xs σ) : ∀ {n : Nat} {t r : Tm} {y : Value}, walk σ n t = some r → Rep g t y → ∃ n' y', WalkN w g d xs n' y y' ∧ Rep g r y'
  | 0, _, _, _, h, _ => by simp [walk] at h
  | n + 1, .var k, r, y, h, R => by
    obtain ⟨a, rfl, V, k0, k1⟩ : ∃ a, y = .ref a ∧ VarAt g a k ∧ 0 ≤ k ∧ k < 32 := by simpa only [Rep] using R
    obtain ⟨h1, h2⟩ := S.get (k := k)
    simp only [walk] at h
    cases e : σ.get k with
    | none =>
      rw [e] at h; cases h
      exact ⟨0, _, .free V k0 k1 (h2 e).1, R⟩
    | some t =>
      rw [e] at h
      obtain ⟨v, hv, Rv⟩ := h1 t e
      obtain ⟨n', y', W', R'⟩ := walk_at D S h Rv
      exact ⟨n' + 1, y', .step V k0 k1 hv W', R'⟩
  | n + 1, .int i, r, y, h, R => by
    simp only [walk, Tm.plain, if_true] at h; cases h
    obtain ⟨t, rfl⟩ : ∃ t, y = .int i t := by simpa only [Rep] using R
    exact ⟨0, _, .term (.int D), R⟩
  | n + 1, .nil c, r, y, h, R => by simp [walk, Tm.plain] at h
  | n + 1, .cons a b, r, y, h, R => by simp [walk, Tm.plain] at h
end
theorem walk_plain {σ : Sub} : ∀ {n : Nat} {t r : Tm}, walk σ n t = some r → r.plain = true
  | 0, _, _, h => by simp [walk] at h
  | n + 1, .var k, r, h => by
    simp only [walk] at h
    cases e : σ.get k with
    | none => rw [e] at h; cases h; rfl
    | some t => rw [e] at h; exact walk_plain h
  | n + 1, .int i, r, h => by simp only [walk, Tm.plain, if_true] at h; cases h; rfl
  | n + 1, .nil c, r, h => by simp [walk, Tm.plain] at h
  | n + 1, .cons a b, r, h => by simp [walk, Tm.plain] at h
theorem Rep.bt {n : Int} {v : Value} (R : Rep g (.int n) v) : BT g "int" v := by
  obtain ⟨t, rfl⟩ : ∃ t, v = .int n t := by simpa only [Rep] using R
  rfl
theorem Rep.var_is {k : Int} {v : Value} (R : Rep g (.var k) v) : ∃ a, v = .ref a ∧ VarAt g a k ∧ 0 ≤ k ∧ k < 32 := by simpa only [Rep] using R
theorem Rep.int_is {k : Int} {v : Value} (R : Rep g (.int k) v) : ∃ t, v = .int k t := by simpa only [Rep] using R
/-- what isvar says of a term -/
theorem Rep.bt_node {t : Tm} {v : Value} (hn : t.isNode = true) (R : Rep g t v) : ∃ T, BT g T v ∧ (t.kind = .tup ∧ T = "tuple" ∨ t.kind = .lst ∧ T = "list") := by
  obtain ⟨a, vs, rfl, N, _⟩ := R.node hn
  cases e : t.kind with
  | tup =>
    rw [e] at N
    exact let ⟨n, h⟩ := N; ⟨"tuple", ⟨_, h, rfl, by decide⟩, .inl ⟨rfl, rfl⟩⟩
  | lst =>
    rw [e] at N
    exact let ⟨n, h⟩ := N; ⟨"list", ⟨_, h, rfl, by decide⟩, .inr ⟨rfl, rfl⟩⟩
  | dct ks => rw [e] at N; exact N.elim
def Tm.ty : Tm → Value
  | .var _ => .ref 185
  | .int _ => .type "int"
  | .nil .tup => .type "tuple"
  | .nil .lst => .type "list"
  | .nil (.dct _) => .type "dict"
  | .cons _ t => t.ty
theorem Tm.ty_node : ∀ {t : Tm}, t.isNode = true → t.ty = match t.kind with | .tup => .type "tuple" | .lst => .type "list" | .dct _ => .type "dict"
  | .int _, h => by cases h
  | .var _, h => by cases h
  | .nil .tup, _ => rfl
  | .nil .lst, _ => rfl
  | .nil (.dct _), _ => rfl
  | .cons _ t, h => by
    have := Tm.ty_node (t := t) h
    exact this
def Tm.ok : Tm → Bool
  | .int _ => true
  | .var _ => true
  | t => t.isNode
theorem Rep.ok : ∀ {t : Tm} {v : Value}, Rep g t v → t.ok = true
  | .int _, _, _ => rfl
  | .var _, _, _ => rfl
  | .nil _, _, _ => rfl
  | .cons h t, _, R => by
    simp only [Rep] at R
    obtain ⟨a, x, xs, e, N, R1, R2⟩ := R
    have : ∀ {t : Tm} {vs : List Value}, RepL g t vs → t.isNode = true := by
      intro t
      induction t with
      | int _ => intro _ R; simp [RepL] at R
      | var _ => intro _ R; simp [RepL] at R
      | nil c => intros; rfl
      | cons h t _ ih =>
        intro _ R
        simp only [RepL] at R
        obtain ⟨_, _, _, _, R⟩ := R
        exact ih R
    show t.isNode = true
    exact this R2
theorem Rep.isi {t : Tm} {v : Value} (R : Rep g t v) : Isi w g v t.ty := by
  have hok := R.ok
  cases t with
  | int n => exact isi_bt R.bt (.inl rfl)
  | var k =>
    obtain ⟨a, rfl, V, _⟩ := R.var_is
    exact isi_var V
  | nil c =>
    obtain ⟨T, B, h⟩ := R.bt_node rfl
    rcases h with ⟨e, rfl⟩ | ⟨e, rfl⟩
    · rw [Tm.ty_node rfl, e]; exact isi_bt B (.inr (.inl rfl))
    · rw [Tm.ty_node rfl, e]; exact isi_bt B (.inr (.inr (.inl rfl)))
  | cons a b =>
    obtain ⟨T, B, h⟩ := R.bt_node hok
    rcases h with ⟨e, rfl⟩ | ⟨e, rfl⟩
    · rw [Tm.ty_node hok, e]; exact isi_bt B (.inr (.inl rfl))
    · rw [Tm.ty_node hok, e]; exact isi_bt B (.inr (.inr (.inl rfl)))
theorem Tm.ty_cases : ∀ (t : Tm), t.ok = true → t.ty = .ref 185 ∧ t.isVar = true ∨ (t.isVar = false ∧ ∃ T, GoodT T ∧ t.ty = .type T)
  | .var _, _ => .inl ⟨rfl, rfl⟩
  | .int _, _ => .inr ⟨rfl, "int", .inl rfl, rfl⟩
  | .nil .tup, _ => .inr ⟨rfl, "tuple", .inr (.inl rfl), rfl⟩
  | .nil .lst, _ => .inr ⟨rfl, "list", .inr (.inr (.inl rfl)), rfl⟩
  | .nil (.dct _), _ => .inr ⟨rfl, "dict", .inr (.inr (.inr rfl)), rfl⟩
  | .cons a t, h => by
    refine .inr ⟨rfl, ?_⟩
    rw [Tm.ty_node (t := .cons a t) h]
    cases (Tm.cons a t).kind with
    | tup => exact ⟨"tuple", .inr (.inl rfl), rfl⟩
    | lst => exact ⟨"list", .inr (.inr (.inl rfl)), rfl⟩
    | dct _ => exact ⟨"dict", .inr (.inr (.inr rfl)), rfl⟩
section
variable {w : World} {g : PM}
/-- isvar of a term -/
theorem ko_tm_var {t : Tm} (h : t.ok = true) : kitOne (hd2.heap_39 w.params) t.ty (.ref 185) = some t.isVar := by
  rcases t.ty_cases h with ⟨e, v⟩ | ⟨v, T, hT, e⟩
  · rw [e, v]; exact ko_var_var
  · rw [e, v]
    exact ko_type_var (by rcases hT with rfl | rfl | rfl | rfl <;> simp)
theorem ko_tm_gen {t : Tm} (h : t.ok = true) : kitOne (hd2.heap_39 w.params) t.ty (.ref 38) = some false := by
  rcases t.ty_cases h with ⟨e, v⟩ | ⟨v, T, hT, e⟩
  · rw [e]; exact ko_var_gen
  · rw [e]
    exact ko_type_gen (by rcases hT with rfl | rfl | rfl | rfl <;> simp)
def Tm.isTy (t : Tm) (T : String) : Bool := match t.ty with | .type T' => decide (T' = T) | _ => false
theorem ko_tm_type {t : Tm} {T : String} (h : t.ok = true) (hT : T = "tuple" ∨ T = "list" ∨ T = "dict") : kitOne (hd2.heap_39 w.params) t.ty (.type T) = some (t.isTy T) := by
  rcases t.ty_cases h with ⟨e, v⟩ | ⟨v, T', hT', e⟩
  · unfold Tm.isTy; rw [e]; exact ko_var_type hT
  · unfold Tm.isTy; rw [e]; exact ko_type_type hT' hT
theorem Rep.notGen {t : Tm} {v : Value} (R : Rep g t v) : NotGen w g v := ⟨_, R.isi, ko_tm_gen R.ok⟩
theorem notGen_bool {b : Bool} : NotGen w g (.bool b) := ⟨_, isi_bool, ko_type_gen (by simp)⟩
theorem SubAt.notGen {v : Value} {σ : Sub} (S : SubAt g v σ) : NotGen w g v := by
  obtain ⟨d, xs, rfl, D, _⟩ := S
  obtain ⟨n, h⟩ := D.obj
  exact ⟨_, isi_bt (T := "dict") ⟨_, h, rfl, by decide⟩ (by simp [GoodT]), ko_type_gen (by simp)⟩
/-- an answer of unify -/
def AnU (r : Option Sub) (g : PM) (v : Value) : Prop := match r with
  | some σ => SubAt g v σ
  | none => v = .bool false
theorem AnU.le {r : Option Sub} {g g' : PM} {v : Value} (a : AnU r g v) (l : g.le g') : AnU r g' v := by
  cases r with
  | none => exact a
  | some σ => exact SubAt.le a l
theorem AnU.notGen {r : Option Sub} {v : Value} (a : AnU r g v) : NotGen w g v := by
  cases r with
  | none => rw [show v = .bool false from a]; exact notGen_bool
  | some σ => exact SubAt.notGen a
end

end Mine
end
section
open PySem PySem.W PyProof.Rows PySem.Calls
open PySem.W.X (SegX wake_any)
set_option Elab.async false
set_option maxRecDepth 100000
set_option maxHeartbeats 8000000
namespace Mine
set_option pp.maxSteps 600
theorem fill15 : (fun (_ : OpenLaw) (_ : Params → Frag) => True) PySem.Challenge.rw_fe0181_02 hd2.heap_39 := by
  k_fill; trivial
local macro_rules | `(tactic| walk_at "eval Name") => `(tactic| first
  | (refine nm_loc (by assumption) (by first | assumption | exact rfl) ?_)
  | (refine nm_glob (by assumption) (by k_is) ?_)
  | (refine nm_built (by assumption) (by k_is) (by boot_by_name) ?_))
local macro_rules | `(tactic| walk_at "callWith ref") => `(tactic| first
  | (refine callWith_K0 (Gd.K (Fx.gd (by assumption))) (by k_is) ?_)
  | (refine callWith_K (Gd.K (Fx.gd (by assumption))) (by k_is) ?_))
local macro_rules | `(tactic| walk_at "And") => `(tactic| ((with_reducible show Frag.In _ _ ∧ _); refine ⟨Gd.K (Fx.gd (by assumption)), ?_⟩; try dsimp only [List.nil_append, List.cons_append]))
local macro_rules | `(tactic| walk_at "room") => `(tactic| (simp only [Around.deeper, Around.in1, Around.mark]; omega))
local macro_rules | `(tactic| walk_at "go") => `(tactic| repeat' (first | (k_unfold; (try dsimp only)) | walk1 | (dsimp only; walk1)))
section
variable {prog : Program} {w : World} {A : Around} {E : Value → Shared → Prop} {s : Shared} {env : Env} {h₀ : Heap} {g : PM} {m : Str → Option Value}
local macro_rules | `(tactic| walk_at "eval Name") => `(tactic| first
  | (refine nm_loc (by assumption) (by first | assumption | exact rfl) ?_)
  | (refine nm_loc (Gn.F (by assumption)) (by first | assumption | exact rfl) ?_)
  | (refine nm_glob (Gn.F (by assumption)) (by k_is) ?_)
  | (refine nm_built (Gn.F (by assumption)) (by k_is) (by boot_by_name) ?_)
  | (refine nm_glob (by assumption) (by k_is) ?_)
  | (refine nm_built (by assumption) (by k_is) (by boot_by_name) ?_))
local macro_rules | `(tactic| walk_at "callWith ref") => `(tactic| first
  | (refine callWith_K0 (Gd.K (Fx.gd (by assumption))) (by k_is) ?_)
  | (refine callWith_K (Gd.K (Fx.gd (by assumption))) (by k_is) ?_)
  | (refine callWith_K0 (Gd.K (Gn.gd (by assumption))) (by k_is) ?_)
  | (refine callWith_K (Gd.K (Gn.gd (by assumption))) (by k_is) ?_))
local macro_rules | `(tactic| walk_at "And") => `(tactic| first
  | ((with_reducible show Frag.In _ _ ∧ _); refine ⟨Gd.K (Fx.gd (by assumption)), ?_⟩; try dsimp only [List.nil_append, List.cons_append])
  | ((with_reducible show Frag.In _ _ ∧ _); refine ⟨Gd.K (Gn.gd (by assumption)), ?_⟩; try dsimp only [List.nil_append, List.cons_append]))

theorem over_u {b : List Stmt} : (A.over (.func b env) []).units = A.units + 3 := rfl
theorem over_d {b : List Stmt} : (A.over (.func b env) []).depth = A.depth + 1 := rfl
theorem over_h {b : List Stmt} : (A.over (.func b env) []).handled = A.handled := rfl
theorem overL_u {target : PySem.Expr} {it : Value} {body orelse b : List Stmt} {kk : Result → Sem Fin} {l : List Value} {p : Pos} : (A.over (.forLoop target it body orelse env) [.ret kk none false l (.func b env) p []]).units = A.units + 3 := rfl
theorem overL_d {target : PySem.Expr} {it : Value} {body orelse b : List Stmt} {kk : Result → Sem Fin} {l : List Value} {p : Pos} : (A.over (.forLoop target it body orelse env) [.ret kk none false l (.func b env) p []]).depth = A.depth + 1 := rfl
theorem overL_h {target : PySem.Expr} {it : Value} {body orelse b : List Stmt} {kk : Result → Sem Fin} {l : List Value} {p : Pos} : (A.over (.forLoop target it body orelse env) [.ret kk none false l (.func b env) p []]).handled = A.handled := rfl
theorem overB_u {orelse b : List Stmt} {kk : Result → Sem Fin} {l : List Value} {p : Pos} : (A.over (.block orelse env) [.ret kk none false l (.func b env) p []]).units = A.units + 3 := rfl
theorem overB_d {orelse b : List Stmt} {kk : Result → Sem Fin} {l : List Value} {p : Pos} : (A.over (.block orelse env) [.ret kk none false l (.func b env) p []]).depth = A.depth + 1 := rfl
local macro_rules | `(tactic| walk_at "room") => `(tactic| (simp only [over_u, over_d, overL_u, overL_d, overB_u, overB_d, Around.deeper, Around.in1, Around.mark]; omega))
theorem eq_plain {u v : Tm} {x y : Value} {Q : Value → Shared → Prop} (hu : A.units + 100 < cLine) (hroom : A.depth < recursionLimit) (G : Gd w s.heap) (on : g.on s.heap) (hp : u.plain = true) (hq : v.plain = true) (R : Rep g u x) (R' : Rep g v y)
    (h : ∀ s', Grow s s' → Q (.bool (decide (u = v))) s') : wpAny (model prog w) A (compareOp .Eq x y) Q E s := by
  show wpAny _ _ (richCompare .Eq x y) _ _ _
  cases u with
  | nil _ => cases hp
  | cons _ _ => cases hp
  | int n =>
    cases v with
    | nil _ => cases hq
    | cons _ _ => cases hq
    | int n' =>
      obtain ⟨t, rfl⟩ := R.int_is
      obtain ⟨t', rfl⟩ := R'.int_is
      refine wpAny_eq_int ?_
      have e : (n == n') = decide (Tm.int n = Tm.int n') := by simp [Bool.beq_eq_decide_eq]
      rw [e]; exact h s .refl
    | var k =>
      obtain ⟨a, rfl, V, k0, k1⟩ := R'.var_is
      refine rc_bt_var hu hroom G on V R.bt (.inl rfl) fun s' Gr => ?_
      simpa using h s' Gr
  | var k =>
    obtain ⟨a, rfl, V, k0, k1⟩ := R.var_is
    cases v with
    | nil _ => cases hq
    | cons _ _ => cases hq
    | int n' =>
      refine rc_var_bt hu hroom G on V R'.bt (.inl rfl) fun s' Gr => ?_
      simpa using h s' Gr
    | var k' =>
      obtain ⟨b, rfl, V', _⟩ := R'.var_is
      refine rc_var_var hu hroom G on V V' fun s' Gr => ?_
      have e : (k == k') = decide (Tm.var k = Tm.var k') := by simp [Bool.beq_eq_decide_eq]
      rw [e]; exact h s' Gr

/-- a generator object was made, and it comes to an answer -/
def Made (prog : Program) (w : World) (An : PM → Value → Prop) (d n k : Nat) (ga : Addr) (g' : PM) (s' : Shared) : Prop :=
  ∃ (i : Nat) (Lc : Addr) (c : Code) (nm qn : Value), g' ga = some { cls := .type "generator", data := .fields #[.int i 0, nm, qn] } ∧ k ≤ i ∧ n ≤ Lc ∧ Lc < s'.heap.objs.size ∧ s'.gens[i]? = some (.fresh c) ∧ g' Lc = none ∧ Run prog w An d n k i Lc c g' s'
theorem Made.will {An : PM → Value → Prop} {d n k : Nat} {ga : Addr} {R : Result → Shared → Prop} (M : Made prog w An d n k ga g s) (hu : A.units + 100 < cLine) (hroom : A.depth + 5 < recursionLimit) (G : Gd w s.heap) (on : g.on s.heap)
    (h : ∀ s' g' x, Grow s s' → Ext s.heap.objs.size g g' → g'.on s'.heap → Will prog w An d n k (.ref x) g' s' → R (.ok (.ret (.ref x))) s') : codeAny (model prog w) A (.call (.ref 38) ⟨[.ref ga], []⟩) R s := by
  obtain ⟨i, Lc, c, nm, qn, e, ki, nL, Llt, hgi, gL, go⟩ := M
  refine make_gen hu hroom G on fun s' g' x Gr X on' V hg => ?_
  have gL' : g' Lc = none := by
    cases q : g' Lc with
    | none => rfl
    | some o => exact (X.new _ _ q).elim (fun e => by rw [gL] at e; cases e) fun e => absurd Llt (Nat.not_lt.mpr e)
  refine h s' g' x Gr X on' (.inr ⟨x, i, Lc, c, rfl, ⟨ga, nm, qn, V, X.le _ _ e⟩, ki, nL, Nat.lt_of_lt_of_le Llt Gr.size, by rw [hg]; exact hgi, gL', ?_⟩)
  intro D items z zo g₂ s₂ hlen gle Z hgi2 hL
  exact go D items z zo g₂ s₂ hlen (X.le.trans gle) Z hgi2 (fun o q => hL o (Gr.keep _ _ q))
theorem PM.on.ins_new {h : Heap} {a : Addr} {o : Obj} (on : g.on h) (e : h.get? a = some o) : PM.on (g.ins a o) h := fun b x q => by
  unfold PM.ins at q
  by_cases z : b = a
  · rw [if_pos z] at q; cases q; rw [z]; exact e
  · rw [if_neg z] at q; exact on _ _ q
/-- call a generator's def -/
theorem enterGM {An : PM → Value → Prop} {d : Nat} {R : Result → Shared → Prop} {a : Addr} {oc : Value} {od : Option Addr} {sl : Array (Option Value)} {fd : FuncData} {body : List Stmt} {args : Args} {binds : List (Str × Value)}
    (G : Gd w s.heap) (on : g.on s.heap) (ho : (hd2.heap_39 w.params).lookup a = some ⟨oc, od, .func fd, sl⟩) (hcd : codeIn (hd2.heap_39 w.params) fd.code fd.qualname = true) (hbody : fd.body = .stmts body) (hroom : A.depth < recursionLimit)
    (hbind : BindsTo s fd args binds) (hcell : ∀ x ∈ fd.scope.names, x.2 ≠ .cell) (hloc : ∀ x ∈ binds, fd.scope.names.lookup x.1 = some .local) (hd : 2 ≤ d)
    (h : ∀ s' g' ga, Grow s s' → Ext s.heap.objs.size g g' → g'.on s'.heap → Made prog w An d s.heap.objs.size s.gens.size ga g' s' → R (.ok (.ret (.ref ga))) s')
    (seg : ∀ (D : Driver prog w) (items : List Addr) (z : Addr) (zo : Value) (g₂ : PM) (s₂ s₁ : Shared) (L : Addr), items.length + d ≤ 4000 → g.le g₂ → GenZ g₂ z s.gens.size → D.k₀ ≤ s.gens.size → D.n₀ ≤ L → ¬ D.own L → L < s₁.heap.objs.size → s.heap.objs.size ≤ s₁.heap.objs.size → s.gens.size < s₁.gens.size → D.k₀ ≤ s₁.gens.size → (∀ b, b < D.n₀ ∨ D.own b → b < s₁.heap.objs.size) →
      s.heap.objs.size ≤ L → Drift D.own s₂ s₁ → 
      (∀ g₃ s₃ ans, An g₃ ans → NotGen w g₃ ans → Kp s.heap.objs.size s.gens.size D.own s₁ s₃ → Ext s.heap.objs.size g₂ g₃ → g₃.on s₃.heap → D.LG items ans ans g₃ s₃) →
      Gn w D.base (s₁.setGen s.gens.size .running) s.gens.size (· = L) g₂ g₂ L (s₁.setGen s.gens.size .running) (fun x => binds.reverse.lookup x) → 
      (callEnv fd L a).locals = L →
      SegX (model prog w) D.A (.func body (callEnv fd L a)) ((execs body (callEnv fd L a)).wrap (fun f => .pure (.done (.ret (match f with | .ret v => v | _ => .none))))
      (fun e => (leaving (callEnv fd L a) e).wrap (fun _ => .raise e) .raise id id) id id) [] (s₁.setGen s.gens.size .running) (TurnP w D.own D.LG items z .none zo (· = L) s.gens.size g₂ (s₁.setGen s.gens.size .running)))
    (hco : fd.scope.isCoroutine = false := by rfl) (hgen : fd.scope.isGenerator = true := by rfl) (hk : fd.scope.kind = .function := by rfl) :
    codeAny (model prog w) A (.call (.ref a) args) R s := by
  refine enterG G ho hcd hbody hroom hbind hcell hloc (fun s' ga nm qn Gr hgens hns hga hlt => ?_) hco hgen hk
  have gga : g ga = none := PM.none_of on (Nat.le_of_lt hlt)
  have on' : PM.on (g.ins ga _) s'.heap := PM.on.ins_new (on.keeps Gr.keep) hga
  refine h s' (g.ins ga _) ga Gr (Ext.ins (Nat.le_of_lt hlt) gga) on' ⟨s.gens.size, s.heap.objs.size, _, nm, qn, PM.ins_self _ _ _, Nat.le_refl _, Nat.le_refl _, hns.lt, by rw [hgens]; exact Array.getElem?_push_size, ?_, ?_⟩
  · rw [PM.ins_ne _ _ (Nat.ne_of_lt hlt)]; exact PM.none_of on (Nat.le_refl _)
  intro D items z zo g₂ s₂ hlen gle Z hgi hL gL kD nD oD fin
  refine D.turn items z _ .none zo g₂ s₂ _ _ _ _ (· = s.heap.objs.size) (by omega) Z hgi (.inl ⟨rfl, rfl, rfl, rfl⟩) kD (fun b e => by rw [e]; exact ⟨nD, oD, gL⟩) (fun s₁ Dr on1 st1 kg blt => sx_func ?_)
  have gz : s.gens.size < s₁.gens.size := by rw [Dr.gens]; exact (Array.getElem?_eq_some_iff.mp hgi).1
  have hns1 : s₁.heap.Ns s.heap.objs.size (fun x => binds.reverse.lookup x) := by
    obtain ⟨o, es, ep, e, r⟩ := hns
    obtain ⟨sl, e⟩ := hL o e
    obtain ⟨sl, e⟩ := Dr.sl _ _ oD e
    exact ⟨_, es, ep, e, r⟩
  refine seg D items z zo g₂ s₂ s₁ s.heap.objs.size hlen ((Ext.ins (Nat.le_of_lt hlt) gga).le.trans gle) Z kD nD oD hns1.lt (Nat.le_of_lt hns1.lt) gz kg blt (Nat.le_refl _) Dr ?_ (Gn.start hns1 on1 rfl (fun b e => by rw [e]; exact gL) st1 D.gd (Nat.le_trans D.bn nD) (fun b e => by rw [e]; exact hns1.lt)) rfl
  intro g₃ s₃ ans an ng K X on3
  exact fin g₃ s₃ ans an ng (Dr.kp.trans K) X on3

theorem Trn.refl {Y : Addr → Prop} {i : Nat} (on : g.on s.heap) (off : ∀ b, Y b → g b = none) : Trn Y i g g s s := ⟨fun _ _ _ e => e, fun _ _ _ e => e, id, Nat.le_refl _, Nat.le_refl _, rfl, .refl, on, off⟩
/-- a generator hands on what will come to an answer -/
theorem yield_will {D : Driver prog w} {An : PM → Value → Prop} {d' n' k' : Nat} {rv za zo : Value} {items : List Addr} {z : Addr} {Y : Addr → Prop} {i : Nat} {g₀ g' : PM} {hs s₂ : Shared} {l : List Value} {k : Resume → Sem Fin} {c : Code} {p : Pos} {fs : List Frame}
    (T : Trn Y i g₀ g' hs s₂) (hlen : items.length + 1 + d' ≤ 4000) (hfg : fs.any Frame.guarded = false) (W : Will prog w An d' n' k' rv g' s₂) (iL : i < k') (kD : D.k₀ ≤ i) (nD : D.n₀ ≤ n') (ow : ∀ b, D.own b → b < n') (hi : i < s₂.gens.size) (hn' : n' ≤ s₂.heap.objs.size) (hk' : k' ≤ s₂.gens.size)
    (res : ∀ g₃ s₃ ans, An g₃ ans → NotGen w g₃ ans → s₃.gens[i]? = some (.suspended k l c p fs false) → Kp n' k' D.own (s₂.setGen i (.suspended k l c p fs false)) s₃ → Ext n' g' g₃ → g₃.on s₃.heap → D.LG (items ++ [z]) ans ans g₃ s₃) :
    TurnP w D.own D.LG items z za zo Y i g₀ hs (.susp rv false l k c p fs) s₂ := by
  rcases W with ⟨ng, an⟩ | ⟨z', j, Lc, c', rfl, Z', kj, nL', Llt, hgj, gLc, go⟩
  · exact turn_ans T hfg ng fun s₃ Dr on3 => res g' s₃ rv an ng (by rw [Dr.gens]; exact setGen_self hi) Dr.kp .refl on3
  · have ne : j ≠ i := by omega
    have oLc : ¬ D.own Lc := fun q => absurd (ow _ q) (Nat.not_lt.mpr nL')
    refine turn_sub T hfg Z' fun s₃ Dr on3 => go D (items ++ [z]) z' _ g' s₃ (by simp; omega) .refl Z' (by rw [Dr.gens, setGen_get ne]; exact hgj) (fun o q => Dr.sl _ _ oLc q) gLc (by omega) (Nat.le_trans nD nL') oLc fun g₃ s₃' ans an ng K X on3' => ?_
    exact res g₃ s₃' ans an ng (K.gens i _ iL (by rw [Dr.gens]; exact setGen_self hi)) (Dr.kp.trans K) X on3'
/-- a generator that has nothing left to do is woken -/
theorem resume_end {D : Driver prog w} {v : Value} {items : List Addr} {z : Addr} (Y : Addr → Prop) {i n k₁ : Nat} {g₃ : PM} {s₃ : Shared} {l : List Value} {k : Resume → Sem Fin} {c : Code} {p : Pos} {fs : List Frame}
    (h : s₃.gens[i]? = some (.suspended k l c p fs false)) (hlen : items.length + 2 ≤ 4000) (Z : GenZ g₃ z i) (kD : D.k₀ ≤ i) (hY : ∀ b, Y b → D.n₀ ≤ b ∧ ¬ D.own b ∧ g₃ b = none) (hki : k₁ ≤ i)
    (hk : ∀ x s'' P', P' (.ret (.ok (.ret .none))) s'' → SegX (model prog w) D.A c (k (.send x)) fs s'' P')
    (fin : ∀ s₄, Kp n k₁ D.own s₃ s₄ → g₃.on s₄.heap → D.LG items v v g₃ s₄) : D.LG (items ++ [z]) v v g₃ s₃ :=
  D.turn items z i v v g₃ s₃ _ c _ fs Y hlen Z h (.inr ⟨k, l, p, false, rfl, rfl⟩) kD hY fun s₁ Dr on1 st1 kg blt =>
    hk v _ _ (turn_end (.refl on1 fun b y => (hY b y).2.2) fun s₄ Dr4 on4 => fin s₄ (Dr.kp.trans ((setGen_kp hki rfl).trans ((setGen_kp hki rfl).trans Dr4.kp))) on4)

theorem Ext.off {n : Nat} {g' : PM} {L : Addr} (X : Ext n g g') (hL : L < n) (off : g L = none) : g' L = none := by
  cases q : g' L with
  | none => rfl
  | some o => exact (X.new _ _ q).elim (fun e => by rw [off] at e; cases e) fun e => absurd hL (Nat.not_lt.mpr e)
theorem yield_last {D : Driver prog w} {An : PM → Value → Prop} {d' n n' k₁ k' : Nat} {rv za zo : Value} {items : List Addr} {z L : Addr} {Y : Addr → Prop} {i : Nat} {g₀ g' : PM} {s₁ s₂ : Shared} {l : List Value} {k : Resume → Sem Fin} {c : Code} {p : Pos} {fs : List Frame}
    (G : Gn w D.base (s₁.setGen i .running) i Y g₀ g' L s₂ m) (hlen : items.length + 1 + d' ≤ 4000) (hd : 1 ≤ d') (hfg : fs.any Frame.guarded = false) (W : Will prog w An d' n' k' rv g' s₂) (iL : i < k') (hY : ∀ b, Y b → b < n' ∧ D.n₀ ≤ b ∧ ¬ D.own b ∧ n ≤ b) (kD : D.k₀ ≤ i) (ow : ∀ b, D.own b → b < n')
    (hn' : n' ≤ s₂.heap.objs.size) (hk' : k' ≤ s₂.gens.size) (hki : k₁ ≤ i) (Z : GenZ g₀ z i) (hns : n ≤ s₁.heap.objs.size)
    (hk : ∀ x s'' P', P' (.ret (.ok (.ret .none))) s'' → SegX (model prog w) D.A c (k (.send x)) fs s'' P')
    (fin : ∀ g₃ s₃ ans, An g₃ ans → NotGen w g₃ ans → Kp n k₁ D.own s₁ s₃ → Ext n g₀ g₃ → g₃.on s₃.heap → D.LG items ans ans g₃ s₃) :
    TurnP w D.own D.LG items z za zo Y i g₀ (s₁.setGen i .running) (.susp rv false l k c p fs) s₂ := by
  obtain ⟨y1, y2, y3, y4⟩ := hY L G.hY
  have nn : n ≤ n' := Nat.le_trans y4 (Nat.le_of_lt y1)
  refine yield_will G.T hlen hfg W iL kD (Nat.le_trans y2 (Nat.le_of_lt y1)) ow (by omega) hn' hk' fun g₃ s₃ ans an ng hg K X on3 => ?_
  refine resume_end (n := n) Y hg (by omega) (Z.le (G.T.ext.le.trans X.le)) kD (fun b y => ⟨(hY b y).2.1, (hY b y).2.2.1, X.off (hY b y).1 (G.T.off b y)⟩) hki hk fun s₄ K4 on4 => fin g₃ s₄ ans an ng ?_ ((G.T.ext.mono hns).trans X nn) on4
  exact (setGen_kp hki rfl).trans ((G.T.kp (fun b y => (hY b y).2.2.2) hki).trans ((setGen_kp hki rfl).trans ((K.mono nn (by omega)).trans K4)))

theorem walk_free {σ : Sub} {k : Int} : ∀ {n : Nat} {t : Tm}, walk σ n t = some (.var k) → σ.get k = none
  | 0, _, h => by simp [walk] at h
  | n + 1, .var j, h => by
    simp only [walk] at h
    cases e : σ.get j with
    | none => rw [e] at h; cases h; exact e
    | some t => rw [e] at h; exact walk_free h
  | n + 1, .int i, h => by simp [walk, Tm.plain] at h
  | n + 1, .nil c, h => by simp [walk, Tm.plain] at h
  | n + 1, .cons a b, h => by simp [walk, Tm.plain] at h
def UnifyOK (prog : Program) (w : World) (n : Nat) : Prop := ∀ {A : Around} {s : Shared} {g : PM} {u v : Tm} {σ : Sub} {r : Option Sub} {vu vv vs : Value} {R : Result → Shared → Prop},
  A.units + 1000 < cLine → A.depth + 40 < recursionLimit → uni n σ u v = some r → Rep g u vu → Rep g v vv → SubAt g vs σ → Gd w s.heap → g.on s.heap →
  (∀ s' g' rv, Grow s s' → Ext s.heap.objs.size g g' → g'.on s'.heap → Will prog w (AnU r) (n + 2) s.heap.objs.size s.gens.size rv g' s' → R (.ok (.ret rv)) s') →
  codeAny (model prog w) A (.call (.ref 248) ⟨[vu, vv, vs], []⟩) R s

theorem var_call {u v u' v' : Tm} {σ : Sub} {r : Option Sub} {n : Nat} {vu vv vs : Value} {R : Result → Shared → Prop} (IH : UnifyOK prog w n) (hroom : A.depth < recursionLimit) (G : Gd w s.heap) (on : g.on s.heap)
    (Ru : Rep g u vu) (Rv : Rep g v vv) (S : SubAt g vs σ) (hu' : walk σ n u = some u') (hv' : (if v.isVar then walk σ n v else some v) = some v') (pu : u'.plain = true) (pv : v'.plain = true)
    (hr : (u' = v' ∧ r = some σ) ∨ (u' ≠ v' ∧ ∃ k, u' = .var k ∧ r = some (σ ++ [(k, v')])) ∨ (u' ≠ v' ∧ u'.isVar = false ∧ ∃ k, v' = .var k ∧ r = some (σ ++ [(k, u')])) ∨ (u' ≠ v' ∧ u'.isVar = false ∧ v'.isVar = false ∧ uni n σ u' v' = some r))
    (h : ∀ s' g' ga, Grow s s' → Ext s.heap.objs.size g g' → g'.on s'.heap → Made prog w (AnU r) (n + 3) s.heap.objs.size s.gens.size ga g' s' → R (.ok (.ret (.ref ga))) s') :
    codeAny (model prog w) A (.call (.ref 255) ⟨[vu, vv, vs], []⟩) R s := by
  refine enterGM (binds := [("u", vu), ("v", vv), ("s", vs)]) G on (by k_is) (by k_is) rfl hroom (BindsTo.of_eq rfl) (by decide) (locs rfl) (by omega) h (fun D items z zo g₂ s₂ s₁ L hlen gle Z kD nD oD hL hS gS kg blt nsL Dr fin Gn1 _ => ?_)
  obtain ⟨d, xs, rfl, DD, SS⟩ := S.le gle
  have Ru2 := Ru.le gle
  have Rv2 := Rv.le gle
  obtain ⟨n1, yu, W1, R1⟩ := walk_at (w := w) DD SS hu' Ru2
  obtain ⟨yv, W2, R2⟩ : ∃ yv, (v.isVar = true → ∃ n2, WalkN w g₂ d xs n2 vv yv) ∧ (v.isVar = false → yv = vv) ∧ Rep g₂ v' yv := by
    cases e : v.isVar with
    | true =>
      rw [e, if_pos rfl] at hv'
      obtain ⟨n2, y2, W2, R2⟩ := walk_at (w := w) DD SS hv' Rv2
      exact ⟨y2, fun _ => ⟨n2, W2⟩, fun h => by (cases h), R2⟩
    | false =>
      rw [e, if_neg Bool.false_ne_true] at hv'; cases hv'
      exact ⟨vv, fun h => by (cases h), fun _ => rfl, Rv2⟩
  obtain ⟨W3, R2⟩ := R2
  have room := D.room
  have units := D.units
  refine sx_stmt ?_
  repeat walk1
  refine wpAny_call (tget ?_ ?_ Gn1.gd Gn1.on DD W1 fun s3 Gr3 => ?_)
  · walk_at "room"
  · walk_at "room"
  have Gn3 := Gn1.after0 Gr3
  dsimp only
  refine st_loc Gn3.F (fun h4 F4 sb4 => ?_)
  have Gn4 := Gn3.set (tk := s3.toks + 1) F4.ns sb4
  clear F4 Gn3
  have isv := Rv2.isi (w := w)
  have kov := ko_tm_var (w := w) Rv2.ok
  refine sx_stmt (wpAny_mono (Q := fun f s' => f = .next ∧ ∃ m', Gn w D.base (s₁.setGen s.gens.size .running) s.gens.size (· = L) g₂ g₂ L s' m' ∧ m' "u_w" = some yu ∧ m' "v_w" = some yv ∧ m' "s" = some (.ref d)) ?_ ?_ (fun _ _ z => z))
  · repeat walk1
    refine wpAny_call (isvar_call ?_ Gn4.gd Gn4.on isv kov fun s5 Gr5 _ => ?_)
    · walk_at "room"
    have Gn5 := Gn4.after0 Gr5
    dsimp only
    cases ev : v.isVar with
    | true =>
      repeat walk1
      obtain ⟨n2, W4⟩ := W2 ev
      refine wpAny_call (tget ?_ ?_ Gn5.gd Gn5.on DD W4 fun s6 Gr6 => ?_)
      · walk_at "room"
      · walk_at "room"
      have Gn6 := Gn5.after0 Gr6
      dsimp only
      refine st_loc Gn6.F (fun h7 F7 sb7 => ?_)
      have Gn7 := Gn6.set (tk := s6.toks + 1) F7.ns sb7
      clear F7 Gn6
      exact wpAny_execs_nil ⟨rfl, _, Gn7, rfl, rfl, rfl⟩
    | false =>
      repeat walk1
      obtain rfl := W3 ev
      refine st_loc Gn5.F (fun h7 F7 sb7 => ?_)
      have Gn7 := Gn5.set (tk := s5.toks + 1) F7.ns sb7
      clear F7
      exact wpAny_execs_nil ⟨rfl, _, Gn7, rfl, rfl, rfl⟩
  clear Gn1 Gn4
  rintro _ s5 ⟨rfl, m5, Gn5, m5u, m5v, m5s⟩
  refine sx_cons (sx_if ?_)
  repeat walk1
  refine eq_plain ?_ ?_ Gn5.gd Gn5.on pu pv R1 R2 fun s6 Gr6 => ?_
  · walk_at "room"
  · walk_at "room"
  have Gn6 := Gn5.after0 Gr6
  clear Gn5
  repeat walk1
  have ow : ∀ b, D.own b → b < s6.heap.objs.size := fun b q => Nat.lt_of_lt_of_le (blt b (.inr q)) Gn6.T.size
  have lL : L < s6.heap.objs.size := Nat.lt_of_lt_of_le hL Gn6.T.size
  have gk6 : (s₁.setGen s.gens.size .running).gens.size ≤ s6.gens.size := Gn6.T.gsize
  have gk7 : s.gens.size < s6.gens.size := by
    have : s₁.gens.size = (s₁.setGen s.gens.size .running).gens.size := by unfold Shared.setGen; simp
    omega
  have YL : ∀ {rv : Value} {g' : PM} {s7 : Shared} {m7 : Str → Option Value} {l : List Value} {k : Resume → Sem Fin} {c : Code} {p : Pos} {d' n' k' : Nat}, 1 ≤ d' → d' + 1 ≤ n + 3 → Gn w D.base (s₁.setGen s.gens.size .running) s.gens.size (· = L) g₂ g' L s7 m7 → s6.heap.objs.size ≤ n' → n' ≤ s7.heap.objs.size → s6.gens.size ≤ k' → k' ≤ s7.gens.size →
      Will prog w (AnU r) d' n' k' rv g' s7 → (∀ x s'' P', P' (.ret (.ok (.ret .none))) s'' → SegX (model prog w) D.A c (k (.send x)) [] s'' P') →
      TurnP w D.own D.LG items z .none zo (· = L) s.gens.size g₂ (s₁.setGen s.gens.size .running) (.susp rv false l k c p []) s7 := fun hd1 hd2 G7 z0 z1 z2 z3 W hk =>
    yield_last G7 (by omega) hd1 rfl W (by omega) (fun b e => by rw [e]; exact ⟨Nat.lt_of_lt_of_le lL z0, nD, oD, nsL⟩) kD (fun b q => Nat.lt_of_lt_of_le (ow b q) z0) z1 z3 (Nat.le_refl _) Z hS hk fin
  by_cases euv : u' = v'
  · rw [decide_eq_true euv, if_pos rfl]
    rcases hr with ⟨_, rfl⟩ | ⟨q, _⟩ | ⟨q, _⟩ | ⟨q, _⟩
    · refine sx_cons (sx_Expr_Yield rfl rfl rfl (nm_loc Gn6.F m5s ?_))
      intro p kk hkk
      refine YL (d' := 1) (by omega) (by omega) Gn6 (Nat.le_refl _) (Nat.le_refl _) (Nat.le_refl _) (Nat.le_refl _) (.inl ⟨SubAt.notGen (σ := σ) ⟨d, xs, rfl, DD, SS⟩, ⟨d, xs, rfl, DD, SS⟩⟩) (fun x s'' P' q => hkk x s'' P' ?_)
      exact sx_end q
    · exact absurd euv q
    · exact absurd euv q
    · exact absurd euv q
  · rw [decide_eq_false euv, if_neg Bool.false_ne_true]
    have isu := R1.isi (w := w)
    have isw := R2.isi (w := w)
    refine sx_cons (sx_if ?_)
    repeat walk1
    refine wpAny_call (isvar_call ?_ Gn6.gd Gn6.on isu (ko_tm_var R1.ok) fun s7 Gr7 _ => ?_)
    · walk_at "room"
    have Gn7 := Gn6.after0 Gr7
    dsimp only
    refine wpAny_truthy_bool ?_
    cases evu : u'.isVar with
    | true =>
      rw [if_pos rfl]
      obtain ⟨k, rfl, er⟩ : ∃ k, u' = .var k ∧ r = some (σ ++ [(k, v')]) := by
        rcases hr with ⟨q, _⟩ | ⟨_, k, q, er⟩ | ⟨_, q, _⟩ | ⟨_, q, _⟩
        · exact absurd q euv
        · exact ⟨k, q, er⟩
        · rw [q] at evu; cases evu
        · rw [q] at evu; cases evu
      obtain ⟨a, rfl, V, k0, k1⟩ := R1.var_is
      refine sx_cons (sx_Expr_Yield rfl rfl rfl ?_)
      repeat walk1
      refine wpAny_call (assoc_call ?_ ?_ Gn7.gd Gn7.on DD V k0 k1 (SS.get.2 (walk_free hu')).2 fun s8 g8 c8 Gr8 X8 on8 D8 => ?_)
      · walk_at "room"
      · walk_at "room"
      have Gn8 := Gn7.after Gr8 X8 on8
      intro p kk hkk
      have S8 : SubAt g8 (.ref c8) (σ ++ [(k, v')]) := ⟨c8, _, rfl, D8, (SS.le X8.le).snoc (R2.le X8.le)⟩
      refine YL (d' := 1) (by omega) (by omega) Gn8 (Nat.le_trans Gr7.size Gr8.size) (Nat.le_refl _) (Nat.le_trans (gens_size Gr7.gens) (gens_size Gr8.gens)) (Nat.le_refl _) (.inl ⟨S8.notGen, by rw [er]; exact S8⟩) (fun x s'' P' q => hkk x s'' P' ?_)
      exact sx_end q
    | false =>
      rw [if_neg Bool.false_ne_true]
      refine sx_cons (sx_if ?_)
      repeat walk1
      refine wpAny_call (isvar_call ?_ Gn7.gd Gn7.on isw (ko_tm_var R2.ok) fun s8 Gr8 _ => ?_)
      · walk_at "room"
      have Gn8 := Gn7.after0 Gr8
      dsimp only
      refine wpAny_truthy_bool ?_
      cases evv : v'.isVar with
      | true =>
        rw [if_pos rfl]
        obtain ⟨k, rfl, er⟩ : ∃ k, v' = .var k ∧ r = some (σ ++ [(k, u')]) := by
          rcases hr with ⟨q, _⟩ | ⟨_, k, q, er⟩ | ⟨_, _, k, q, er⟩ | ⟨_, _, q, _⟩
          · exact absurd q euv
          · rw [q] at evu; cases evu
          · exact ⟨k, q, er⟩
          · rw [q] at evv; cases evv
        obtain ⟨a, rfl, V, k0, k1⟩ := R2.var_is
        have hv2 : walk σ n v = some (.var k) := by
          cases e : v.isVar with
          | true => rw [e, if_pos rfl] at hv'; exact hv'
          | false => rw [e, if_neg Bool.false_ne_true] at hv'; cases hv'; cases e
        refine sx_cons (sx_Expr_Yield rfl rfl rfl ?_)
        repeat walk1
        refine wpAny_call (assoc_call ?_ ?_ Gn8.gd Gn8.on DD V k0 k1 (SS.get.2 (walk_free hv2)).2 fun s9 g9 c9 Gr9 X9 on9 D9 => ?_)
        · walk_at "room"
        · walk_at "room"
        have Gn9 := Gn8.after Gr9 X9 on9
        intro p kk hkk
        have S9 : SubAt g9 (.ref c9) (σ ++ [(k, u')]) := ⟨c9, _, rfl, D9, (SS.le X9.le).snoc (R1.le X9.le)⟩
        refine YL (d' := 1) (by omega) (by omega) Gn9 (Nat.le_trans Gr7.size (Nat.le_trans Gr8.size Gr9.size)) (Nat.le_refl _) (Nat.le_trans (gens_size Gr7.gens) (Nat.le_trans (gens_size Gr8.gens) (gens_size Gr9.gens))) (Nat.le_refl _) (.inl ⟨S9.notGen, by rw [er]; exact S9⟩) (fun x s'' P' q => hkk x s'' P' ?_)
        exact sx_end q
      | false =>
        rw [if_neg Bool.false_ne_true]
        have er : uni n σ u' v' = some r := by
          rcases hr with ⟨q, _⟩ | ⟨_, k, q, er⟩ | ⟨_, _, k, q, er⟩ | ⟨_, _, _, q⟩
          · exact absurd q euv
          · rw [q] at evu; cases evu
          · rw [q] at evv; cases evv
          · exact q
        refine sx_cons (sx_Expr_Yield rfl rfl rfl ?_)
        repeat walk1
        refine wpAny_call (IH ?_ ?_ er R1 R2 ⟨d, xs, rfl, DD, SS⟩ Gn8.gd Gn8.on fun s9 g9 rv Gr9 X9 on9 W9 => ?_)
        · walk_at "room"
        · walk_at "room"
        have Gn9 := Gn8.after Gr9 X9 on9
        intro p kk hkk
        refine YL (d' := n + 2) (by omega) (by omega) Gn9 (Nat.le_trans Gr7.size Gr8.size) Gr9.size (Nat.le_trans (gens_size Gr7.gens) (gens_size Gr8.gens)) (gens_size Gr9.gens) W9 (fun x s'' P' q => hkk x s'' P' ?_)
        exact sx_end q
end

end Mine
end
section
open PySem PySem.W PyProof.Rows PySem.Calls
open PySem.W.X (SegX wake_any)
set_option Elab.async false
set_option maxRecDepth 100000
set_option maxHeartbeats 8000000
namespace Mine
set_option pp.maxSteps 600
theorem fill16 : (fun (_ : OpenLaw) (_ : Params → Frag) => True) PySem.Challenge.rw_fe0181_02 hd2.heap_39 := by
  k_fill; trivial
local macro_rules | `(tactic| walk_at "eval Name") => `(tactic| first
  | (refine nm_loc (by assumption) (by first | assumption | exact rfl) ?_)
  | (refine nm_glob (by assumption) (by k_is) ?_)
  | (refine nm_built (by assumption) (by k_is) (by boot_by_name) ?_))
local macro_rules | `(tactic| walk_at "callWith ref") => `(tactic| first
  | (refine callWith_K0 (Gd.K (Fx.gd (by assumption))) (by k_is) ?_)
  | (refine callWith_K (Gd.K (Fx.gd (by assumption))) (by k_is) ?_))
local macro_rules | `(tactic| walk_at "And") => `(tactic| ((with_reducible show Frag.In _ _ ∧ _); refine ⟨Gd.K (Fx.gd (by assumption)), ?_⟩; try dsimp only [List.nil_append, List.cons_append]))
local macro_rules | `(tactic| walk_at "room") => `(tactic| (simp only [Around.deeper, Around.in1, Around.mark]; omega))
local macro_rules | `(tactic| walk_at "go") => `(tactic| repeat' (first | (k_unfold; (try dsimp only)) | walk1 | (dsimp only; walk1)))
section
variable {prog : Program} {w : World} {A : Around} {E : Value → Shared → Prop} {s : Shared} {env : Env} {h₀ : Heap} {g : PM} {m : Str → Option Value}
def HasF (h : Heap) (a : Addr) (T : String) (vs : Array Value) : Prop := ∃ o, h.get? a = some o ∧ o.cls = .type T ∧ o.data = .fields vs
def HasS (h : Heap) (a : Addr) (T : String) (vs : Array Value) : Prop := ∃ o, h.get? a = some o ∧ o.cls = .type T ∧ ∃ n, o.data = .seq vs n
section
variable {h h' : Heap} {a b : Addr} {T : String} {vs : Array Value}
theorem HasF.at (x : HasF h a T vs) (k : ∀ o, h.get? a = some o → ∃ sl, h'.get? a = some { o with slots := sl }) : HasF h' a T vs := let ⟨o, e, r⟩ := x; let ⟨_, e'⟩ := k o e; ⟨_, e', r⟩
theorem HasS.at (x : HasS h a T vs) (k : ∀ o, h.get? a = some o → ∃ sl, h'.get? a = some { o with slots := sl }) : HasS h' a T vs := let ⟨o, e, r⟩ := x; let ⟨_, e'⟩ := k o e; ⟨_, e', r⟩
theorem HasF.but (x : HasF h a T vs) (sb : Heap.SameBut b h h') (ne : a ≠ b) : HasF h' a T vs := let ⟨o, e, r⟩ := x; ⟨o, (sb.2 a ne).trans e, r⟩
theorem HasS.but (x : HasS h a T vs) (sb : Heap.SameBut b h h') (ne : a ≠ b) : HasS h' a T vs := let ⟨o, e, r⟩ := x; ⟨o, (sb.2 a ne).trans e, r⟩
theorem HasF.push (x : HasF h a T vs) (o : Obj) : HasF (h.push o) a T vs := let ⟨o', e, r⟩ := x; ⟨o', Heap.get?_push_of_some _ e, r⟩
theorem HasS.push (x : HasS h a T vs) (o : Obj) : HasS (h.push o) a T vs := let ⟨o', e, r⟩ := x; ⟨o', Heap.get?_push_of_some _ e, r⟩
theorem HasF.lt (x : HasF h a T vs) : a < h.objs.size := let ⟨_, e, _⟩ := x; Heap.lt_size e
theorem HasS.lt (x : HasS h a T vs) : a < h.objs.size := let ⟨_, e, _⟩ := x; Heap.lt_size e
theorem HasF.ty (x : HasF s.heap a T vs) : s.TypeIs (.ref a) T := let ⟨o, e, c, _⟩ := x; ⟨o, e, c⟩
theorem HasS.ty (x : HasS s.heap a T vs) : s.TypeIs (.ref a) T := let ⟨o, e, c, _⟩ := x; ⟨o, e, c⟩

theorem setF {k : Nat} {x : Value} {Q : Unit → Shared → Prop} (H : HasF s.heap a T vs) (hk : k < vs.size) (hq : ∀ h', HasF h' a T (vs.setIfInBounds k x) → Heap.SameBut a s.heap h' → Q () { s with heap := h' }) : wpAny (model prog w) A (setField (.ref a) k x) Q E s := by
  obtain ⟨o, ho, hc, hd⟩ := H
  refine wpAny_setField ho hd hk (hq _ ⟨_, Heap.get?_update_self _ ho (Obj.isFreed_of_fields (Obj.data_mapFields hd _)), (Obj.cls_mapFields ..).trans hc, Obj.data_mapFields hd _⟩ (Heap.SameBut.update ..))
theorem setS {f : Array Value → Array Value} {Q : Unit → Shared → Prop} (H : HasS s.heap a T vs) (hz : vs.size ≤ 8) (hf : (f vs).size = vs.size) (hq : ∀ h', HasS h' a T (f vs) → Heap.SameBut a s.heap h' → Q () { s with heap := h' }) : wpAny (model prog w) A (updateSeq a f) Q E s := by
  obtain ⟨o, ho, hc, n, hd⟩ := H
  obtain ⟨n', hd'⟩ := Obj.data_mapSeq hd f
  refine wpAny_updateSeq ho hd (hq _ ⟨_, Heap.get?_update_self _ ho (Obj.isFreed_of_seq hd'), (Obj.cls_mapSeq ..).trans hc, n', hd'⟩ (Heap.SameBut.update ..)) ?_ ?_
  · simp [sizeLine]; omega
  · simp [sizeLine]; omega
end

/-- the kinds that zip walks over here -/
def itTy (c : Ctor) : String := match c with | .lst => "list_iterator" | _ => "tuple_iterator"
def sqTy (c : Ctor) : String := match c with | .lst => "list" | _ => "tuple"
abbrev ItAt (c : Ctor) (h : Heap) (it l : Addr) (i : Nat) : Prop := HasF h it (itTy c) #[.ref l, .int i 0]
abbrev SqAt (c : Ctor) (h : Heap) (l : Addr) (items : Array Value) : Prop := HasS h l (sqTy c) items

theorem next_item {c : Ctor} {it l : Addr} {i : Nat} {items : Array Value} {x : Value} {Q : Value → Shared → Prop} (hc : c = .tup ∨ c = .lst) (hit : ItAt c s.heap it l i) (hl : SqAt c s.heap l items) (hx : items[i]? = some x)
    (hQ : ∀ h', ItAt c h' it l (i + 1) → Heap.SameBut it s.heap h' → Q x { s with heap := h' }) : wpAny (model prog w) A (Builtin.SmallTypes.nextOf (.ref it)) Q E s := by
  have hT := hit.ty
  obtain ⟨o, ho, hcl, hd⟩ := id hit
  obtain ⟨ol, hol, _, nl, hdl⟩ := hl
  unfold Builtin.SmallTypes.nextOf
  have core : ∀ (K : Value → Sem Fin), (∀ y, K y = ret y) → True := fun _ _ => trivial
  rcases hc with rfl | rfl
  · refine wpAny_bind (wpAny_callSpecial?_slot (name := Str.ofString "__next__") hT slot_tupleiter_next (wpAny_call_entry slot_tupleiter_next hT entry_tupleiter_next ?_ (args_tupleiter_next _)))
    show wpAny _ _ (field (.ref it) 0 >>= _) _ _ s
    refine wpAny_bind (wpAny_field ho hd (x := .ref l) rfl ?_)
    show wpAny _ _ (if (Value.ref l == Value.none) = true then _ else _) _ _ s
    rw [if_neg (show ¬ ((Value.ref l == Value.none) = true) from Bool.false_ne_true)]
    show wpAny _ _ (field (.ref it) 1 >>= _) _ _ s
    refine wpAny_bind (wpAny_field ho hd (x := .int i 0) rfl ?_)
    show wpAny _ _ (seqItems? (.ref l) >>= _) _ _ s
    refine wpAny_bind (wpAny_seqItems hol hdl ?_)
    simp only [Int.toNat_natCast, hx]
    refine wpAny_bind (setF hit (by simp) fun h' H sb => wpAny_pure ⟨x, rfl, wpAny_pure (hQ _ ?_ sb)⟩)
    have e : ((i + 1 : Nat) : Int) = (i : Int) + 1 := by omega
    unfold ItAt
    rw [e]
    simpa [rawInt] using H
  · refine wpAny_bind (wpAny_callSpecial?_slot (name := Str.ofString "__next__") hT slot_listiter_next (wpAny_call_entry slot_listiter_next hT entry_listiter_next ?_ (args_listiter_next _)))
    show wpAny _ _ (field (.ref it) 0 >>= _) _ _ s
    refine wpAny_bind (wpAny_field ho hd (x := .ref l) rfl ?_)
    show wpAny _ _ (if (Value.ref l == Value.none) = true then _ else _) _ _ s
    rw [if_neg (show ¬ ((Value.ref l == Value.none) = true) from Bool.false_ne_true)]
    show wpAny _ _ (field (.ref it) 1 >>= _) _ _ s
    refine wpAny_bind (wpAny_field ho hd (x := .int i 0) rfl ?_)
    show wpAny _ _ (seqItems? (.ref l) >>= _) _ _ s
    refine wpAny_bind (wpAny_seqItems hol hdl ?_)
    simp only [Int.toNat_natCast, hx]
    refine wpAny_bind (setF hit (by simp) fun h' H sb => wpAny_pure ⟨x, rfl, wpAny_pure (hQ _ ?_ sb)⟩)
    have e : ((i + 1 : Nat) : Int) = (i : Int) + 1 := by omega
    unfold ItAt
    rw [e]
    simpa [rawInt] using H

theorem stop_raise {α : Type} {Q : α → Shared → Prop} (hh : A.handled = none) (hE : ∀ h' e, (∀ b o, s.heap.get? b = some o → h'.get? b = some o) → s.heap.objs.size ≤ h'.objs.size → (∃ o, h'.get? e = some o ∧ o.cls = .type "StopIteration") → s.heap.objs.size ≤ e → E (.ref e) { s with heap := h' }) :
    wpAny (model prog w) A (newExc (.type "StopIteration") [] >>= fun e => (raiseNew e : Sem α)) Q E s := by
  refine wpAny_bind ?_
  simp only [newExc, newTuple]
  refine wpAny_bind (wpAny_newObj_type ?_ (by size_fits))
  refine wpAny_bind (m := firstArgMember _ _) (wpAny_of_eq (a := Value.none) (by first | rfl | (simp only [firstArgMember]; rfl)) ?_)
  refine wpAny_newObj_type ?_ (by size_fits)
  simp only [raiseNew]
  refine wpAny_bind (wpAny_handled ?_)
  rw [hh]
  refine wpAny_bind (wpAny_pure (wpAny_throw (hE _ _ (fun b o e => Heap.get?_push_of_some _ (Heap.get?_push_of_some _ e)) ?_ ⟨_, Heap.get?_push_size _ rfl, rfl⟩ ?_)))
  · rw [Heap.size_push, Heap.size_push]; exact Nat.le_succ_of_le (Nat.le_succ _)
  · rw [Heap.size_push]; exact Nat.le_succ _

theorem next_end {c : Ctor} {it l : Addr} {i : Nat} {items : Array Value} {Q : Value → Shared → Prop} (hh : A.handled = none) (hc : c = .tup ∨ c = .lst) (hit : ItAt c s.heap it l i) (hl : SqAt c s.heap l items) (hx : items[i]? = none)
    (hE : ∀ h' e, Heap.ExtBut it s.heap h' → s.heap.objs.size ≤ h'.objs.size → (∃ o, h'.get? e = some o ∧ o.cls = .type "StopIteration") → s.heap.objs.size ≤ e → E (.ref e) { s with heap := h' }) : wpAny (model prog w) A (Builtin.SmallTypes.nextOf (.ref it)) Q E s := by
  have hT := hit.ty
  obtain ⟨o, ho, hcl, hd⟩ := id hit
  obtain ⟨ol, hol, _, nl, hdl⟩ := hl
  unfold Builtin.SmallTypes.nextOf
  rcases hc with rfl | rfl
  · refine wpAny_bind (wpAny_callSpecial?_slot (name := Str.ofString "__next__") hT slot_tupleiter_next (wpAny_call_entry slot_tupleiter_next hT entry_tupleiter_next ?_ (args_tupleiter_next _)))
    show wpAny _ _ (field (.ref it) 0 >>= _) _ _ s
    refine wpAny_bind (wpAny_field ho hd (x := .ref l) rfl ?_)
    show wpAny _ _ (if (Value.ref l == Value.none) = true then _ else _) _ _ s
    rw [if_neg (show ¬ ((Value.ref l == Value.none) = true) from Bool.false_ne_true)]
    show wpAny _ _ (field (.ref it) 1 >>= _) _ _ s
    refine wpAny_bind (wpAny_field ho hd (x := .int i 0) rfl ?_)
    show wpAny _ _ (seqItems? (.ref l) >>= _) _ _ s
    refine wpAny_bind (wpAny_seqItems hol hdl ?_)
    simp only [Int.toNat_natCast, hx]
    refine wpAny_bind (wpAny_rule (wpAny_bind (setF hit (by simp) fun h' H sb => ?_)))
    refine stop_raise hh fun h2 e k sz he hle => hE h2 e (fun b o nb q => k b o ((sb.2 b nb).trans q)) (Nat.le_trans (Nat.le_of_eq sb.1.symm) sz) he (Nat.le_trans (Nat.le_of_eq sb.1.symm) hle)
  · refine wpAny_bind (wpAny_callSpecial?_slot (name := Str.ofString "__next__") hT slot_listiter_next (wpAny_call_entry slot_listiter_next hT entry_listiter_next ?_ (args_listiter_next _)))
    show wpAny _ _ (field (.ref it) 0 >>= _) _ _ s
    refine wpAny_bind (wpAny_field ho hd (x := .ref l) rfl ?_)
    show wpAny _ _ (if (Value.ref l == Value.none) = true then _ else _) _ _ s
    rw [if_neg (show ¬ ((Value.ref l == Value.none) = true) from Bool.false_ne_true)]
    show wpAny _ _ (field (.ref it) 1 >>= _) _ _ s
    refine wpAny_bind (wpAny_field ho hd (x := .int i 0) rfl ?_)
    show wpAny _ _ (seqItems? (.ref l) >>= _) _ _ s
    refine wpAny_bind (wpAny_seqItems hol hdl ?_)
    simp only [Int.toNat_natCast, hx]
    refine wpAny_bind (wpAny_rule (wpAny_bind (setF hit (by simp) fun h' H sb => ?_)))
    refine stop_raise hh fun h2 e k sz he hle => hE h2 e (fun b o nb q => k b o ((sb.2 b nb).trans q)) (Nat.le_trans (Nat.le_of_eq sb.1.symm) sz) he (Nat.le_trans (Nat.le_of_eq sb.1.symm) hle)

/-- a zip object over two sequences, at place k; f0 marks the tuple that it owns -/
structure ZipS (c : Ctor) (h : Heap) (lo : Nat) (z TI TO i1 i2 l1 l2 : Addr) (k : Nat) (f0 : Value) : Prop where
  fz : HasF h z "zip" #[f0, .bool false, .bool false, .ref TI, .ref TO]
  fTI : HasS h TI "tuple" #[.ref i1, .ref i2]
  fTO : ∃ a b, HasS h TO "tuple" #[a, b]
  f1 : ItAt c h i1 l1 k
  f2 : ItAt c h i2 l2 k
  ap : [z, TI, TO, i1, i2].Nodup
  low : ∀ b ∈ [z, TI, TO, i1, i2], lo ≤ b
section
variable {c : Ctor} {h h' : Heap} {lo : Nat} {z TI TO i1 i2 l1 l2 : Addr} {k : Nat} {f0 : Value}
theorem ZipS.at (Z : ZipS c h lo z TI TO i1 i2 l1 l2 k f0) (kk : ∀ b ∈ [z, TI, TO, i1, i2], ∀ o, h.get? b = some o → ∃ sl, h'.get? b = some { o with slots := sl }) : ZipS c h' lo z TI TO i1 i2 l1 l2 k f0 :=
  ⟨Z.fz.at (kk _ (by simp)), Z.fTI.at (kk _ (by simp)), let ⟨a, b, x⟩ := Z.fTO; ⟨a, b, x.at (kk _ (by simp))⟩, Z.f1.at (kk _ (by simp)), Z.f2.at (kk _ (by simp)), Z.ap, Z.low⟩
end
theorem nodup5 {z TI TO i1 i2 : Addr} (h : [z, TI, TO, i1, i2].Nodup) : z ≠ TI ∧ z ≠ TO ∧ z ≠ i1 ∧ z ≠ i2 ∧ TI ≠ TO ∧ TI ≠ i1 ∧ TI ≠ i2 ∧ TO ≠ i1 ∧ TO ≠ i2 ∧ i1 ≠ i2 := by
  simp only [List.nodup_cons, List.mem_cons, List.not_mem_nil, or_false, not_or] at h
  obtain ⟨⟨a1, a2, a3, a4⟩, ⟨b1, b2, b3⟩, ⟨c1, c2⟩, d1, _⟩ := h
  exact ⟨a1, a2, a3, a4, b1, b2, b3, c1, c2, d1⟩

theorem zip_item {c : Ctor} {lo : Nat} {z TI TO i1 i2 l1 l2 : Addr} {k : Nat} {xs ys : Array Value} {x y : Value} {Q : Option Value → Shared → Prop} (hc : c = .tup ∨ c = .lst) (Z : ZipS c s.heap lo z TI TO i1 i2 l1 l2 k .none)
    (h1 : SqAt c s.heap l1 xs) (h2 : SqAt c s.heap l2 ys) (n1 : l1 ∉ [z, TI, TO, i1, i2]) (n2 : l2 ∉ [z, TI, TO, i1, i2]) (hx : xs[k]? = some x) (hy : ys[k]? = some y)
    (hQ : ∀ (h' : Heap) (T : Addr), ZipS c h' lo z TI TO i1 i2 l1 l2 (k + 1) (rawInt T) → HasS h' T "tuple" #[x, y] → s.heap.objs.size ≤ T → (∀ b o, b ∉ [z, TI, TO, i1, i2] → s.heap.get? b = some o → h'.get? b = some o) → s.heap.objs.size ≤ h'.objs.size → Q (some (.ref T)) { s with heap := h' }) :
    wpAny (model prog w) A (pyNext (.ref z)) Q E s := by
  obtain ⟨a1, a2, a3, a4, b1, b2, b3, c1, c2, d1⟩ := nodup5 Z.ap
  obtain ⟨hz, hTI, ⟨va, vb, hTO⟩, hi1, hi2, hap, hlo⟩ := Z
  have hT := hz.ty
  have m1 : l1 ≠ i1 ∧ l1 ≠ TO ∧ l1 ≠ z := by simp at n1; exact ⟨n1.2.2.2.1, n1.2.2.1, n1.1⟩
  have m2 : l2 ≠ i1 ∧ l2 ≠ TO ∧ l2 ≠ z := by simp at n2; exact ⟨n2.2.2.2.1, n2.2.2.1, n2.1⟩
  unfold pyNext
  refine wpAny_bind (wpAny_attempt (wpAny_callSpecial?_slot (name := Str.ofString "__next__") hT PySem.F.slot_zip_next (wpAny_call_entry PySem.F.slot_zip_next hT PySem.F.entry_zip_next ?_ (PySem.F.args_zip_next_1 _))))
  obtain ⟨oz, ez, cz, dz⟩ := id hz
  obtain ⟨oI, eI, cI, nI, dI⟩ := id hTI
  show wpAny _ _ (field (.ref z) 2 >>= _) _ _ _
  refine wpAny_bind (wpAny_field ez dz (x := .bool false) rfl ?_)
  show wpAny _ _ (field (.ref z) 3 >>= _) _ _ _
  refine wpAny_bind (wpAny_field ez dz (x := .ref TI) rfl ?_)
  refine wpAny_bind (wpAny_seqItems eI dI ?_)
  show wpAny _ _ (Builtin.SmallTypes.ownedTupleIsFree (.ref z) >>= _) _ _ _
  refine wpAny_bind ?_
  unfold Builtin.SmallTypes.ownedTupleIsFree
  refine wpAny_bind (wpAny_field ez dz (x := .none) rfl (wpAny_pure ?_))
  simp only [if_true]
  refine wpAny_bind (wpAny_rule ?_)
  refine wpAny_bind (wpAny_field ez dz (x := .ref TO) rfl ?_)
  refine wpAny_bind (setF hz (by simp) fun h₁ hz₁ hs₁ => ?_)
  refine wpAny_bind ?_
  simp only [List.zipIdx_cons, List.zipIdx_nil, List.forIn_cons, List.forIn_nil]
  refine wpAny_bind (wpAny_bind (wpAny_onRaise ?_))
  show wpAny _ _ (Builtin.SmallTypes.nextOf (.ref i1) >>= _) _ _ _
  refine wpAny_bind (next_item hc (hi1.but hs₁ a3.symm) (h1.but hs₁ m1.2.2) hx fun h₂ h1₂ hs₂ => wpAny_pure ?_)
  have hTO₂ : HasS h₂ TO "tuple" #[va, vb] := (hTO.but hs₁ a2.symm).but hs₂ c1
  obtain ⟨oO, eO, cO, nO, dO⟩ := id hTO₂
  refine wpAny_bind (wpAny_seqItems eO dO ?_)
  refine wpAny_bind (setS hTO₂ (by simp) (by simp) fun h₃ hTO₃ hs₃ => ?_)
  refine wpAny_bind (wpAny_letGo (wpAny_pure ?_))
  refine wpAny_bind (wpAny_bind (wpAny_onRaise ?_))
  show wpAny _ _ (Builtin.SmallTypes.nextOf (.ref i2) >>= _) _ _ _
  refine wpAny_bind (next_item hc (((hi2.but hs₁ a4.symm).but hs₂ d1.symm).but hs₃ c2.symm) (((h2.but hs₁ m2.2.2).but hs₂ m2.1).but hs₃ m2.2.1) hy fun h₄ h2₄ hs₄ => wpAny_pure ?_)
  have hTO₄ := hTO₃.but hs₄ c2
  replace hTO₄ : HasS h₄ TO "tuple" #[x, vb] := hTO₄
  obtain ⟨oO4, eO4, cO4, nO4, dO4⟩ := id hTO₄
  refine wpAny_bind (wpAny_seqItems eO4 dO4 ?_)
  refine wpAny_bind (setS hTO₄ (by simp) (by simp) fun h₅ hTO₅ hs₅ => ?_)
  replace hTO₅ : HasS h₅ TO "tuple" #[x, y] := hTO₅
  refine wpAny_bind (wpAny_letGo (wpAny_pure (wpAny_pure ?_)))
  obtain ⟨oO5, eO5, cO5, nO5, dO5⟩ := id hTO₅
  refine wpAny_bind (wpAny_seqItems eO5 dO5 ?_)
  refine wpAny_bind (wpAny_newTuple ?_)
  have hz₅ := (((hz₁.but hs₂ a3).but hs₃ a2).but hs₄ a4).but hs₅ a2
  have hTI₅ := ((((hTI.but hs₁ a1.symm).but hs₂ b2).but hs₃ b1).but hs₄ b3).but hs₅ b1
  have h1₅ := ((h1₂.but hs₃ c1.symm).but hs₄ d1).but hs₅ c1.symm
  have h2₅ := h2₄.but hs₅ c2.symm
  have kk5 : ∀ b o, b ∉ [z, TI, TO, i1, i2] → s.heap.get? b = some o → h₅.get? b = some o := fun b o nb q => by
    simp only [List.mem_cons, List.not_mem_nil, or_false, not_or] at nb
    exact (hs₅.2 b nb.2.2.1).trans ((hs₄.2 b nb.2.2.2.2).trans ((hs₃.2 b nb.2.2.1).trans ((hs₂.2 b nb.2.2.2.1).trans ((hs₁.2 b nb.1).trans q))))
  have sz5 : h₅.objs.size = s.heap.objs.size := by rw [hs₅.1, hs₄.1, hs₃.1, hs₂.1, hs₁.1]
  show wpAny _ _ (Builtin.SmallTypes.ownedTupleHandOut (.ref z) (.ref h₅.objs.size) >>= _) _ _ _
  refine wpAny_bind ?_
  unfold Builtin.SmallTypes.ownedTupleHandOut
  have zlt : h₅.objs.size ≠ z := Nat.ne_of_gt hz₅.lt
  refine wpAny_bind (setF (hz₅.push _) (by simp) fun h₇ hz₇ hs₇ => ?_)
  refine setF hz₇ (by simp) fun h₈ hz₈ hs₈ => ?_
  have hT₈ : HasS h₈ h₅.objs.size "tuple" #[x, y] := HasS.but (HasS.but (h := h₅.push _) ⟨_, Heap.get?_push_size _ rfl, rfl, _, rfl⟩ hs₇ zlt) hs₈ zlt
  refine wpAny_pure ⟨_, rfl, wpAny_pure ?_⟩
  refine hQ h₈ h₅.objs.size ⟨hz₈, ((hTI₅.push _).but hs₇ a1.symm).but hs₈ a1.symm, ⟨x, y, ((hTO₅.push _).but hs₇ a2.symm).but hs₈ a2.symm⟩, ((h1₅.push _).but hs₇ a3.symm).but hs₈ a3.symm, ((h2₅.push _).but hs₇ a4.symm).but hs₈ a4.symm, hap, hlo⟩ hT₈ (Nat.le_of_eq sz5.symm) (fun b o nb q => ?_) ?_
  · have nz : b ≠ z := fun e => nb (by simp [e])
    exact (hs₈.2 b nz).trans ((hs₇.2 b nz).trans (Heap.get?_push_of_some _ (kk5 b o nb q)))
  · rw [hs₈.1, hs₇.1, Heap.size_push, sz5]; exact Nat.le_succ _

theorem zip_end {c : Ctor} {lo : Nat} {z TI TO i1 i2 l1 l2 : Addr} {k : Nat} {xs ys : Array Value} {Q : Option Value → Shared → Prop} (hh : A.handled = none) (hc : c = .tup ∨ c = .lst) (Z : ZipS c s.heap lo z TI TO i1 i2 l1 l2 k .none)
    (h1 : SqAt c s.heap l1 xs) (n1 : l1 ∉ [z, TI, TO, i1, i2]) (hx : xs[k]? = none)
    (hQ : ∀ h', (∀ b o, b ∉ [z, TI, TO, i1, i2] → s.heap.get? b = some o → h'.get? b = some o) → s.heap.objs.size ≤ h'.objs.size → Q none { s with heap := h' }) :
    wpAny (model prog w) A (pyNext (.ref z)) Q E s := by
  obtain ⟨a1, a2, a3, a4, b1, b2, b3, c1, c2, d1⟩ := nodup5 Z.ap
  obtain ⟨hz, hTI, ⟨va, vb, hTO⟩, hi1, hi2, hap, hlo⟩ := Z
  have hT := hz.ty
  have m1 : l1 ≠ i1 ∧ l1 ≠ TO ∧ l1 ≠ z := by simp at n1; exact ⟨n1.2.2.2.1, n1.2.2.1, n1.1⟩
  unfold pyNext
  refine wpAny_bind (wpAny_attempt (wpAny_callSpecial?_slot (name := Str.ofString "__next__") hT PySem.F.slot_zip_next (wpAny_call_entry PySem.F.slot_zip_next hT PySem.F.entry_zip_next ?_ (PySem.F.args_zip_next_1 _))))
  obtain ⟨oz, ez, cz, dz⟩ := id hz
  obtain ⟨oI, eI, cI, nI, dI⟩ := id hTI
  show wpAny _ _ (field (.ref z) 2 >>= _) _ _ _
  refine wpAny_bind (wpAny_field ez dz (x := .bool false) rfl ?_)
  show wpAny _ _ (field (.ref z) 3 >>= _) _ _ _
  refine wpAny_bind (wpAny_field ez dz (x := .ref TI) rfl ?_)
  refine wpAny_bind (wpAny_seqItems eI dI ?_)
  show wpAny _ _ (Builtin.SmallTypes.ownedTupleIsFree (.ref z) >>= _) _ _ _
  refine wpAny_bind ?_
  unfold Builtin.SmallTypes.ownedTupleIsFree
  refine wpAny_bind (wpAny_field ez dz (x := .none) rfl (wpAny_pure ?_))
  simp only [if_true]
  refine wpAny_bind (wpAny_rule ?_)
  refine wpAny_bind (wpAny_field ez dz (x := .ref TO) rfl ?_)
  refine wpAny_bind (setF hz (by simp) fun h₁ hz₁ hs₁ => ?_)
  refine wpAny_bind ?_
  simp only [List.zipIdx_cons, List.zipIdx_nil, List.forIn_cons, List.forIn_nil]
  refine wpAny_bind (wpAny_bind (wpAny_onRaise ?_))
  show wpAny _ _ (Builtin.SmallTypes.nextOf (.ref i1) >>= _) _ _ _
  refine wpAny_bind (next_end hh hc (hi1.but hs₁ a3.symm) (h1.but hs₁ m1.2.2) hx fun h₂ e hs₂ sz2 he hle => ?_)
  obtain ⟨oe, hoe, hce⟩ := he
  have hz₂ : HasF h₂ z "zip" _ := let ⟨o, e, r⟩ := hz₁; ⟨o, hs₂ _ _ a3 e, r⟩
  have hez : e ≠ z := Nat.ne_of_gt (Nat.lt_of_lt_of_le hz.lt (Nat.le_trans (Nat.le_of_eq hs₁.1.symm) hle))
  refine setF hz₂ (by simp) fun h₃ _ hs₃ => ?_
  refine wpAny_bind (wpAny_isInstance (T := "StopIteration") (b := true) ⟨oe, (hs₃.2 e hez).trans hoe, hce⟩ isSubtype_stop ?_)
  refine wpAny_pure (hQ h₃ (fun b o nb q => ?_) ?_)
  · simp only [List.mem_cons, List.not_mem_nil, or_false, not_or] at nb
    exact (hs₃.2 b nb.1).trans (hs₂ b o nb.2.2.2.1 ((hs₁.2 b nb.1).trans q))
  · rw [hs₃.1]; exact Nat.le_trans (Nat.le_of_eq hs₁.1.symm) sz2

theorem zip_go {c : Ctor} {lo : Nat} {elts : List PySem.Expr} {x1 : _} {pos : Pos} {z TI TO i1 i2 l1 l2 T : Addr} {k : Nat} {Q : Unit → Shared → Prop} (Z : ZipS c s.heap lo z TI TO i1 i2 l1 l2 k (rawInt T))
    (hQ : ∀ h', ZipS c h' lo z TI TO i1 i2 l1 l2 k .none → Heap.SameBut z s.heap h' → Q () { s with heap := h' }) :
    wpAny (model prog w) A (letOwnedTupleGo (.Tuple elts x1 pos) (.ref z) (.ref T)) Q E s := by
  obtain ⟨a1, a2, a3, a4, b1, b2, b3, c1, c2, d1⟩ := nodup5 Z.ap
  obtain ⟨oz, ez, cz, dz⟩ := id Z.fz
  unfold letOwnedTupleGo
  refine wpAny_bind (wpAny_load ez ?_)
  rw [cz, dz]
  show wpAny _ _ (if (["enumerate", "zip", "dict_itemiterator", "dict_reverseitemiterator", "odict_iterator", "itertools.zip_longest", "itertools.pairwise"].contains "zip" &&
      (#[rawInt T, .bool false, .bool false, .ref TI, .ref TO] : Array Value)[0]? == some (rawInt T)) = true then _ else _) Q E s
  rw [if_pos (by simp)]
  refine wpAny_bind (wpAny_rule ?_)
  show wpAny _ _ (setField (.ref z) 0 .none) Q E s
  refine setF Z.fz (by simp) fun h' hz' hs' => hQ h' ⟨hz', Z.fTI.but hs' a1.symm, let ⟨a, b, x⟩ := Z.fTO; ⟨a, b, x.but hs' a2.symm⟩, Z.f1.but hs' a3.symm, Z.f2.but hs' a4.symm, Z.ap, Z.low⟩ hs'

theorem zip_iter {c : Ctor} {lo : Nat} {z TI TO i1 i2 l1 l2 : Addr} {k : Nat} {f0 : Value} {Q : Value → Shared → Prop} (Z : ZipS c s.heap lo z TI TO i1 i2 l1 l2 k f0) (h : Q (.ref z) s) : wpAny (model prog w) A (pyIter (.ref z)) Q E s := by
  have hT := Z.fz.ty
  refine wpAny_pyIter_slot hT PySem.F.slot_zip_iter (wpAny_call_entry PySem.F.slot_zip_iter hT PySem.F.entry_zip_iter ?_ (PySem.F.args_zip_iter_1 _))
  show wpAny _ _ (ret (.ref z)) _ _ s
  exact wpAny_pure ⟨_, rfl, "zip", _, hT, PySem.F.slot_zip_next.lookup, h⟩

abbrev zpH1 (c : Ctor) (h : Heap) (l1 : Addr) : Heap := h.push { cls := .type (itTy c), data := .fields #[.ref l1, .int 0 0] }
abbrev zpH2 (c : Ctor) (h : Heap) (l1 l2 : Addr) : Heap := (zpH1 c h l1).push { cls := .type (itTy c), data := .fields #[.ref l2, .int 0 0] }
abbrev zpH3 (c : Ctor) (h : Heap) (l1 l2 : Addr) : Heap := (zpH2 c h l1 l2).push { cls := .type "tuple", data := .seq #[.ref h.objs.size, .ref (zpH1 c h l1).objs.size] }
abbrev zpH4 (c : Ctor) (h : Heap) (l1 l2 : Addr) : Heap := (zpH3 c h l1 l2).push { cls := .type "tuple", data := .seq #[.none, .none] }
abbrev zpH5 (c : Ctor) (h : Heap) (l1 l2 : Addr) : Heap := (zpH4 c h l1 l2).push { cls := .type "zip", data := .fields #[.none, .bool false, .bool false, .ref (zpH2 c h l1 l2).objs.size, .ref (zpH3 c h l1 l2).objs.size] }
theorem iter_seq {c : Ctor} {l : Addr} {xs : Array Value} {Q : Value → Shared → Prop} (hc : c = .tup ∨ c = .lst) (H : SqAt c s.heap l xs)
    (hQ : Q (.ref s.heap.objs.size) { s with heap := s.heap.push { cls := .type (itTy c), data := .fields #[.ref l, .int 0 0] } }) : wpAny (model prog w) A (pyIter (.ref l)) Q E s := by
  rcases hc with rfl | rfl
  · exact iter_tuple H hQ
  · exact wpAny_pyIter_list H hQ
theorem meets_zip_two (c : Ctor) (hc : c = .tup ∨ c = .lst) (l1 l2 : Addr) (xs ys : Array Value) :
    Meets (Builtin.«zip.__new__» ⟨[.type "zip", .ref l1, .ref l2], []⟩) (fun _ R s => SqAt c s.heap l1 xs ∧ SqAt c s.heap l2 ys ∧
      R (.ok (.ret (.ref (zpH4 c s.heap l1 l2).objs.size))) { s with heap := zpH5 c s.heap l1 l2 }) :=
  .of_wp fun prog w A R s h => by
    obtain ⟨hp, g, d, tk, os⟩ := s; obtain ⟨hl1, hl2, h⟩ := h
    have hsub := sub_zip
    have hL1 : SqAt c (Shared.heap ⟨hp, g, d, tk, os⟩) l1 xs := hl1
    have hL2 : SqAt c (Shared.heap ⟨hp.push { cls := .type (itTy c), data := .fields #[.ref l1, .int 0 0] }, g, d, tk, os⟩) l2 ys := HasS.push hl2 _
    wp_walk using iter_seq hc hL1, iter_seq hc hL2
    exact ⟨_, rfl, h⟩
theorem zip_call {c : Ctor} {l1 l2 : Addr} {xs ys : Array Value} {Q : Value → Shared → Prop} (hc : c = .tup ∨ c = .lst) (hl1 : SqAt c s.heap l1 xs) (hl2 : SqAt c s.heap l2 ys)
    (h : ∀ h' z TI TO i1 i2, ZipS c h' s.heap.objs.size z TI TO i1 i2 l1 l2 0 .none → s.heap.objs.size ≤ h'.objs.size → (∀ c o, s.heap.get? c = some o → h'.get? c = some o) → Q (.ref z) { s with heap := h' }) :
    wpAny (model prog w) A (call (.type "zip") [.ref l1, .ref l2]) Q E s := by
  refine callType_new PySem.F.called_zip (by decide) (PySem.F.typeCall_zip_2 _ _) (PySem.F.newCall_zip_2 _ _) (fun obj => PySem.F.args_object_init_3 obj _ _) PySem.F.entry_zip_new
    (meets_zip_two c hc l1 l2 xs ys) ⟨hl1, hl2, ?_⟩
  have z1 : (zpH1 c s.heap l1).objs.size = s.heap.objs.size + 1 := Heap.size_push ..
  have z2 : (zpH2 c s.heap l1 l2).objs.size = s.heap.objs.size + 2 := by rw [Heap.size_push, z1]
  have z3 : (zpH3 c s.heap l1 l2).objs.size = s.heap.objs.size + 3 := by rw [Heap.size_push, z2]
  have z4 : (zpH4 c s.heap l1 l2).objs.size = s.heap.objs.size + 4 := by rw [Heap.size_push, z3]
  have z5 : (zpH5 c s.heap l1 l2).objs.size = s.heap.objs.size + 5 := by rw [Heap.size_push, z4]
  have g5 : (zpH5 c s.heap l1 l2).get? (zpH4 c s.heap l1 l2).objs.size = some _ := Heap.get?_push_size _ rfl
  have g4 : (zpH5 c s.heap l1 l2).get? (zpH3 c s.heap l1 l2).objs.size = some _ := Heap.get?_push_of_some _ (Heap.get?_push_size _ rfl)
  have g3 : (zpH5 c s.heap l1 l2).get? (zpH2 c s.heap l1 l2).objs.size = some _ := Heap.get?_push_of_some _ (Heap.get?_push_of_some _ (Heap.get?_push_size _ rfl))
  have g2 : (zpH5 c s.heap l1 l2).get? (zpH1 c s.heap l1).objs.size = some _ := Heap.get?_push_of_some _ (Heap.get?_push_of_some _ (Heap.get?_push_of_some _ (Heap.get?_push_size _ rfl)))
  have g1 : (zpH5 c s.heap l1 l2).get? s.heap.objs.size = some _ := Heap.get?_push_of_some _ (Heap.get?_push_of_some _ (Heap.get?_push_of_some _ (Heap.get?_push_of_some _ (Heap.get?_push_size _ rfl))))
  refine ⟨⟨_, g5, rfl⟩, h _ _ _ _ _ _ ⟨⟨_, g5, rfl, rfl⟩, ⟨_, g3, rfl, _, rfl⟩, ⟨_, _, _, g4, rfl, _, rfl⟩, ⟨_, g1, rfl, rfl⟩, ⟨_, g2, rfl, rfl⟩, ?_, ?_⟩ ?_ fun c o x =>
    Heap.get?_push_of_some _ (Heap.get?_push_of_some _ (Heap.get?_push_of_some _ (Heap.get?_push_of_some _ (Heap.get?_push_of_some _ x))))⟩
  · rw [z1, z2, z3, z4]; simp
  · rw [z1, z2, z3, z4]; simp
  · rw [z5]; exact Nat.le_add_right _ _
end

end Mine
end
section
open PySem PySem.W PyProof.Rows PySem.Calls
open PySem.W.X (SegX wake_any)
set_option Elab.async false
set_option maxRecDepth 100000
set_option maxHeartbeats 8000000
namespace Mine
set_option pp.maxSteps 600
theorem fill17 : (fun (_ : OpenLaw) (_ : Params → Frag) => True) PySem.Challenge.rw_fe0181_02 hd2.heap_39 := by
  k_fill; trivial
local macro_rules | `(tactic| walk_at "eval Name") => `(tactic| first
  | (refine nm_loc (by assumption) (by first | assumption | exact rfl) ?_)
  | (refine nm_glob (by assumption) (by k_is) ?_)
  | (refine nm_built (by assumption) (by k_is) (by boot_by_name) ?_))
local macro_rules | `(tactic| walk_at "callWith ref") => `(tactic| first
  | (refine callWith_K0 (Gd.K (Fx.gd (by assumption))) (by k_is) ?_)
  | (refine callWith_K (Gd.K (Fx.gd (by assumption))) (by k_is) ?_))
local macro_rules | `(tactic| walk_at "And") => `(tactic| ((with_reducible show Frag.In _ _ ∧ _); refine ⟨Gd.K (Fx.gd (by assumption)), ?_⟩; try dsimp only [List.nil_append, List.cons_append]))
local macro_rules | `(tactic| walk_at "room") => `(tactic| (simp only [Around.deeper, Around.in1, Around.mark]; omega))
local macro_rules | `(tactic| walk_at "go") => `(tactic| repeat' (first | (k_unfold; (try dsimp only)) | walk1 | (dsimp only; walk1)))
section
variable {prog : Program} {w : World} {A : Around} {E : Value → Shared → Prop} {s : Shared} {env : Env} {h₀ : Heap} {g : PM} {m : Str → Option Value}
local macro_rules | `(tactic| walk_at "eval Name") => `(tactic| first
  | (refine nm_loc (by assumption) (by first | assumption | exact rfl) ?_)
  | (refine nm_loc (Gn.F (by assumption)) (by first | assumption | exact rfl) ?_)
  | (refine nm_glob (Gn.F (by assumption)) (by k_is) ?_)
  | (refine nm_built (Gn.F (by assumption)) (by k_is) (by boot_by_name) ?_)
  | (refine nm_glob (by assumption) (by k_is) ?_)
  | (refine nm_built (by assumption) (by k_is) (by boot_by_name) ?_))
local macro_rules | `(tactic| walk_at "callWith ref") => `(tactic| first
  | (refine callWith_K0 (Gd.K (Fx.gd (by assumption))) (by k_is) ?_)
  | (refine callWith_K (Gd.K (Fx.gd (by assumption))) (by k_is) ?_)
  | (refine callWith_K0 (Gd.K (Gn.gd (by assumption))) (by k_is) ?_)
  | (refine callWith_K (Gd.K (Gn.gd (by assumption))) (by k_is) ?_))
local macro_rules | `(tactic| walk_at "And") => `(tactic| first
  | ((with_reducible show Frag.In _ _ ∧ _); refine ⟨Gd.K (Fx.gd (by assumption)), ?_⟩; try dsimp only [List.nil_append, List.cons_append])
  | ((with_reducible show Frag.In _ _ ∧ _); refine ⟨Gd.K (Gn.gd (by assumption)), ?_⟩; try dsimp only [List.nil_append, List.cons_append]))
local macro_rules | `(tactic| walk_at "room") => `(tactic| (simp only [over_u, over_d, overL_u, overL_d, overB_u, overB_d, Around.deeper, Around.in1, Around.mark]; omega))
theorem NodeAt.sq {c : Ctor} {a : Addr} {us : List Value} {h : Heap} (hc : c = .tup ∨ c = .lst) (N : NodeAt g a c us) (on : g.on h) : SqAt c h a us.toArray := by
  rcases hc with rfl | rfl
  · exact let ⟨n, e⟩ := N; ⟨_, on _ _ e, rfl, n, rfl⟩
  · exact let ⟨n, e⟩ := N; ⟨_, on _ _ e, rfl, n, rfl⟩
theorem len_sq {c : Ctor} {a : Addr} {us : Array Value} {Q : Value → Shared → Prop} (hc : c = .tup ∨ c = .lst) (N : SqAt c s.heap a us) (hl : us.size ≤ 100) (h : ∀ tk, Q (.int us.size (s.toks + 1)) { s with toks := tk }) : wpAny (model prog w) A (call (.builtin "len") [.ref a]) Q E s := by
  rcases hc with rfl | rfl
  · exact len_tuple N (by omega) (h _)
  · exact Calls.call_len_list N (by omega) (h _)

theorem setGen_size {i : Nat} {gs : GenState} : (s.setGen i gs).gens.size = s.gens.size := by unfold Shared.setGen; simp
theorem is_false {r : Option Sub} {ans : Value} {Q : Value → Shared → Prop} (an : AnU r g ans) (h : Q (.bool r.isNone) s) : wpAny (model prog w) A (compareOp .Is ans (.bool false)) Q E s := by
  show wpAny _ _ (isSame ans (Value.bool false) >>= fun k => pure (Value.bool k)) _ _ _
  cases r with
  | none =>
    obtain rfl : ans = .bool false := an
    exact wpAny_bind (wpAny_pure (wpAny_pure h))
  | some σ =>
    obtain ⟨d, xs, rfl, _⟩ := an
    exact wpAny_bind (wpAny_pure (wpAny_pure h))
theorem nsSl {h h' : Heap} {L : Addr} {m : Str → Option Value} (N : h.Ns L m) (k : ∀ o, h.get? L = some o → ∃ sl, h'.get? L = some { o with slots := sl }) : h'.Ns L m :=
  let ⟨o, es, ep, e, r⟩ := N; let ⟨_, e'⟩ := k o e; ⟨_, es, ep, e', r⟩
theorem loop_ind {lc : Code} {tt : Sem Fin} {fs : List Frame} (Inv : Nat → Shared → (End → Shared → Prop) → Prop)
    (step : ∀ n s P, (∀ k s' P', k < n → Inv k s' P' → SegX (model prog w) A lc tt fs s' P') → Inv n s P → SegX (model prog w) A lc tt fs s P) : ∀ n s P, Inv n s P → SegX (model prog w) A lc tt fs s P := fun n => by
  induction n using Nat.strongRecOn with
  | ind n ih => exact fun s P h => step n s P (fun k s' P' hk h' => ih k hk s' P' h') h
theorem asg_pair {elts : List PySem.Expr} {x1 : _} {pos : Pos} {T : Addr} {x y : Value} {Q : Unit → Shared → Prop} (hh : A.handled = none) (ht : HasS s.heap T "tuple" #[x, y])
    (hn : (assignEach elts env).length = 2) (hstar : (assignEach elts env).findIdx? (·.1) = none)
    (h : ∀ h', (∀ b o, s.heap.get? b = some o → h'.get? b = some o) → wpAny (model prog w) A (assignInOrder ((assignEach elts env).map (·.2)) [x, y]) Q E { s with heap := h' }) :
    wpAny (model prog w) A (assign (.Tuple elts x1 pos) env (.ref T)) Q E s :=
  wpAny_assign_Tuple hh ht hn hstar fun h' he => h h' fun b o q => he b o (Nat.ne_of_lt (Heap.lt_size q)) q

theorem iter_call {c : Ctor} (hc : c = .tup ∨ c = .lst) {u v : Tm} {σ : Sub} {r : Option Sub} {n : Nat} {a b : Addr} {us ws : List Value} {vs : Value} {R : Result → Shared → Prop} (IH : UnifyOK prog w n) (hroom : A.depth < recursionLimit) (G : Gd w s.heap) (on : g.on s.heap)
    (Nu : NodeAt g a c us) (Nv : NodeAt g b c ws) (Ru : RepL g u us) (Rv : RepL g v ws) (hl1 : u.len ≤ 100) (hl2 : v.len ≤ 100) (S : SubAt g vs σ) (hr : (u.len = v.len ∧ uniL (uni n) σ u v = some r) ∨ (u.len ≠ v.len ∧ r = none))
    (h : ∀ s' g' ga, Grow s s' → Ext s.heap.objs.size g g' → g'.on s'.heap → Made prog w (AnU r) (n + 3) s.heap.objs.size s.gens.size ga g' s' → R (.ok (.ret (.ref ga))) s') :
    codeAny (model prog w) A (.call (.ref 262) ⟨[.ref a, .ref b, vs], []⟩) R s := by
  refine enterGM (binds := [("u", .ref a), ("v", .ref b), ("s", vs)]) G on (by k_is) (by k_is) rfl hroom (BindsTo.of_eq rfl) (by decide) (locs rfl) (by omega) h (fun D items z zo g₂ s₂ s₁ L hlen gle Z kD nD oD hL hS gS kg blt nsL Dr fin Gn1 _ => ?_)
  have room := D.room
  have units := D.units
  have Nu2 := Nu.le gle
  have Nv2 := Nv.le gle
  have su : us.length ≤ 100 := by rw [Ru.len]; exact hl1
  have sv : ws.length ≤ 100 := by rw [Rv.len]; exact hl2
  refine sx_stmt ?_
  repeat walk1
  refine len_sq hc (Nu2.sq hc Gn1.on) (by simpa using su) fun tk1 => ?_
  refine st_loc Gn1.F (fun h2 F2 sb2 => ?_)
  have Gn2 := Gn1.set (tk := tk1 + 1) F2.ns sb2
  clear F2
  refine sx_stmt ?_
  repeat walk1
  refine len_sq hc (Nv2.sq hc Gn2.on) (by simpa using sv) fun tk2 => ?_
  refine st_loc Gn2.F (fun h3 F3 sb3 => ?_)
  have Gn3 := Gn2.set (tk := tk2 + 1) F3.ns sb3
  clear F3 Gn2
  refine sx_cons (sx_if ?_)
  repeat walk1
  have size1 : s₁.gens.size = (s₁.setGen s.gens.size .running).gens.size := by unfold Shared.setGen; simp
  rcases hr with ⟨el, hr⟩ | ⟨nl, rfl⟩
  · have e0 : us.length = ws.length := by rw [Ru.len, Rv.len, el]
    rw [if_neg (by simp [e0])]
    refine sx_nil ?_
    dsimp only
    refine sx_cons (sx_for rfl ?_)
    repeat walk1
    refine zip_call hc (Nu2.sq hc Gn3.on) (Nv2.sq hc Gn3.on) (fun h4 zz TI TO i1 i2 ZS sz4 k4 => ?_)
    have Gn4 := Gn3.ext (h' := h4) (tk := tk2 + 1) k4 sz4
    refine zip_iter ZS ?_
    intro p kk hkk
    have inv0 : True := trivial
    refine loop_ind (Inv := fun mm s' P' => ∃ (u' v' : Tm) (σ' : Sub) (kx : Nat) (s₁' : Shared) (g₀ g' : PM) (m' : Str → Option Value) (za' zo' vs' : Value) (Y : Addr → Prop),
      mm = u'.len ∧ Gn w D.base (s₁'.setGen s.gens.size .running) s.gens.size Y g₀ g' L s' m' ∧ m' "s" = some vs' ∧ SubAt g' vs' σ' ∧ RepL g' u' (us.drop kx) ∧ RepL g' v' (ws.drop kx) ∧ uniL (uni n) σ' u' v' = some r ∧
      ZipS c s'.heap h3.objs.size zz TI TO i1 i2 a b kx .none ∧ NodeAt g' a c us ∧ NodeAt g' b c ws ∧ GenZ g₀ z s.gens.size ∧ g₂.le g₀ ∧ s.gens.size < s₁'.gens.size ∧ s.heap.objs.size ≤ s₁'.heap.objs.size ∧ (∀ b, D.own b → b < s₁'.heap.objs.size) ∧
      (∀ b, Y b → b = L ∨ b ∈ [zz, TI, TO, i1, i2]) ∧ (∀ b ∈ [zz, TI, TO, i1, i2], b ≠ L ∧ g' b = none ∧ (Y b ∨ s₁'.heap.objs.size ≤ b)) ∧
      (∀ g₃ s₃ ans, AnU r g₃ ans → NotGen w g₃ ans → Kp s.heap.objs.size s.gens.size D.own s₁' s₃ → Ext s.heap.objs.size g₀ g₃ → g₃.on s₃.heap → D.LG items ans ans g₃ s₃) ∧
      P' = TurnP w D.own D.LG items z za' zo' Y s.gens.size g₀ (s₁'.setGen s.gens.size .running)) ?_ u.len _ _
      ⟨u, v, σ, 0, s₁, g₂, g₂, _, .none, zo, vs, (· = L), rfl, Gn4, rfl, S.le gle, Ru.le gle, Rv.le gle, hr, ZS, Nu2, Nv2, Z, .refl, gS, hS, fun b q => blt b (.inr q), fun b e => .inl e, ?_, fin, rfl⟩
    · rintro mm s5 P5 ih ⟨u', v', σ', kx, s₁', g₀, g', m', za', zo', vs', Y, rfl, Gn5, ms, S5, Ru5, Rv5, hr5, Z5, Nu5, Nv5, GZ5, gl5, gS5, hS5, ow5, hY, pv, fin5, rfl⟩
      have nodup := nodup5 Z5.ap
      have zlt : ∀ b ∈ [zz, TI, TO, i1, i2], b < s5.heap.objs.size := fun b hb => by
        simp only [List.mem_cons, List.not_mem_nil, or_false] at hb
        rcases hb with rfl | rfl | rfl | rfl | rfl
        · exact Z5.fz.lt
        · exact Z5.fTI.lt
        · obtain ⟨_, _, x⟩ := Z5.fTO; exact x.lt
        · exact Z5.f1.lt
        · exact Z5.f2.lt
      have aNot : a ∉ [zz, TI, TO, i1, i2] := fun q => by
        have := (pv a q).2.1
        rcases hc with rfl | rfl <;> (obtain ⟨_, e⟩ := Nu5; rw [e] at this; cases this)
      have bNot : b ∉ [zz, TI, TO, i1, i2] := fun q => by
        have := (pv b q).2.1
        rcases hc with rfl | rfl <;> (obtain ⟨_, e⟩ := Nv5; rw [e] at this; cases this)
      have bnone : ∀ b ∈ [zz, TI, TO, i1, i2], D.base.get? b = none := fun b hb => by
        cases q : D.base.get? b with
        | none => rfl
        | some o => exact absurd (Nat.lt_of_lt_of_le (Heap.lt_size q) (Nat.le_trans D.bn (Nat.le_trans nD (Nat.le_of_lt (Nat.lt_of_lt_of_le Gn3.F.ns.lt (Z5.low b hb)))))) (Nat.lt_irrefl _)
      have size5 : s₁'.gens.size = (s₁'.setGen s.gens.size .running).gens.size := by unfold Shared.setGen; simp
      have yY : ∀ b, Y b → b < s5.heap.objs.size ∧ D.n₀ ≤ b ∧ ¬ D.own b ∧ s.heap.objs.size ≤ b := fun b y => by
        rcases hY b y with rfl | hb
        · exact ⟨Gn5.F.ns.lt, nD, oD, nsL⟩
        · have l1 := Z5.low b hb
          refine ⟨zlt b hb, Nat.le_trans nD (Nat.le_of_lt (Nat.lt_of_lt_of_le Gn3.F.ns.lt l1)), fun q => ?_, Nat.le_trans nsL (Nat.le_of_lt (Nat.lt_of_lt_of_le Gn3.F.ns.lt l1))⟩
          exact absurd (Nat.lt_of_lt_of_le (blt b (.inr q)) Gn3.T.size) (Nat.not_lt.mpr l1)
      have prv : ∀ {h' : Heap} (tk : Nat), (∀ b o, b ∉ [zz, TI, TO, i1, i2] → s5.heap.get? b = some o → h'.get? b = some o) → s5.heap.objs.size ≤ h'.objs.size → Gn w D.base (s₁'.setGen s.gens.size .running) s.gens.size Y g₀ g' L { s5 with heap := h', toks := tk } m' := fun tk kq sz =>
        Gn5.priv (fun b o nb hb q => kq b o (fun hm => by
          rcases (pv b hm).2.2 with y | y
          · exact nb ⟨y, (pv b hm).1⟩
          · rcases hb with hb | hb | hb | hb
            · exact absurd hb (Nat.not_lt.mpr y)
            · exact (pv b hm).1 hb
            · rw [(pv b hm).2.1] at hb; cases hb
            · rw [bnone b hm] at hb; cases hb) q) sz (fun b y nL => (hY b y).elim (fun e => absurd e nL) fun hm => bnone b hm)
      refine sx_forLoop ?_
      cases u' with
      | int _ => simp [RepL] at Ru5
      | var _ => simp [RepL] at Ru5
      | nil cu =>
        have hxk : us.toArray[kx]? = none := by
          simp only [RepL] at Ru5
          have : us.length ≤ kx := List.drop_eq_nil_iff.mp Ru5
          simp [this]
        refine zip_end (ys := #[]) ?_ hc Z5 (Nu5.sq hc Gn5.on) aNot hxk (fun h6 k6 sz6 => ?_)
        · exact D.handled
        have Gn6 := prv (h' := h6) s5.toks k6 sz6
        obtain rfl : r = some σ' := by
          cases v' <;> simp [uniL] at hr5
          exact hr5.symm
        refine sx_cons (sx_Expr_Yield (own_split rfl) rfl (own_guard rfl) (nm_loc Gn6.F ms ?_))
        intro p2 kk2 hkk2
        refine yield_last (d' := 1) (n' := s5.heap.objs.size) (k' := s₁'.gens.size) Gn6 (by omega) (Nat.le_refl _) (own_guard rfl) (.inl ⟨SubAt.notGen S5, S5⟩) gS5 yY kD (fun b q => Nat.lt_of_lt_of_le (ow5 b q) Gn5.T.size) sz6 (by rw [size5]; exact Gn6.T.gsize) (Nat.le_refl _) GZ5 hS5 (fun x s'' P' q => hkk2 x s'' P' ?_) fin5
        refine sx_done hkk ?_
        exact X.s_end prog w D.A _ P' s'' (.ok (.ret .none)) _ rfl q
      | cons tx u'' =>
        cases v' with
        | int _ => simp [RepL] at Rv5
        | var _ => simp [RepL] at Rv5
        | nil cu => simp [uniL] at hr5
        | cons ty v'' =>
          obtain ⟨x, xs, ex, Rx, Rxs⟩ : ∃ x xs, us.drop kx = x :: xs ∧ Rep g' tx x ∧ RepL g' u'' xs := by simpa only [RepL] using Ru5
          obtain ⟨y, ys, ey, Ry, Rys⟩ : ∃ y ys, ws.drop kx = y :: ys ∧ Rep g' ty y ∧ RepL g' v'' ys := by simpa only [RepL] using Rv5
          have hx : us.toArray[kx]? = some x := by
            have : us[kx]? = (us.drop kx)[0]? := by simp
            rw [ex] at this; simpa using this
          have hy : ws.toArray[kx]? = some y := by
            have : ws[kx]? = (ws.drop kx)[0]? := by simp
            rw [ey] at this; simpa using this
          have dx : us.drop (kx + 1) = xs := by
            have := congrArg List.tail ex
            simpa using this
          have dy : ws.drop (kx + 1) = ys := by
            have := congrArg List.tail ey
            simpa using this
          refine zip_item hc Z5 (Nu5.sq hc Gn5.on) (Nv5.sq hc Gn5.on) aNot bNot hx hy (fun h6 T Z6 HT lT k6 sz6 => ?_)
          have Gn6 := prv (h' := h6) s5.toks k6 sz6
          refine zip_go Z6 (fun h7 Z7 sb7 => ?_)
          have k7 : ∀ b o, b ∉ [zz, TI, TO, i1, i2] → s5.heap.get? b = some o → h7.get? b = some o := fun b o nb q => (sb7.2 b (fun e => nb (by simp [e]))).trans (k6 b o nb q)
          have Gn7 := prv (h' := h7) s5.toks k7 (Nat.le_trans sz6 (Nat.le_of_eq sb7.1.symm))
          have HT7 := HT.but sb7 (Nat.ne_of_gt (Nat.lt_of_lt_of_le (zlt zz (by simp)) lT))
          clear Gn6
          refine asg_pair ?_ HT7 rfl rfl (fun h8 k8 => ?_)
          · exact D.handled
          have sz8 : s5.heap.objs.size ≤ h8.objs.size := Nat.le_of_lt (Nat.lt_of_le_of_lt lT (let ⟨_, e, _⟩ := HT7; Heap.lt_size (k8 _ _ e)))
          have Gn8 := prv (h' := h8) s5.toks (fun b o nb q => k8 b o (k7 b o nb q)) sz8
          have Z8 : ZipS c h8 _ zz TI TO i1 i2 a b (kx + 1) .none := Z7.at fun b _ o q => ⟨o.slots, k8 b o q⟩
          clear Gn7
          repeat walk1
          refine st_loc Gn8.F (fun h9 F9 sb9 => ?_)
          have Gn9 := Gn8.set (tk := s5.toks + 1) F9.ns sb9
          clear F9
          repeat walk1
          refine st_loc Gn9.F (fun h10 F10 sb10 => ?_)
          have Gn10 := Gn9.set (tk := s5.toks + 1 + 1) F10.ns sb10
          clear F10 Gn9 Gn8
          have Z10 : ZipS c h10 _ zz TI TO i1 i2 a b (kx + 1) .none := Z8.at fun b hb o q => ⟨o.slots, (sb10.2 b (pv b hb).1).trans ((sb9.2 b (pv b hb).1).trans q)⟩
          have sz10 : s5.heap.objs.size ≤ h10.objs.size := Nat.le_trans sz8 (Nat.le_of_eq (sb9.1.symm.trans sb10.1.symm))
          repeat walk1
          refine sx_cons (sx_Assign_Yield (own_split rfl) rfl (own_guard rfl) ?_)
          repeat walk1
          obtain ⟨rr, hrr⟩ : ∃ rr, uni n σ' tx ty = some rr := by
            simp only [uniL] at hr5
            cases e : uni n σ' tx ty with
            | none => rw [e] at hr5; cases hr5
            | some rr => exact ⟨rr, rfl⟩
          simp only [uniL, hrr] at hr5
          refine wpAny_call (IH ?_ ?_ hrr Rx Ry S5 Gn10.gd Gn10.on fun s11 g11 rv Gr11 X11 on11 W11 => ?_)
          · walk_at "room"
          · walk_at "room"
          have Gn11 := Gn10.after Gr11 X11 on11
          have gk10 : s₁'.gens.size ≤ s5.gens.size := by rw [size5]; exact Gn5.T.gsize
          have gk11 : s5.gens.size ≤ s11.gens.size := gens_size Gr11.gens
          have lL10 : L < h10.objs.size := Gn10.F.ns.lt
          intro p2 kk2 hkk2
          refine yield_will Gn11.T (by omega) (own_guard rfl) W11 (show s.gens.size < s5.gens.size by omega) kD (Nat.le_trans nD (Nat.le_of_lt lL10)) (fun b q => Nat.lt_of_lt_of_le (ow5 b q) (Nat.le_trans Gn5.T.size sz10)) (by omega) Gr11.size gk11 (fun g₃ s₃ ans an ng hg K X on3 => ?_)
          have zlt10 : ∀ b ∈ [zz, TI, TO, i1, i2], b < h10.objs.size := fun b hb => Nat.lt_of_lt_of_le (zlt b hb) sz10
          have off3 : ∀ b, (b = L ∨ b ∈ [zz, TI, TO, i1, i2]) → g₃ b = none := fun b hb => by
            rcases hb with rfl | hb
            · exact X.off lL10 Gn11.F.off
            · exact X.off (zlt10 b hb) (X11.off (zlt10 b hb) (pv b hb).2.1)
          have zown : ∀ b ∈ [zz, TI, TO, i1, i2], D.n₀ ≤ b ∧ ¬ D.own b := fun b hb => by
            have l1 := Z5.low b hb
            exact ⟨Nat.le_trans nD (Nat.le_of_lt (Nat.lt_of_lt_of_le Gn3.F.ns.lt l1)), fun q => absurd (Nat.lt_of_lt_of_le (blt b (.inr q)) Gn3.T.size) (Nat.not_lt.mpr l1)⟩
          refine D.turn items z s.gens.size ans ans g₃ s₃ _ _ _ _ (fun b => b = L ∨ b ∈ [zz, TI, TO, i1, i2]) (by omega) (GZ5.le (Gn11.T.ext.le.trans X.le)) hg (.inr ⟨_, _, _, false, rfl, rfl⟩) kD (fun b hb => by
            rcases hb with rfl | hb
            · exact ⟨nD, oD, off3 _ (.inl rfl)⟩
            · exact ⟨(zown b hb).1, (zown b hb).2, off3 b (.inr hb)⟩) (fun s₁'' Dr2 on1 st1 kg2 blt2 => ?_)
          have hop : ∀ b o, b < h10.objs.size → ¬ D.own b → s11.heap.get? b = some o → ∃ sl, s₁''.heap.get? b = some { o with slots := sl } := fun b o q1 q2 q3 => by
            obtain ⟨sl, e⟩ := K.sl b o q1 q2 q3
            obtain ⟨sl', e⟩ := Dr2.sl b _ q2 e
            exact ⟨sl', e⟩
          have ns12 := nsSl Gn11.F.ns (fun o e => hop L o lL10 oD e)
          have Z12 : ZipS c s₁''.heap _ zz TI TO i1 i2 a b (kx + 1) .none := Z10.at fun b hb o q => hop b o (zlt10 b hb) (zown b hb).2 (Gr11.keep b o q)
          have sz12 : h10.objs.size ≤ s₁''.heap.objs.size := Nat.le_trans Gr11.size (Nat.le_trans K.size Dr2.size)
          have gk12 : s11.gens.size ≤ s₁''.gens.size := by
            have := K.gsize
            rw [setGen_size] at this
            rw [Dr2.gens]; omega
          have Gn12 := Gn.start (Y := fun b => b = L ∨ b ∈ [zz, TI, TO, i1, i2]) (i := s.gens.size) ns12 on1 (.inl rfl) off3 st1 D.gd (Nat.le_trans D.bn nD) (fun b hb => by
            rcases hb with rfl | hb
            · exact ns12.lt
            · exact Nat.lt_of_lt_of_le (zlt10 b hb) sz12)
          refine hkk2 ans _ _ ?_
          refine st_loc Gn12.F (fun h13 F13 sb13 => ?_)
          have Gn13 := Gn12.set (tk := s₁''.toks + 1) F13.ns sb13
          clear F13
          refine sx_cons (sx_if ?_)
          repeat walk1
          refine is_false an ?_
          refine wpAny_truthy_bool ?_
          have X3 : Ext s.heap.objs.size g₀ g₃ := ((Gn11.T.ext.mono hS5).trans X (Nat.le_trans nsL (Nat.le_of_lt lL10)))
          have K3 : Kp s.heap.objs.size s.gens.size D.own s₁' s₁'' :=
            (setGen_kp (Nat.le_refl _) rfl).trans ((Gn11.T.kp (fun b y => (yY b y).2.2.2) (Nat.le_refl _)).trans ((setGen_kp (Nat.le_refl _) rfl).trans ((K.mono (Nat.le_trans nsL (Nat.le_of_lt lL10)) (by show s.gens.size ≤ s5.gens.size; omega)).trans Dr2.kp)))
          cases rr with
          | none =>
            obtain rfl : none = r := by simpa using hr5
            rw [Option.isNone_none, if_pos rfl]
            refine sx_stmt ?_
            repeat walk1
            refine sx_done hkk ?_
            refine PySem.W.X.s_end prog w D.A _ _ _ (.ok (.ret .none)) _ rfl (turn_end Gn13.T fun s₄ Dr4 on4 => ?_)
            refine fin5 g₃ s₄ ans an ng (K3.trans ((setGen_kp (Nat.le_refl _) rfl).trans ((Gn13.T.kp (fun b hb => ?_) (Nat.le_refl _)).trans ((setGen_kp (Nat.le_refl _) rfl).trans Dr4.kp)))) X3 on4
            rcases hb with rfl | hb
            · exact nsL
            · exact Nat.le_trans nsL (Nat.le_of_lt (Nat.lt_of_lt_of_le Gn3.F.ns.lt (Z5.low b hb)))
          | some σ'' =>
            rw [Option.isNone_some, if_neg Bool.false_ne_true]
            refine sx_nil ?_
            refine sx_nil ?_
            refine sx_turn_next rfl ?_
            have l3 := X11.le.trans X.le
            refine ih u''.len _ _ (by simp [Tm.len]) ⟨u'', v'', σ'', kx + 1, s₁'', g₃, g₃, _, ans, ans, ans, _, rfl, Gn13, rfl, an, by rw [dx]; exact Rxs.le l3, by rw [dy]; exact Rys.le l3, hr5, ?_, Nu5.le l3, Nv5.le l3, GZ5.le (Gn11.T.ext.le.trans X.le), gl5.trans (Gn11.T.ext.le.trans X.le), by omega, ?_, ?_, fun b hb => hb, fun b hb => ⟨(pv b hb).1, off3 b (.inr hb), .inl (.inr hb)⟩, ?_, rfl⟩
            · exact Z12.at fun b hb o q => ⟨o.slots, (sb13.2 b (pv b hb).1).trans q⟩
            · exact Nat.le_trans (Nat.le_trans nsL (Nat.le_of_lt lL10)) sz12
            · exact fun b q => Nat.lt_of_lt_of_le (ow5 b q) (Nat.le_trans Gn5.T.size (Nat.le_trans sz10 sz12))
            · intro g₄ s₄ ans' an' ng' K4 X4 on4
              exact fin5 g₄ s₄ ans' an' ng' (K3.trans K4) (X3.trans X4 (Nat.le_refl _)) on4
    · intro b hb
      have l1 := ZS.low b hb
      exact ⟨Nat.ne_of_gt (Nat.lt_of_lt_of_le Gn3.F.ns.lt l1), PM.none_of Gn3.on l1, .inr (Nat.le_trans Gn3.T.size l1)⟩
  · have e0 : ¬ us.length = ws.length := by rw [Ru.len, Rv.len]; exact nl
    rw [if_pos (by simp; omega)]
    have G3 := Gn3.T.gsize
    refine sx_cons (sx_Expr_Yield rfl rfl rfl ?_)
    walk1
    intro p kk hkk
    refine yield_last (d' := 1) (n' := h3.objs.size) (k' := s₁.gens.size) Gn3 (by omega) (Nat.le_refl _) rfl (.inl ⟨notGen_bool, rfl⟩) gS (fun b e => by rw [e]; exact ⟨Gn3.F.ns.lt, nD, oD, nsL⟩) kD (fun b q => Nat.lt_of_lt_of_le (blt b (.inr q)) Gn3.T.size) (Nat.le_refl _) (by rw [size1]; exact G3) (Nat.le_refl _) Z hS (fun x s'' P' q => hkk x s'' P' ?_) fin
    refine sx_stmt ?_
    repeat walk1
    exact sx_end q
end

end Mine
end
section
open PySem PySem.W PyProof.Rows PySem.Calls
open PySem.W.X (SegX wake_any)
set_option Elab.async false
set_option maxRecDepth 100000
set_option maxHeartbeats 8000000
namespace Mine
set_option pp.maxSteps 600
theorem fill18 : (fun (_ : OpenLaw) (_ : Params → Frag) => True) PySem.Challenge.rw_fe0181_02 hd2.heap_39 := by
  k_fill; trivial
local macro_rules | `(tactic| walk_at "no such word 0") => `(tactic| fail)
local macro_rules | `(tactic| walk_at "eval Name") => `(tactic| first
  | (refine nm_loc (by assumption) (by first | assumption | exact rfl) ?_)
  | (refine nm_glob (by assumption) (by k_is) ?_)
  | (refine nm_built (by assumption) (by k_is) (by boot_by_name) ?_))
local macro_rules | `(tactic| walk_at "callWith ref") => `(tactic| first
  | (refine callWith_K0 (Gd.K (Fx.gd (by assumption))) (by k_is) ?_)
  | (refine callWith_K (Gd.K (Fx.gd (by assumption))) (by k_is) ?_))
local macro_rules | `(tactic| walk_at "And") => `(tactic| ((with_reducible show Frag.In _ _ ∧ _); refine ⟨Gd.K (Fx.gd (by assumption)), ?_⟩; try dsimp only [List.nil_append, List.cons_append]))
local macro_rules | `(tactic| walk_at "room") => `(tactic| (simp only [Around.deeper, Around.in1, Around.mark]; omega))
local macro_rules | `(tactic| walk_at "go") => `(tactic| repeat' (first | (k_unfold; (try dsimp only)) | walk1 | (dsimp only; walk1)))
section
variable {prog : Program} {w : World} {A : Around} {E : Value → Shared → Prop} {s : Shared} {env : Env} {h₀ : Heap} {g : PM} {m : Str → Option Value}
local macro_rules | `(tactic| walk_at "eval Name") => `(tactic| first
  | (refine nm_loc (by assumption) (by first | assumption | exact rfl) ?_)
  | (refine nm_loc (Gn.F (by assumption)) (by first | assumption | exact rfl) ?_)
  | (refine nm_glob (Gn.F (by assumption)) (by k_is) ?_)
  | (refine nm_built (Gn.F (by assumption)) (by k_is) (by boot_by_name) ?_)
  | (refine nm_glob (by assumption) (by k_is) ?_)
  | (refine nm_built (by assumption) (by k_is) (by boot_by_name) ?_))
local macro_rules | `(tactic| walk_at "callWith ref") => `(tactic| first
  | (refine callWith_K0 (Gd.K (Fx.gd (by assumption))) (by k_is) ?_)
  | (refine callWith_K (Gd.K (Fx.gd (by assumption))) (by k_is) ?_)
  | (refine callWith_K0 (Gd.K (Gn.gd (by assumption))) (by k_is) ?_)
  | (refine callWith_K (Gd.K (Gn.gd (by assumption))) (by k_is) ?_))
local macro_rules | `(tactic| walk_at "And") => `(tactic| first
  | ((with_reducible show Frag.In _ _ ∧ _); refine ⟨Gd.K (Fx.gd (by assumption)), ?_⟩; try dsimp only [List.nil_append, List.cons_append])
  | ((with_reducible show Frag.In _ _ ∧ _); refine ⟨Gd.K (Gn.gd (by assumption)), ?_⟩; try dsimp only [List.nil_append, List.cons_append]))
local macro_rules | `(tactic| walk_at "room") => `(tactic| (simp only [over_u, over_d, overL_u, overL_d, overB_u, overB_d, Around.deeper, Around.in1, Around.mark]; omega))
theorem Grow.tk {s' : Shared} (G : Grow s s') (tk : Nat) : Grow s { s' with toks := tk } := ⟨G.keep, G.gens, G.bare, G.size, G.os⟩
theorem isTy_node {t : Tm} (h : t.isNode = true) (T : String) : t.isTy T = match t.kind with | .tup => decide ("tuple" = T) | .lst => decide ("list" = T) | .dct _ => decide ("dict" = T) := by
  unfold Tm.isTy
  rw [Tm.ty_node h]
  cases t.kind <;> rfl
theorem unify_ok (n : Nat) : UnifyOK prog w n := by
  induction n with
  | zero =>
    unfold UnifyOK
    intro A s g u v σ r vu vv vs R _ _ h
    simp [uni] at h
  | succ n IH =>
    unfold UnifyOK
    intro A s g u v σ r vu vv vs R hu hroom hr Ru Rv S G on h
    refine enterN (binds := [("u", vu), ("v", vv), ("s", vs)]) G (by k_is) (by k_is) rfl (by omega) (BindsTo.of_eq rfl) (by decide) (locs rfl) on (fun h₁ F => ?_)
    k_fold
    have Gr0 : Grow s ⟨h₁, s.gens, s.drawn, s.toks + 3, s.os⟩ := ⟨F.keep, fun _ _ e => e, id, Nat.le_of_lt F.lt, rfl⟩
    simp only [uni] at hr
    have iu := Ru.isi (w := w)
    have iv := Rv.isi (w := w)
    have ku := ko_tm_var (w := w) Ru.ok
    have kv := ko_tm_var (w := w) Rv.ok
    -- the tail of every branch that makes a generator
    have fin : ∀ {s5 s6 : Shared} {g5 g6 : PM} {x : Addr} {v' : Value}, Grow s s5 → Ext s.heap.objs.size g g5 → Grow s5 s6 → Ext s5.heap.objs.size g5 g6 → g6.on s6.heap → v' = .ref x → Will prog w (AnU r) (n + 3) s.heap.objs.size s.gens.size (.ref x) g6 s6 → R (.ok (.ret v')) s6 :=
      fun Gr5 X5 Gr6 X6 on6 e W6 => e ▸ h _ _ _ (Gr5.trans Gr6) (X5.trans X6 Gr5.size) on6 W6
    have mkvar : (u.isVar || v.isVar) = true → ∃ u' v', walk σ n u = some u' ∧ (if v.isVar then walk σ n v else some v) = some v' ∧ u'.plain = true ∧ v'.plain = true ∧
      ((u' = v' ∧ r = some σ) ∨ (u' ≠ v' ∧ ∃ k, u' = .var k ∧ r = some (σ ++ [(k, v')])) ∨ (u' ≠ v' ∧ u'.isVar = false ∧ ∃ k, v' = .var k ∧ r = some (σ ++ [(k, u')])) ∨ (u' ≠ v' ∧ u'.isVar = false ∧ v'.isVar = false ∧ uni n σ u' v' = some r)) := fun e => by
      rw [e, if_pos rfl] at hr
      cases e1 : walk σ n u with
      | none => simp [e1] at hr
      | some u' =>
        cases e2 : (if v.isVar then walk σ n v else some v) with
        | none => simp [e1, e2] at hr
        | some v' =>
          simp only [e1, e2] at hr
          cases ep : (u'.plain && v'.plain) with
          | false => simp [ep] at hr
          | true =>
            rw [ep, if_pos rfl] at hr
            simp only [Bool.and_eq_true] at ep
            refine ⟨u', v', rfl, rfl, ep.1, ep.2, ?_⟩
            by_cases q : u' = v'
            · rw [if_pos q] at hr; exact .inl ⟨q, by simpa using hr.symm⟩
            · rw [if_neg q] at hr
              cases u' with
              | var k => exact .inr (.inl ⟨q, k, rfl, by simpa using hr.symm⟩)
              | nil _ => cases ep.1
              | cons _ _ => cases ep.1
              | int i =>
                cases v' with
                | var k => exact .inr (.inr (.inl ⟨q, rfl, k, rfl, by simpa using hr.symm⟩))
                | nil _ => cases ep.2
                | cons _ _ => cases ep.2
                | int j => exact .inr (.inr (.inr ⟨q, rfl, rfl, hr⟩))
    repeat walk1
    refine wpAny_call (isvar_call ?_ F.gd F.on iu ku fun s2 Gr2 _ => ?_)
    · walk_at "room"
    have F2 := F.after0 Gr2
    dsimp only
    cases eu : u.isVar with
    | true =>
      obtain ⟨u', v', w1, w2, p1, p2, hcase⟩ := mkvar (by rw [eu]; rfl)
      repeat walk1
      refine wpAny_call (var_call IH ?_ F2.gd F2.on Ru Rv S w1 w2 p1 p2 hcase fun s5 g5 ga Gr5 X5 on5 M5 => ?_)
      · walk_at "room"
      have F5 := F2.after Gr5 X5 on5
      dsimp only
      repeat walk1
      refine wpAny_call (M5.will ?_ ?_ F5.gd F5.on fun s6 g6 x Gr6 X6 on6 W6 => ?_)
      · walk_at "room"
      · walk_at "room"
      have Gz := Gr0.trans Gr2
      exact fin (Gz.trans Gr5) (X5.mono Gz.size) Gr6 X6 on6 rfl (W6.mono (Nat.le_refl _) Gz.size (gens_size Gz.gens))
    | false =>
      repeat walk1
      refine wpAny_call (isvar_call ?_ F2.gd F2.on iv kv fun s3 Gr3 _ => ?_)
      · walk_at "room"
      have F3 := F2.after0 Gr3
      dsimp only
      cases ev : v.isVar with
      | true =>
        obtain ⟨u', v', w1, w2, p1, p2, hcase⟩ := mkvar (by rw [eu, ev]; rfl)
        repeat walk1
        refine wpAny_call (var_call IH ?_ F3.gd F3.on Ru Rv S w1 w2 p1 p2 hcase fun s5 g5 ga Gr5 X5 on5 M5 => ?_)
        · walk_at "room"
        have F5 := F3.after Gr5 X5 on5
        dsimp only
        repeat walk1
        refine wpAny_call (M5.will ?_ ?_ F5.gd F5.on fun s6 g6 x Gr6 X6 on6 W6 => ?_)
        · walk_at "room"
        · walk_at "room"
        have Gz := (Gr0.trans Gr2).trans Gr3
        exact fin (Gz.trans Gr5) (X5.mono Gz.size) Gr6 X6 on6 rfl (W6.mono (Nat.le_refl _) Gz.size (gens_size Gz.gens))
      | false =>
        have Gz := (Gr0.trans Gr2).trans Gr3
        simp only [eu, ev, Bool.or_false, Bool.false_eq_true, if_false] at hr
        by_cases hn : (u.isNode && v.isNode && decide (u.kind = v.kind) && decide (u.kind = .tup ∨ u.kind = .lst)) = true
        · rw [if_pos hn] at hr
          simp only [Bool.and_eq_true, decide_eq_true_eq] at hn
          obtain ⟨⟨⟨nu, nv⟩, ek⟩, ku'⟩ := hn
          obtain ⟨a, us, rfl, Nu, Lu⟩ := Ru.node nu
          obtain ⟨b, ws, rfl, Nv, Lv⟩ := Rv.node nv
          rw [← ek] at Nv
          by_cases hle : u.len ≤ 100 ∧ v.len ≤ 100
          · rw [if_pos hle] at hr
            have hr' : (u.len = v.len ∧ uniL (uni n) σ u v = some r) ∨ (u.len ≠ v.len ∧ r = none) := by
              by_cases q : u.len = v.len
              · rw [if_pos q] at hr; exact .inl ⟨q, hr⟩
              · rw [if_neg q] at hr; exact .inr ⟨q, by simpa using hr.symm⟩
            have kk' := ku'
            rcases ku' with kt | kl
            · have t1 : u.isTy "tuple" = true := by rw [isTy_node nu, kt]; decide
              have t2 : v.isTy "tuple" = true := by rw [isTy_node nv, ← ek, kt]; decide
              repeat walk1
              refine iu.call F3.gd F3.on (ko_tm_type Ru.ok (.inl rfl)) (fun tk4 => ?_)
              rw [t1]
              repeat walk1
              refine iv.call F3.gd F3.on (ko_tm_type Rv.ok (.inl rfl)) (fun tk5 => ?_)
              rw [t2]
              repeat walk1
              refine wpAny_call (iter_call kk' IH ?_ F3.gd F3.on Nu Nv Lu Lv hle.1 hle.2 S hr' fun s5 g5 ga Gr5 X5 on5 M5 => ?_)
              · walk_at "room"
              have F5 := Fx.after (s := { s3 with toks := tk5 }) F3 Gr5 X5 on5
              dsimp only
              repeat walk1
              refine wpAny_call (M5.will ?_ ?_ F5.gd F5.on fun s6 g6 x Gr6 X6 on6 W6 => ?_)
              · walk_at "room"
              · walk_at "room"
              exact fin ((Gz.tk tk5).trans Gr5) (X5.mono Gz.size) Gr6 X6 on6 rfl (W6.mono (Nat.le_refl _) Gz.size (gens_size Gz.gens))
            · have t1 : u.isTy "tuple" = false := by rw [isTy_node nu, kl]; decide
              have t2 : u.isTy "list" = true := by rw [isTy_node nu, kl]; decide
              have t3 : v.isTy "list" = true := by rw [isTy_node nv, ← ek, kl]; decide
              repeat walk1
              refine iu.call F3.gd F3.on (ko_tm_type Ru.ok (.inl rfl)) (fun tk4 => ?_)
              rw [t1]
              repeat walk1
              refine iu.call F3.gd F3.on (ko_tm_type Ru.ok (.inr (.inl rfl))) (fun tk5 => ?_)
              rw [t2]
              repeat walk1
              refine iv.call F3.gd F3.on (ko_tm_type Rv.ok (.inr (.inl rfl))) (fun tk6 => ?_)
              rw [t3]
              repeat walk1
              refine wpAny_call (iter_call kk' IH ?_ F3.gd F3.on Nu Nv Lu Lv hle.1 hle.2 S hr' fun s5 g5 ga Gr5 X5 on5 M5 => ?_)
              · walk_at "room"
              have F5 := Fx.after (s := { s3 with toks := tk6 }) F3 Gr5 X5 on5
              dsimp only
              repeat walk1
              refine wpAny_call (M5.will ?_ ?_ F5.gd F5.on fun s6 g6 x Gr6 X6 on6 W6 => ?_)
              · walk_at "room"
              · walk_at "room"
              exact fin ((Gz.tk tk6).trans Gr5) (X5.mono Gz.size) Gr6 X6 on6 rfl (W6.mono (Nat.le_refl _) Gz.size (gens_size Gz.gens))
          · rw [if_neg hle] at hr; cases hr
        · rw [if_neg hn] at hr
          cases hp : (u.plain && v.plain) with
          | false => simp [hp] at hr
          | true =>
            rw [hp, if_pos rfl] at hr
            simp only [Bool.and_eq_true] at hp
            obtain ⟨i, rfl⟩ : ∃ i, u = .int i := by
              cases u with
              | int i => exact ⟨i, rfl⟩
              | var _ => cases eu
              | nil _ => cases hp.1
              | cons _ _ => cases hp.1
            have t1 : (Tm.int i).isTy "tuple" = false := by simp [Tm.isTy, Tm.ty]
            have t2 : (Tm.int i).isTy "list" = false := by simp [Tm.isTy, Tm.ty]
            have t3 : (Tm.int i).isTy "dict" = false := by simp [Tm.isTy, Tm.ty]
            repeat walk1
            refine iu.call F3.gd F3.on (ko_tm_type Ru.ok (.inl rfl)) (fun tk4 => ?_)
            rw [t1]
            repeat walk1
            refine iu.call F3.gd F3.on (ko_tm_type Ru.ok (.inr (.inl rfl))) (fun tk5 => ?_)
            rw [t2]
            repeat walk1
            refine iu.call F3.gd F3.on (ko_tm_type Ru.ok (.inr (.inr rfl))) (fun tk6 => ?_)
            rw [t3]
            repeat walk1
            refine eq_plain ?_ ?_ F3.gd F3.on hp.1 hp.2 Ru Rv fun s7 Gr7 => ?_
            · walk_at "room"
            · walk_at "room"
            have F7 := Fx.after0 (s := { s3 with toks := tk6 }) F3 Gr7
            refine wpAny_truthy_bool ?_
            by_cases q : Tm.int i = v
            · rw [if_pos q] at hr
              obtain rfl : r = some σ := by simpa using hr.symm
              rw [decide_eq_true q]
              repeat walk1
              exact h _ _ _ ((Gz.tk tk6).trans Gr7) .refl F7.on (.inl ⟨SubAt.notGen S, S⟩)
            · rw [if_neg q] at hr
              obtain rfl : r = none := by simpa using hr.symm
              rw [decide_eq_false q]
              repeat walk1
              exact h _ _ _ ((Gz.tk tk6).trans Gr7) .refl F7.on (.inl ⟨notGen_bool, rfl⟩)
end

end Mine
end
section
open PySem PySem.W PyProof.Rows PySem.Calls
open PySem.W.X (SegX wake_any)
set_option Elab.async false
set_option maxRecDepth 100000
set_option maxHeartbeats 8000000
namespace Mine
set_option pp.maxSteps 600
theorem fill19 : (fun (_ : OpenLaw) (_ : Params → Frag) => True) PySem.Challenge.rw_fe0181_02 hd2.heap_39 := by
  k_fill; trivial
local macro_rules | `(tactic| walk_at "eval Name") => `(tactic| first
  | (refine nm_loc (by assumption) (by first | assumption | exact rfl) ?_)
  | (refine nm_glob (by assumption) (by k_is) ?_)
  | (refine nm_built (by assumption) (by k_is) (by boot_by_name) ?_))
local macro_rules | `(tactic| walk_at "callWith ref") => `(tactic| first
  | (refine callWith_K0 (Gd.K (Fx.gd (by assumption))) (by k_is) ?_)
  | (refine callWith_K (Gd.K (Fx.gd (by assumption))) (by k_is) ?_))
local macro_rules | `(tactic| walk_at "And") => `(tactic| ((with_reducible show Frag.In _ _ ∧ _); refine ⟨Gd.K (Fx.gd (by assumption)), ?_⟩; try dsimp only [List.nil_append, List.cons_append]))
local macro_rules | `(tactic| walk_at "room") => `(tactic| (simp only [Around.deeper, Around.in1, Around.mark]; omega))
local macro_rules | `(tactic| walk_at "go") => `(tactic| repeat' (first | (k_unfold; (try dsimp only)) | walk1 | (dsimp only; walk1)))
section
variable {prog : Program} {w : World} {A : Around} {E : Value → Shared → Prop} {s : Shared} {env : Env} {h₀ : Heap} {g : PM} {m : Str → Option Value}
local macro_rules | `(tactic| walk_at "eval Name") => `(tactic| first
  | (refine nm_loc (by assumption) (by first | assumption | exact rfl) ?_)
  | (refine nm_loc (Gn.F (by assumption)) (by first | assumption | exact rfl) ?_)
  | (refine nm_glob (Gn.F (by assumption)) (by k_is) ?_)
  | (refine nm_built (Gn.F (by assumption)) (by k_is) (by boot_by_name) ?_)
  | (refine nm_glob (by assumption) (by k_is) ?_)
  | (refine nm_built (by assumption) (by k_is) (by boot_by_name) ?_))
local macro_rules | `(tactic| walk_at "callWith ref") => `(tactic| first
  | (refine callWith_K0 (Gd.K (Fx.gd (by assumption))) (by k_is) ?_)
  | (refine callWith_K (Gd.K (Fx.gd (by assumption))) (by k_is) ?_)
  | (refine callWith_K0 (Gd.K (Gn.gd (by assumption))) (by k_is) ?_)
  | (refine callWith_K (Gd.K (Gn.gd (by assumption))) (by k_is) ?_))
local macro_rules | `(tactic| walk_at "And") => `(tactic| first
  | ((with_reducible show Frag.In _ _ ∧ _); refine ⟨Gd.K (Fx.gd (by assumption)), ?_⟩; try dsimp only [List.nil_append, List.cons_append])
  | ((with_reducible show Frag.In _ _ ∧ _); refine ⟨Gd.K (Gn.gd (by assumption)), ?_⟩; try dsimp only [List.nil_append, List.cons_append]))
local macro_rules | `(tactic| walk_at "room") => `(tactic| (simp only [over_u, over_d, overL_u, overL_d, overB_u, overB_d, Around.deeper, Around.in1, Around.mark]; omega))
/-- the contract of `is` on two values: true only where p holds -/
def SameOK (w : World) (g : PM) (a b : Value) (p : Prop) : Prop := ∀ (prog : Program) (A : Around) (E : Value → Shared → Prop) (s : Shared) (Q : Bool → Shared → Prop), A.units + 200 < cLine → A.depth + 10 < recursionLimit → Gd w s.heap → g.on s.heap →
  (∀ k s', Grow s s' → (k = true → p) → Q k s') → wpAny (model prog w) A (isSame a b) Q E s
/-- the ground under the next call -/
theorem Up.deeper {base : Heap} {outer : List Env} {env : Env} {L : Addr} {g g' : PM} {h h' : Heap} (U : Up w base g A outer h) (hfl : ∀ env ∈ outer, ∀ L, env.frame = some L → L < h.objs.size)
    (F : Fx w base g' L h' m) (hL : h.objs.size ≤ L) (hf : env.frame = some L) (hk : env.scope.kind ≠ .module) (k : Slk h.objs.size (fun _ => False) h h') (X : Ext h.objs.size g g') (hs : h.objs.size ≤ h'.objs.size) : Up w base g' (A.deeper env) (env :: outer) h' := by
  refine ⟨Around.frames_deeper U.fr, U.hd, F.keep, ?_, fun e he L' hL' => ?_, U.gd, F.on, Nat.le_trans U.bs hs⟩
  · refine Heap.FunFrames.cons hk hf F.ns ?_ (ff_kp U.ff hfl k)
    cases q : base.get? L with
    | none => rfl
    | some o => exact absurd (Heap.lt_size q) (Nat.not_lt.mpr (Nat.le_trans U.bs hL))
  · rcases List.mem_cons.mp he with rfl | he
    · rw [hf] at hL'; cases hL'; exact F.off
    · exact X.off (hfl e he L' hL') (U.offs e he L' hL')

theorem unify_call {n : Nat} {u v : Tm} {σ : Sub} {r : Option Sub} {vu vv vs : Value} {base : Heap} {outer : List Env} {R : Result → Shared → Prop} (hu : A.units + 5000 < cLine) (hroom : A.depth + 100 < recursionLimit) (U : Up w base g A outer s.heap)
    (hfl : ∀ env ∈ outer, ∀ L, env.frame = some L → L < s.heap.objs.size) (hr : uni n σ u v = some r) (Ru : Rep g u vu) (Rv : Rep g v vv) (S : SubAt g vs σ) (hn : n + 2 ≤ 3000) (hsame : SameOK w g vu vv (r = some σ))
    (h : ∀ g' s' ans, AnU r g' ans → Kp s.heap.objs.size s.gens.size (fun _ => False) s s' → Ext s.heap.objs.size g g' → g'.on s'.heap → base.StaysIn s'.heap → R (.ok (.ret ans)) s') :
    codeAny (model prog w) A (.call (.ref 276) ⟨[vu, vv, vs], []⟩) R s := by
  refine enterB (binds := [("u", vu), ("v", vv), ("s", vs)]) U (by k_is) (by k_is) rfl (by omega) (BindsTo.of_eq rfl) (by decide) (locs rfl) (fun h₁ F kk hfr => ?_)
  k_fold
  have Gr1 : Grow s ⟨h₁, s.gens, s.drawn, s.toks + 3, s.os⟩ := ⟨kk, fun _ _ e => e, id, Nat.le_of_lt F.ns.lt, rfl⟩
  repeat walk1
  refine wpAny_bind (m := isSame _ _) (hsame _ _ _ _ _ ?_ ?_ F.gd F.on fun k s2 Gr2 hk => ?_)
  · walk_at "room"
  · walk_at "room"
  have F2 := F.after0 Gr2
  cases k with
  | true =>
    obtain rfl := hk rfl
    refine wpAny_pure ?_
    repeat walk1
    exact h g _ vs S (Gr1.trans Gr2).kp .refl F2.on F2.keep
  | false =>
    refine wpAny_pure ?_
    repeat walk1
    refine wpAny_call (unify_ok n ?_ ?_ hr Ru Rv S F2.gd F2.on fun s3 g3 rv Gr3 X3 on3 W3 => ?_)
    · walk_at "room"
    · walk_at "room"
    have F3 := F2.after Gr3 X3 on3
    dsimp only
    repeat walk1
    have Gz := (Gr1.trans Gr2).trans Gr3
    have Xz : Ext s.heap.objs.size g g3 := X3.mono (Gr1.trans Gr2).size
    have lL : s.heap.objs.size < s2.heap.objs.size := F2.ns.lt
    refine wpAny_call (stream_eval_call (n := s2.heap.objs.size) (k := s2.gens.size) (An := AnU r) (d := n + 2) ?_ ?_ (U.deeper hfl F3 (Nat.le_refl _) rfl (by intro q; cases q) (fun b o _ _ e => ⟨o.slots, Gz.keep b o e⟩) Xz Gz.size) (Nat.le_trans U.bs (Nat.le_of_lt lL)) (fun env' he L' hL' => ?_) Gr3.size (gens_size Gr3.gens) W3 hn fun g4 s4 ans an ng K4 X4 on4 st4 => ?_)
    · walk_at "room"
    · walk_at "room"
    · rcases List.mem_cons.mp he with rfl | he
      · cases hL'; exact lL
      · exact Nat.lt_trans (hfl _ he _ hL') lL
    · exact h g4 s4 ans an (Gz.kp.trans (K4.mono (Nat.le_of_lt lL) (gens_size (Gr1.trans Gr2).gens))) (Xz.trans X4 (Nat.le_of_lt lL)) on4 st4
end

end Mine
end
section
open PySem PySem.W PyProof.Rows PySem.Calls
open PySem.W.X (SegX wake_any)
set_option Elab.async false
set_option maxRecDepth 100000
set_option maxHeartbeats 8000000
namespace Mine
set_option pp.maxSteps 600
theorem fill20 : (fun (_ : OpenLaw) (_ : Params → Frag) => True) PySem.Challenge.rw_fe0181_02 hd2.heap_39 := by
  k_fill; trivial
local macro_rules | `(tactic| walk_at "no such word 0") => `(tactic| fail)
local macro_rules | `(tactic| walk_at "eval Name") => `(tactic| first
  | (refine nm_loc (by assumption) (by first | assumption | exact rfl) ?_)
  | (refine nm_glob (by assumption) (by k_is) ?_)
  | (refine nm_built (by assumption) (by k_is) (by boot_by_name) ?_))
local macro_rules | `(tactic| walk_at "callWith ref") => `(tactic| first
  | (refine callWith_K0 (Gd.K (Fx.gd (by assumption))) (by k_is) ?_)
  | (refine callWith_K (Gd.K (Fx.gd (by assumption))) (by k_is) ?_))
local macro_rules | `(tactic| walk_at "And") => `(tactic| ((with_reducible show Frag.In _ _ ∧ _); refine ⟨Gd.K (Fx.gd (by assumption)), ?_⟩; try dsimp only [List.nil_append, List.cons_append]))
local macro_rules | `(tactic| walk_at "room") => `(tactic| (simp only [Around.deeper, Around.in1, Around.mark]; omega))
local macro_rules | `(tactic| walk_at "go") => `(tactic| repeat' (first | (k_unfold; (try dsimp only)) | walk1 | (dsimp only; walk1)))
section
variable {prog : Program} {w : World} {A : Around} {E : Value → Shared → Prop} {s : Shared} {env : Env} {h₀ : Heap} {g : PM} {m : Str → Option Value}
local macro_rules | `(tactic| walk_at "eval Name") => `(tactic| first
  | (refine nm_loc (by assumption) (by first | assumption | exact rfl) ?_)
  | (refine nm_loc (Gn.F (by assumption)) (by first | assumption | exact rfl) ?_)
  | (refine nm_glob (Gn.F (by assumption)) (by k_is) ?_)
  | (refine nm_built (Gn.F (by assumption)) (by k_is) (by boot_by_name) ?_)
  | (refine nm_glob (by assumption) (by k_is) ?_)
  | (refine nm_built (by assumption) (by k_is) (by boot_by_name) ?_))
local macro_rules | `(tactic| walk_at "callWith ref") => `(tactic| first
  | (refine callWith_K0 (Gd.K (Fx.gd (by assumption))) (by k_is) ?_)
  | (refine callWith_K (Gd.K (Fx.gd (by assumption))) (by k_is) ?_)
  | (refine callWith_K0 (Gd.K (Gn.gd (by assumption))) (by k_is) ?_)
  | (refine callWith_K (Gd.K (Gn.gd (by assumption))) (by k_is) ?_))
local macro_rules | `(tactic| walk_at "And") => `(tactic| first
  | ((with_reducible show Frag.In _ _ ∧ _); refine ⟨Gd.K (Fx.gd (by assumption)), ?_⟩; try dsimp only [List.nil_append, List.cons_append])
  | ((with_reducible show Frag.In _ _ ∧ _); refine ⟨Gd.K (Gn.gd (by assumption)), ?_⟩; try dsimp only [List.nil_append, List.cons_append]))
local macro_rules | `(tactic| walk_at "room") => `(tactic| (simp only [over_u, over_d, overL_u, overL_d, overB_u, overB_d, Around.deeper, Around.in1, Around.mark]; omega))
/-- what reify answers -/
def rei : Nat → Sub → Tm → Option Tm
  | 0, _, _ => none
  | n + 1, σ, .var k => match σ.get k with
    | none => some (.var k)
    | some t => match walk σ n t with
      | some u' => rei n σ u'
      | none => none
  | _ + 1, _, .int i => some (.int i)
  | _ + 1, _, _ => none
def AnT (t : Tm) (g : PM) (v : Value) : Prop := Rep g t v
def ReifyOK (prog : Program) (w : World) (n : Nat) : Prop := ∀ {A : Around} {s : Shared} {g : PM} {t : Tm} {σ : Sub} {r : Tm} {vt vs : Value} {R : Result → Shared → Prop},
  A.handled = none → A.units + 1000 < cLine → A.depth + 40 < recursionLimit → rei n σ t = some r → Rep g t vt → SubAt g vs σ → Gd w s.heap → g.on s.heap →
  (∀ s' g' rv, Grow s s' → Ext s.heap.objs.size g g' → g'.on s'.heap → Will prog w (AnT r) (n + 2) s.heap.objs.size s.gens.size rv g' s' → R (.ok (.ret rv)) s') →
  codeAny (model prog w) A (.call (.ref 220) ⟨[vt, vs], []⟩) R s

theorem is_other {x : Addr} {k : Int} {y : Value} {t : Tm} {Q : Value → Shared → Prop} (on : g.on s.heap) (V : VarAt g x k) (R : Rep g t y) (ne : t ≠ .var k) (hp : t.plain = true) (h : Q (.bool false) s) : wpAny (model prog w) A (compareOp .Is y (.ref x)) Q E s := by
  show wpAny _ _ (isSame y (.ref x) >>= fun k => pure (Value.bool k)) _ _ _
  refine wpAny_bind ?_
  cases t with
  | nil _ => cases hp
  | cons _ _ => cases hp
  | int i => exact isSame_bt_var on V R.bt (wpAny_pure h)
  | var j =>
    obtain ⟨a, rfl, V', _⟩ := R.var_is
    have hax : a ≠ x := fun e => by subst e; exact ne (by rw [V'.inj V])
    obtain ⟨dx, _, _, _, _, sl, h1, _⟩ := V
    obtain ⟨dx', _, _, _, _, sl', h1', _⟩ := V'
    exact wpAny_isSame_ref_other hax (on _ _ h1') (on _ _ h1) (by simp) (wpAny_pure h)
theorem is_self {x : Addr} {Q : Value → Shared → Prop} (h : Q (.bool true) s) : wpAny (model prog w) A (compareOp .Is (.ref x) (.ref x)) Q E s := by
  show wpAny _ _ (isSame (.ref x) (.ref x) >>= fun k => pure (Value.bool k)) _ _ _
  exact wpAny_bind (wpAny_isSame_ref_self (wpAny_pure h))

theorem rvar_call {k : Int} {σ : Sub} {r : Tm} {n : Nat} {vt vs : Value} {R : Result → Shared → Prop} (IH : ReifyOK prog w n) (hroom : A.depth < recursionLimit) (G : Gd w s.heap) (on : g.on s.heap)
    (Rt : Rep g (.var k) vt) (S : SubAt g vs σ) (hr : rei (n + 1) σ (.var k) = some r)
    (h : ∀ s' g' ga, Grow s s' → Ext s.heap.objs.size g g' → g'.on s'.heap → Made prog w (AnT r) (n + 3) s.heap.objs.size s.gens.size ga g' s' → R (.ok (.ret (.ref ga))) s') :
    codeAny (model prog w) A (.call (.ref 227) ⟨[vt, vs], []⟩) R s := by
  refine enterGM (binds := [("o", vt), ("s", vs)]) G on (by k_is) (by k_is) rfl hroom (BindsTo.of_eq rfl) (by decide) (locs rfl) (by omega) h (fun D items z zo g₂ s₂ s₁ L hlen gle Z kD nD oD hL hS gS kg blt nsL Dr fin Gn1 _ => ?_)
  have room := D.room
  have units := D.units
  obtain ⟨d, xs, rfl, DD, SS⟩ := S.le gle
  have Rt2 := Rt.le gle
  obtain ⟨x, rfl, V, k0, k1⟩ := Rt2.var_is
  have size1 : s₁.gens.size = (s₁.setGen s.gens.size .running).gens.size := setGen_size.symm
  -- what transitive_get gives
  obtain ⟨n1, yu, t', W1, R1, p1, hc⟩ : ∃ n1 yu t', WalkN w g₂ d xs n1 (.ref x) yu ∧ Rep g₂ t' yu ∧ t'.plain = true ∧ ((yu = .ref x ∧ r = .var k) ∨ (t' ≠ .var k ∧ rei n σ t' = some r)) := by
    obtain ⟨q1, q2⟩ := SS.get (k := k)
    simp only [rei] at hr
    cases e : σ.get k with
    | none =>
      rw [e] at hr
      exact ⟨0, _, _, .free V k0 k1 (q2 e).1, Rt2, rfl, .inl ⟨rfl, by simpa using hr.symm⟩⟩
    | some t =>
      rw [e] at hr
      obtain ⟨v, hv, Rv⟩ := q1 t e
      cases e2 : walk σ n t with
      | none => simp [e2] at hr
      | some u' =>
        simp only [e2] at hr
        obtain ⟨n', y', W', R'⟩ := walk_at (w := w) DD SS e2 Rv
        refine ⟨n' + 1, y', u', .step V k0 k1 hv W', R', walk_plain e2, .inr ⟨fun q => ?_, hr⟩⟩
        rw [q] at e2
        rw [walk_free e2] at e; cases e
  refine sx_stmt ?_
  repeat walk1
  refine wpAny_call (tget ?_ ?_ Gn1.gd Gn1.on DD W1 fun s3 Gr3 => ?_)
  · walk_at "room"
  · walk_at "room"
  have Gn3 := Gn1.after0 Gr3
  dsimp only
  refine st_loc Gn3.F (fun h4 F4 sb4 => ?_)
  have Gn4 := Gn3.set (tk := s3.toks + 1) F4.ns sb4
  clear F4 Gn3
  have G4 := Gn4.T.gsize
  have ow : ∀ b, D.own b → b < h4.objs.size := fun b q => Nat.lt_of_lt_of_le (blt b (.inr q)) Gn4.T.size
  refine sx_cons (sx_if ?_)
  repeat walk1
  rcases hc with ⟨rfl, rfl⟩ | ⟨ne, hr'⟩
  · refine is_self ?_
    refine wpAny_truthy_bool ?_
    rw [if_pos rfl]
    refine sx_cons (sx_Expr_Yield rfl rfl rfl (nm_loc Gn4.F rfl ?_))
    intro p kk hkk
    refine yield_last (d' := 1) (n' := h4.objs.size) (k' := s₁.gens.size) Gn4 (by omega) (Nat.le_refl _) rfl (.inl ⟨Rt2.notGen, Rt2⟩) gS (fun b e => by rw [e]; exact ⟨Gn4.F.ns.lt, nD, oD, nsL⟩) kD ow (Nat.le_refl _) (by rw [size1]; exact G4) (Nat.le_refl _) Z hS (fun x s'' P' q => hkk x s'' P' ?_) fin
    exact sx_end q
  · refine is_other Gn4.on V R1 ne p1 ?_
    refine wpAny_truthy_bool ?_
    rw [if_neg Bool.false_ne_true]
    refine sx_cons (sx_Expr_Yield rfl rfl rfl ?_)
    repeat walk1
    refine wpAny_call (IH D.handled ?_ ?_ hr' R1 ⟨d, xs, rfl, DD, SS⟩ Gn4.gd Gn4.on fun s5 g5 rv Gr5 X5 on5 W5 => ?_)
    · walk_at "room"
    · walk_at "room"
    have Gn5 := Gn4.after Gr5 X5 on5
    intro p kk hkk
    have lL : L < h4.objs.size := Gn4.F.ns.lt
    have gk : s₁.gens.size ≤ s3.gens.size := by rw [size1]; exact G4
    refine yield_last (d' := n + 2) (n' := h4.objs.size) (k' := s3.gens.size) Gn5 (by omega) (by omega) rfl W5 (by omega) (fun b e => by rw [e]; exact ⟨lL, nD, oD, nsL⟩) kD ow Gr5.size (gens_size Gr5.gens) (Nat.le_refl _) Z hS (fun x s'' P' q => hkk x s'' P' ?_) fin
    exact sx_end q
end

end Mine
end
section
open PySem PySem.W PyProof.Rows PySem.Calls
open PySem.W.X (SegX wake_any)
set_option Elab.async false
set_option maxRecDepth 100000
set_option maxHeartbeats 8000000
namespace Mine
set_option pp.maxSteps 600
theorem fill21 : (fun (_ : OpenLaw) (_ : Params → Frag) => True) PySem.Challenge.rw_fe0181_02 hd2.heap_39 := by
  k_fill; trivial
local macro_rules | `(tactic| walk_at "eval Name") => `(tactic| first
  | (refine nm_loc (by assumption) (by first | assumption | exact rfl) ?_)
  | (refine nm_glob (by assumption) (by k_is) ?_)
  | (refine nm_built (by assumption) (by k_is) (by boot_by_name) ?_))
local macro_rules | `(tactic| walk_at "callWith ref") => `(tactic| first
  | (refine callWith_K0 (Gd.K (Fx.gd (by assumption))) (by k_is) ?_)
  | (refine callWith_K (Gd.K (Fx.gd (by assumption))) (by k_is) ?_))
local macro_rules | `(tactic| walk_at "And") => `(tactic| ((with_reducible show Frag.In _ _ ∧ _); refine ⟨Gd.K (Fx.gd (by assumption)), ?_⟩; try dsimp only [List.nil_append, List.cons_append]))
local macro_rules | `(tactic| walk_at "room") => `(tactic| (simp only [Around.deeper, Around.in1, Around.mark]; omega))
local macro_rules | `(tactic| walk_at "go") => `(tactic| repeat' (first | (k_unfold; (try dsimp only)) | walk1 | (dsimp only; walk1)))
section
variable {prog : Program} {w : World} {A : Around} {E : Value → Shared → Prop} {s : Shared} {env : Env} {h₀ : Heap} {g : PM} {m : Str → Option Value}
local macro_rules | `(tactic| walk_at "eval Name") => `(tactic| first
  | (refine nm_loc (by assumption) (by first | assumption | exact rfl) ?_)
  | (refine nm_loc (Gn.F (by assumption)) (by first | assumption | exact rfl) ?_)
  | (refine nm_glob (Gn.F (by assumption)) (by k_is) ?_)
  | (refine nm_built (Gn.F (by assumption)) (by k_is) (by boot_by_name) ?_)
  | (refine nm_glob (by assumption) (by k_is) ?_)
  | (refine nm_built (by assumption) (by k_is) (by boot_by_name) ?_))
local macro_rules | `(tactic| walk_at "callWith ref") => `(tactic| first
  | (refine callWith_K0 (Gd.K (Fx.gd (by assumption))) (by k_is) ?_)
  | (refine callWith_K (Gd.K (Fx.gd (by assumption))) (by k_is) ?_)
  | (refine callWith_K0 (Gd.K (Gn.gd (by assumption))) (by k_is) ?_)
  | (refine callWith_K (Gd.K (Gn.gd (by assumption))) (by k_is) ?_))
local macro_rules | `(tactic| walk_at "And") => `(tactic| first
  | ((with_reducible show Frag.In _ _ ∧ _); refine ⟨Gd.K (Fx.gd (by assumption)), ?_⟩; try dsimp only [List.nil_append, List.cons_append])
  | ((with_reducible show Frag.In _ _ ∧ _); refine ⟨Gd.K (Gn.gd (by assumption)), ?_⟩; try dsimp only [List.nil_append, List.cons_append]))
local macro_rules | `(tactic| walk_at "room") => `(tactic| (simp only [over_u, over_d, overL_u, overL_d, overB_u, overB_d, Around.deeper, Around.in1, Around.mark]; omega))
theorem codeAny_for1 {target : PySem.Expr} {it : Value} {body orelse : List Stmt} {R : Result → Shared → Prop}
    (h : wpAny (model prog w) A (pyNext it) (fun o s₁ => match o with
      | none => wpAny (model prog w) A (execs orelse env) (fun f s' => R (.ok f) s') (fun _ _ => False) s₁
      | some v => wpAny (model prog w) A (letOwnedTupleGo target it v) (fun _ s₂ => wpAny (model prog w) A (assign target env v) (fun _ s₃ =>
          wpAny (model prog w) A (execs body env) (fun f s₄ => match f with
            | .next | .cont => codeAny (model prog w) A (.forLoop target it body orelse env) R s₄
            | .brk => R (.ok .next) s₄
            | .ret v => R (.ok (.ret v)) s₄) (fun _ _ => False) s₃) (fun _ _ => False) s₂) (fun _ _ => False) s₁)
      (fun _ _ => False) s) : codeAny (model prog w) A (.forLoop target it body orelse env) R s := by
  refine codeAny_of_tree ?_
  show wpAny _ A ((forTurn target it body orelse env).onRaise (fun x => do noteFrame x env; theTreesLotGoes x)) _ _ s
  refine wpAny_noted ?_
  unfold forTurn
  refine wpAny_bind (wpAny_standAt (wpAny_bind (wpAny_onRaise (wpAny_mono h (fun o s₁ h₁ => ?_) fun _ _ z => z.elim))))
  cases o with
  | none => exact wpAny_pure ⟨rfl, codeAny_block (wpAny_mono h₁ (fun _ _ z => z) fun _ _ z => z.elim)⟩
  | some v =>
    refine wpAny_bind (wpAny_mono h₁ (fun _ s₂ h₂ => wpAny_bind (wpAny_mono h₂ (fun _ s₃ h₃ => wpAny_bind (wpAny_mono h₃ (fun f s₄ h₄ => ?_) fun _ _ z => z.elim)) fun _ _ z => z.elim)) fun _ _ z => z.elim)
    cases f with
    | next => exact wpAny_pure ⟨rfl, h₄⟩
    | cont => exact wpAny_pure ⟨rfl, h₄⟩
    | brk => exact wpAny_pure h₄
    | ret v => exact wpAny_pure h₄

theorem loop_indC {lc : Code} {R : Result → Shared → Prop} (Inv : Nat → Shared → Prop)
    (step : ∀ n s, (∀ k s', k < n → Inv k s' → codeAny (model prog w) A lc R s') → Inv n s → codeAny (model prog w) A lc R s) : ∀ n s, Inv n s → codeAny (model prog w) A lc R s := fun n => by
  induction n using Nat.strongRecOn with
  | ind n ih => exact fun s h => step n s (fun k s' hk h' => ih k hk s' h') h
theorem Fx.extBut {L c : Addr} {h h' : Heap} (F : Fx w h₀ g L h m) (he : Heap.ExtBut c h h') (hL : c ≠ L) (gc : g c = none) (hcs : h₀.objs.size ≤ c) : Fx w h₀ g L h' m :=
  ⟨F.ns.extBut he (Ne.symm hL), fun a o e => he a o (fun q => by rw [q, gc] at e; cases e) (F.on a o e), F.off,
    fun a o e => he a o (Nat.ne_of_lt (Nat.lt_of_lt_of_le (Heap.lt_size e) hcs)) (F.keep a o e), F.above, F.gd₀⟩
theorem reify_ok (n : Nat) : ReifyOK prog w n := by
  induction n with
  | zero =>
    unfold ReifyOK
    intro A s g t σ r vt vs R _ _ _ h
    simp [rei] at h
  | succ n IH =>
    unfold ReifyOK
    intro A s g t σ r vt vs R hh hu hroom hr Rt S G on h
    refine enterN (binds := [("o", vt), ("s", vs)]) G (by k_is) (by k_is) rfl (by omega) (BindsTo.of_eq rfl) (by decide) (locs rfl) on (fun h₁ F => ?_)
    k_fold
    have Gr0 : Grow s ⟨h₁, s.gens, s.drawn, s.toks + 2, s.os⟩ := ⟨F.keep, fun _ _ e => e, id, Nat.le_of_lt F.lt, rfl⟩
    have it := Rt.isi (w := w)
    cases t with
    | nil _ => simp [rei] at hr
    | cons _ _ => simp [rei] at hr
    | var k =>
      have kt : kitOne (hd2.heap_39 w.params) (Tm.var k).ty (.ref 185) = some true := ko_tm_var Rt.ok
      repeat walk1
      refine wpAny_call (isvar_call ?_ F.gd F.on it kt fun s2 Gr2 _ => ?_)
      · walk_at "room"
      have F2 := F.after0 Gr2
      have Gz := Gr0.trans Gr2
      dsimp only
      repeat walk1
      refine wpAny_call (rvar_call IH ?_ F2.gd F2.on Rt S hr fun s5 g5 ga Gr5 X5 on5 M5 => ?_)
      · walk_at "room"
      have F5 := F2.after Gr5 X5 on5
      dsimp only
      repeat walk1
      refine wpAny_call (M5.will ?_ ?_ F5.gd F5.on fun s6 g6 x Gr6 X6 on6 W6 => ?_)
      · walk_at "room"
      · walk_at "room"
      exact h _ _ _ ((Gz.trans Gr5).trans Gr6) ((X5.mono Gz.size).trans X6 (Nat.le_trans Gz.size Gr5.size)) on6 (W6.mono (Nat.le_refl _) Gz.size (gens_size Gz.gens))
    | int i =>
      obtain rfl : r = .int i := by simpa [rei] using hr.symm
      have kt : kitOne (hd2.heap_39 w.params) (Tm.int i).ty (.ref 185) = some false := ko_tm_var Rt.ok
      repeat walk1
      refine wpAny_call (isvar_call ?_ F.gd F.on it kt fun s2 Gr2 _ => ?_)
      · walk_at "room"
      have F2 := F.after0 Gr2
      have Gz := Gr0.trans Gr2
      dsimp only
      repeat walk1
      refine wpAny_For ?_
      repeat walk1
      refine wpAny_newTuple ?_
      have F3 := F2.push' { cls := .type "tuple", data := .seq #[.type "tuple", .type "list", .type "dict"] }
      have HT : IsTup (s2.heap.push { cls := .type "tuple", data := .seq #[.type "tuple", .type "list", .type "dict"] }) s2.heap.objs.size #[.type "tuple", .type "list", .type "dict"] := ⟨_, Heap.get?_push_size _ rfl, rfl, _, rfl⟩
      have kp3 : ∀ b o, s2.heap.get? b = some o → (s2.heap.push { cls := .type "tuple", data := .seq #[.type "tuple", .type "list", .type "dict"] }).get? b = some o := fun b o q => Heap.get?_push_of_some _ q
      have sz3 : s2.heap.objs.size ≤ (s2.heap.push { cls := .type "tuple", data := .seq #[.type "tuple", .type "list", .type "dict"] }).objs.size := by rw [Heap.size_push]; exact Nat.le_succ _
      revert F3 HT kp3 sz3
      generalize s2.heap.push { cls := .type "tuple", data := .seq #[.type "tuple", .type "list", .type "dict"] } = h3
      intro F3 HT kp3 sz3
      refine iter_tuple HT ?_
      have itn : s.heap.objs.size ≤ h3.objs.size := Nat.le_of_lt F3.ns.lt
      have itL : h3.objs.size ≠ s.heap.objs.size := Nat.ne_of_gt F3.ns.lt
      have itg : g h3.objs.size = none := PM.none_of F3.on (Nat.le_refl _)
      have F4 := F3.push' { cls := .type "tuple_iterator", data := .fields #[.ref s2.heap.objs.size, .int 0 0] }
      have tpn : s2.heap.objs.size ≠ h3.objs.size := by obtain ⟨_, e, _⟩ := HT; exact Nat.ne_of_lt (Heap.lt_size e)
      refine loop_indC (Inv := fun mm s' => ∃ (m' : Str → Option Value) (i : Nat), i ≤ 3 ∧ mm = 3 - i ∧ Fx w s.heap g s.heap.objs.size s'.heap m' ∧ m' "o" = some vt ∧ IsTupIter s'.heap h3.objs.size s2.heap.objs.size i ∧
        IsTup s'.heap s2.heap.objs.size #[.type "tuple", .type "list", .type "dict"] ∧ s'.gens = s2.gens ∧ s'.os = s2.os) ?_ 3 _
        ⟨_, 0, by omega, rfl, F4, rfl, ⟨_, Heap.get?_push_size _ rfl, rfl, rfl⟩, HT.keeps fun b o q => Heap.get?_push_of_some _ q, rfl, rfl⟩
      rintro mm s5 ih ⟨m5, i5, hi5, rfl, F5, m5o, HI5, HT5, eg5, eo5⟩
      refine codeAny_for1 ?_
      have fin5 : ∀ {h' : Heap} {d : Drawn} {tk : Nat}, (∀ b o, s.heap.get? b = some o → h'.get? b = some o) → s.heap.objs.size ≤ h'.objs.size → Grow s ⟨h', s2.gens, d, tk, s2.os⟩ := fun k sz => ⟨k, Gz.gens, Gz.bare, sz, Gz.os⟩
      obtain ⟨hp5, gs5, dd5, tk5, os5⟩ := s5
      obtain rfl : gs5 = s2.gens := eg5
      obtain rfl : os5 = s2.os := eo5
      have item : ∀ (T : String), (T = "tuple" ∨ T = "list" ∨ T = "dict") → (Tm.int i).isTy T = false := fun T hT => by rcases hT with rfl | rfl | rfl <;> simp [Tm.isTy, Tm.ty]
      have stepT : i5 < 3 → ∃ T, (T = "tuple" ∨ T = "list" ∨ T = "dict") ∧ (#[Value.type "tuple", .type "list", .type "dict"] : Array Value)[i5]? = some (.type T) := fun hi => by
        rcases i5 with _ | _ | _ | i6
        · exact ⟨"tuple", .inl rfl, rfl⟩
        · exact ⟨"list", .inr (.inl rfl), rfl⟩
        · exact ⟨"dict", .inr (.inr rfl), rfl⟩
        · omega
      by_cases hi : i5 < 3
      · obtain ⟨T, hT, hx⟩ := stepT hi
        refine next_tuple_item HI5 HT5 hx (fun h6 HI6 sb6 => ?_)
        have F6 := F5.extBut (h' := h6) sb6.extBut itL itg itn
        have HT6 := HT5.extBut sb6.extBut tpn
        refine wpAny_pure ?_
        refine wpAny_assign_Name ?_
        refine st_loc F6 (fun h7 F7 sb7 => ?_)
        have HI7 := HI6.extBut sb7.extBut itL
        have HT7 := HT6.extBut sb7.extBut (Nat.ne_of_gt (Nat.lt_of_lt_of_le (F.ns.lt) Gr2.size))
        repeat walk1
        refine it.call F7.gd F7.on (ko_tm_type Rt.ok hT) (fun tk => ?_)
        rw [item T hT]
        repeat walk1
        exact ih _ _ (by omega) ⟨_, i5 + 1, by omega, rfl, F7, m5o, HI7, HT7, rfl, rfl⟩
      · obtain rfl : i5 = 3 := by omega
        refine next_tuple_end hh HI5 HT5 rfl (fun h6 he6 => ?_)
        have F6 := F5.extBut he6 itL itg itn
        repeat walk1
        exact h _ g _ (fin5 F6.keep (Nat.le_of_lt F6.ns.lt)) .refl F6.on (.inl ⟨Rt.notGen, Rt⟩)
end

end Mine
end
section
open PySem PySem.W PyProof.Rows PySem.Calls
open PySem.W.X (SegX wake_any)
set_option Elab.async false
set_option maxRecDepth 100000
set_option maxHeartbeats 8000000
namespace Mine
set_option pp.maxSteps 600
theorem fill22 : (fun (_ : OpenLaw) (_ : Params → Frag) => True) PySem.Challenge.rw_fe0181_02 hd2.heap_39 := by
  k_fill; trivial
local macro_rules | `(tactic| walk_at "no such word 0") => `(tactic| fail)
local macro_rules | `(tactic| walk_at "eval Name") => `(tactic| first
  | (refine nm_loc (by assumption) (by first | assumption | exact rfl) ?_)
  | (refine nm_glob (by assumption) (by k_is) ?_)
  | (refine nm_built (by assumption) (by k_is) (by boot_by_name) ?_))
local macro_rules | `(tactic| walk_at "callWith ref") => `(tactic| first
  | (refine callWith_K0 (Gd.K (Fx.gd (by assumption))) (by k_is) ?_)
  | (refine callWith_K (Gd.K (Fx.gd (by assumption))) (by k_is) ?_))
local macro_rules | `(tactic| walk_at "And") => `(tactic| ((with_reducible show Frag.In _ _ ∧ _); refine ⟨Gd.K (Fx.gd (by assumption)), ?_⟩; try dsimp only [List.nil_append, List.cons_append]))
local macro_rules | `(tactic| walk_at "room") => `(tactic| (simp only [Around.deeper, Around.in1, Around.mark]; omega))
local macro_rules | `(tactic| walk_at "go") => `(tactic| repeat' (first | (k_unfold; (try dsimp only)) | walk1 | (dsimp only; walk1)))
section
variable {prog : Program} {w : World} {A : Around} {E : Value → Shared → Prop} {s : Shared} {env : Env} {h₀ : Heap} {g : PM} {m : Str → Option Value}
local macro_rules | `(tactic| walk_at "eval Name") => `(tactic| first
  | (refine nm_loc (by assumption) (by first | assumption | exact rfl) ?_)
  | (refine nm_loc (Gn.F (by assumption)) (by first | assumption | exact rfl) ?_)
  | (refine nm_glob (Gn.F (by assumption)) (by k_is) ?_)
  | (refine nm_built (Gn.F (by assumption)) (by k_is) (by boot_by_name) ?_)
  | (refine nm_glob (by assumption) (by k_is) ?_)
  | (refine nm_built (by assumption) (by k_is) (by boot_by_name) ?_))
local macro_rules | `(tactic| walk_at "callWith ref") => `(tactic| first
  | (refine callWith_K0 (Gd.K (Fx.gd (by assumption))) (by k_is) ?_)
  | (refine callWith_K (Gd.K (Fx.gd (by assumption))) (by k_is) ?_)
  | (refine callWith_K0 (Gd.K (Gn.gd (by assumption))) (by k_is) ?_)
  | (refine callWith_K (Gd.K (Gn.gd (by assumption))) (by k_is) ?_))
local macro_rules | `(tactic| walk_at "And") => `(tactic| first
  | ((with_reducible show Frag.In _ _ ∧ _); refine ⟨Gd.K (Fx.gd (by assumption)), ?_⟩; try dsimp only [List.nil_append, List.cons_append])
  | ((with_reducible show Frag.In _ _ ∧ _); refine ⟨Gd.K (Gn.gd (by assumption)), ?_⟩; try dsimp only [List.nil_append, List.cons_append]))
local macro_rules | `(tactic| walk_at "room") => `(tactic| (simp only [over_u, over_d, overL_u, overL_d, overB_u, overB_d, Around.deeper, Around.in1, Around.mark]; omega))
theorem len_dict {d : Addr} {xs : Xs} {Q : Value → Shared → Prop} (on : g.on s.heap) (D : DictAt g d xs) (h : ∀ tk tk', Q (.int xs.length tk) { s with toks := tk' }) : wpAny (model prog w) A (call (.builtin "len") [.ref d]) Q E s := by
  have hT := D.typeIs on
  have low := D.low
  obtain ⟨n, hd⟩ := D.obj
  have hd' := on _ _ hd
  refine call_len_slot hT PySem.F.slot_dict_len (n := (xs.length : Int)) (fun Q' hq => ?_) (by omega) ?_ (h _ _)
  · refine wpAny_call_entry PySem.F.slot_dict_len hT PySem.F.entry_dict_len ?_ (PySem.F.args_dict_len_1 _)
    obtain ⟨hh, gg, dr, t, os⟩ := s
    repeat lk
    rw [if_neg (by rw [low]; exact Bool.false_ne_true)]
    refine wpAny_pure ?_
    have e : ((ents xs).toArray.size : Int) + ((0 : Nat) : Int) = xs.length := by simp [ents]
    show wpAny _ _ (do ret (← mkInt (((ents xs).toArray.size : Int) + ((0 : Nat) : Int)))) _ _ _
    rw [e]
    exact wpAny_ret_mkInt hq
  · have := D.len; omega

theorem RepS.length {g : PM} : ∀ {xs : Xs} {σ : Sub}, RepS g xs σ → xs.length = σ.length
  | [], [], _ => rfl
  | _ :: _, _ :: _, ⟨_, _, r⟩ => by simp [r.length]
  | [], _ :: _, R => R.elim
  | _ :: _, [], R => R.elim

theorem reify_call {n : Nat} {t r : Tm} {σ : Sub} {vt vs : Value} {base : Heap} {outer : List Env} {R : Result → Shared → Prop} (hu : A.units + 5000 < cLine) (hroom : A.depth + 100 < recursionLimit) (U : Up w base g A outer s.heap)
    (hfl : ∀ env ∈ outer, ∀ L, env.frame = some L → L < s.heap.objs.size) (hr : rei n σ t = some r) (h0 : σ = [] → r = t) (Rt : Rep g t vt) (S : SubAt g vs σ) (hn : n + 2 ≤ 3000)
    (h : ∀ g' s' ans, Rep g' r ans → Kp s.heap.objs.size s.gens.size (fun _ => False) s s' → Ext s.heap.objs.size g g' → g'.on s'.heap → base.StaysIn s'.heap → R (.ok (.ret ans)) s') :
    codeAny (model prog w) A (.call (.ref 241) ⟨[vt, vs], []⟩) R s := by
  refine enterB (binds := [("e", vt), ("s", vs)]) U (by k_is) (by k_is) rfl (by omega) (BindsTo.of_eq rfl) (by decide) (locs rfl) (fun h₁ F kk hfr => ?_)
  k_fold
  have Gr1 : Grow s ⟨h₁, s.gens, s.drawn, s.toks + 2, s.os⟩ := ⟨kk, fun _ _ e => e, id, Nat.le_of_lt F.ns.lt, rfl⟩
  have S' := S
  obtain ⟨d, xs, rfl, DD, SS⟩ := S
  repeat walk1
  refine len_dict F.on DD fun tk tk' => ?_
  have el := SS.length
  cases hx : σ with
  | nil =>
    have e0 : (xs.length : Int) = 0 := by rw [el, hx]; rfl
    rw [e0]
    repeat walk1
    obtain rfl := h0 hx
    exact h g _ vt Rt (Gr1.tk _).kp .refl F.on F.keep
  | cons p σ' =>
    have e0 : ¬ (xs.length : Int) = 0 := by rw [el, hx]; simp; omega
    have e1 : ((xs.length : Int) == 0) = false := by simpa using e0
    repeat walk1
    · exfalso
      rename_i q
      exact e0 (by simpa using q)
    repeat walk1
    have F1 : Fx w base g s.heap.objs.size h₁ _ := F
    refine wpAny_call (reify_ok n ?_ ?_ ?_ hr Rt S' F1.gd F1.on fun s3 g3 rv Gr3 X3 on3 W3 => ?_)
    · exact U.hd
    · walk_at "room"
    · walk_at "room"
    have F3 := Fx.after (s := { (⟨h₁, s.gens, s.drawn, s.toks + 2, s.os⟩ : Shared) with toks := tk' + 1 }) F1 Gr3 X3 on3
    dsimp only
    repeat walk1
    have Gz := (Gr1.tk (tk' + 1)).trans Gr3
    have Xz : Ext s.heap.objs.size g g3 := X3.mono Gr1.size
    have lL : s.heap.objs.size < h₁.objs.size := F1.ns.lt
    refine wpAny_call (stream_eval_call (n := h₁.objs.size) (k := s.gens.size) (An := AnT r) (d := n + 2) ?_ ?_ (U.deeper hfl F3 (Nat.le_refl _) rfl (by intro q; cases q) (fun b o _ _ e => ⟨o.slots, Gz.keep b o e⟩) Xz Gz.size) (Nat.le_trans U.bs (Nat.le_of_lt lL)) (fun env' he L' hL' => ?_) Gr3.size (gens_size Gr3.gens) W3 hn fun g4 s4 ans an ng K4 X4 on4 st4 => ?_)
    · walk_at "room"
    · walk_at "room"
    · rcases List.mem_cons.mp he with rfl | he
      · cases hL'; exact lL
      · exact Nat.lt_trans (hfl _ he _ hL') lL
    · exact h g4 s4 ans an (Gz.kp.trans (K4.mono (Nat.le_of_lt lL) (Nat.le_refl _))) (Xz.trans X4 (Nat.le_of_lt lL)) on4 st4
end

end Mine
end
section
open PySem PySem.W PyProof.Rows PySem.Calls
open PySem.W.X (SegX wake_any)
set_option Elab.async false
set_option maxRecDepth 100000
set_option maxHeartbeats 8000000
namespace Mine
set_option pp.maxSteps 600
theorem fill23 : (fun (_ : OpenLaw) (_ : Params → Frag) => True) PySem.Challenge.rw_fe0181_02 hd2.heap_39 := by
  k_fill; trivial
local macro_rules | `(tactic| walk_at "eval Name") => `(tactic| first
  | (refine nm_loc (by assumption) (by first | assumption | exact rfl) ?_)
  | (refine nm_glob (by assumption) (by k_is) ?_)
  | (refine nm_built (by assumption) (by k_is) (by boot_by_name) ?_))
local macro_rules | `(tactic| walk_at "callWith ref") => `(tactic| first
  | (refine callWith_K0 (Gd.K (Fx.gd (by assumption))) (by k_is) ?_)
  | (refine callWith_K (Gd.K (Fx.gd (by assumption))) (by k_is) ?_))
local macro_rules | `(tactic| walk_at "And") => `(tactic| ((with_reducible show Frag.In _ _ ∧ _); refine ⟨Gd.K (Fx.gd (by assumption)), ?_⟩; try dsimp only [List.nil_append, List.cons_append]))
local macro_rules | `(tactic| walk_at "room") => `(tactic| (simp only [Around.deeper, Around.in1, Around.mark]; omega))
local macro_rules | `(tactic| walk_at "go") => `(tactic| repeat' (first | (k_unfold; (try dsimp only)) | walk1 | (dsimp only; walk1)))
section
variable {prog : Program} {w : World} {A : Around} {E : Value → Shared → Prop} {s : Shared} {env : Env} {h₀ : Heap} {g : PM} {m : Str → Option Value}
local macro_rules | `(tactic| walk_at "eval Name") => `(tactic| first
  | (refine nm_loc (by assumption) (by first | assumption | exact rfl) ?_)
  | (refine nm_loc (Gn.F (by assumption)) (by first | assumption | exact rfl) ?_)
  | (refine nm_glob (Gn.F (by assumption)) (by k_is) ?_)
  | (refine nm_built (Gn.F (by assumption)) (by k_is) (by boot_by_name) ?_)
  | (refine nm_glob (by assumption) (by k_is) ?_)
  | (refine nm_built (by assumption) (by k_is) (by boot_by_name) ?_))
local macro_rules | `(tactic| walk_at "callWith ref") => `(tactic| first
  | (refine callWith_K0 (Gd.K (Fx.gd (by assumption))) (by k_is) ?_)
  | (refine callWith_K (Gd.K (Fx.gd (by assumption))) (by k_is) ?_)
  | (refine callWith_K0 (Gd.K (Gn.gd (by assumption))) (by k_is) ?_)
  | (refine callWith_K (Gd.K (Gn.gd (by assumption))) (by k_is) ?_))
local macro_rules | `(tactic| walk_at "And") => `(tactic| first
  | ((with_reducible show Frag.In _ _ ∧ _); refine ⟨Gd.K (Fx.gd (by assumption)), ?_⟩; try dsimp only [List.nil_append, List.cons_append])
  | ((with_reducible show Frag.In _ _ ∧ _); refine ⟨Gd.K (Gn.gd (by assumption)), ?_⟩; try dsimp only [List.nil_append, List.cons_append]))
local macro_rules | `(tactic| walk_at "room") => `(tactic| (simp only [over_u, over_d, overL_u, overL_d, overB_u, overB_d, Around.deeper, Around.in1, Around.mark]; omega))
theorem var_here {M : Model} {h : Heap} (G : Gd w h) : Looks M h (Bind.madeHere "object.__new__" (.ref 185)) () := by
  intro A Q E s k q
  obtain ⟨hh, gg, d, t, os⟩ := s
  have G' := G.keeps k
  have hC := G'.K 185 _ (by k_is)
  have hm : Looks M hh (mroOf (.ref 185)) _ := (looks_clsIn G'.K (by k_is)).andThen .now
  unfold Bind.madeHere Bind.staticBase Bind.madeBy
  repeat lk
  rw [if_neg (by decide +kernel)]
  repeat lk
  rw [if_neg (by decide +kernel)]
  repeat lk
  exact q

theorem new_var {R : Result → Shared → Prop} (G : Gd w s.heap) (hq : R (.ok (.ret (.ref (s.heap.objs.size + 1)))) { s with heap := pushed s.heap 185 }) :
    codeAny (model prog w) A (.call (.builtin "object.__new__") ⟨[.ref 185], []⟩) R s := by
  have here : Looks (model prog w) s.heap (Bind.madeHere "object.__new__" (.ref 185)) () := var_here G
  have hC0 := G.K 185 _ (by k_is)
  have K0 := G.K
  obtain ⟨h, gg, d, t, os⟩ := s
  have F := PySem.F.objNew
  refine codeAny_call_builtin_code (Code.quiet_builtin _ F.quiet) ?_
  simp only [checkBuiltinCall, F.kind, F.split, F.row]
  have top : Looks (model prog w) h (isSubtype (.ref 185) (.type "object")) true := looks_subIn K0 (by k_is)
  have typ : Looks (model prog w) h (isInstance (.ref 185) (.type "type")) true := looks_instIn K0 (by k_is)
  have args : Bind.checkArgs "object.__new__" ⟨.hand, "object.__new__", "__new__", .cls, []⟩ ⟨[.ref 185], []⟩ = pure () := by kernel_rfl
  rw [args]
  repeat (first | simp only [bne_self_eq_false, Bool.false_eq_true, if_false] | lk)
  rw [if_neg (by decide +kernel)]
  repeat lk
  rw [if_neg (by decide +kernel)]
  repeat lk
  refine codeAny_builtin F.entry ?_
  unfold Builtin.«object.__new__»
  have fin : ∀ A', wpAny (model prog w) A' (do
      let d ← if typeHasDict (.ref 185) then some <$> alloc { cls := .type "dict", data := .dict #[] } else pure none
      ret (← newObj (.ref 185) .plain d)) (fun fin s' => match fin with | .done f => R (.ok f) s' | .again c' => c'.quiet = true ∧ codeAny (model prog w) A c' R s') (fun e s' => R (.error e) s') ⟨h, gg, d, t, os⟩ := by
    intro A'
    show wpAny _ _ ((alloc emptyDict >>= fun x => pure (some x)) >>= _) _ _ _
    refine wpAny_bind (wpAny_bind (wpAny_alloc (wpAny_pure (wpAny_bind ?_))))
    show wpAny _ _ (newObjAsIs _ _ _) _ _ _
    unfold newObjAsIs classHasDel
    refine wpAny_bind (wpAny_alloc (wpAny_bind (wpAny_bind (wpAny_load (Heap.get?_push_of_some _ (Heap.get?_push_of_some _ hC0)) (wpAny_pure ?_)))))
    refine wpAny_pure (wpAny_pure ?_)
    show R _ _
    rw [Heap.size_push]
    exact hq
  repeat (first | simp only [Bool.false_eq_true, if_false] | exact fin _ | lk)
end

end Mine
end
section
open PySem PySem.W PyProof.Rows PySem.Calls
open PySem.W.X (SegX wake_any)
set_option Elab.async false
set_option maxRecDepth 100000
set_option maxHeartbeats 8000000
namespace Mine
set_option pp.maxSteps 600
theorem fill24 : (fun (_ : OpenLaw) (_ : Params → Frag) => True) PySem.Challenge.rw_fe0181_02 hd2.heap_39 := by
  k_fill; trivial
local macro_rules | `(tactic| walk_at "no such word 0") => `(tactic| fail)
local macro_rules | `(tactic| walk_at "eval Name") => `(tactic| first
  | (refine nm_loc (by assumption) (by first | assumption | exact rfl) ?_)
  | (refine nm_glob (by assumption) (by k_is) ?_)
  | (refine nm_built (by assumption) (by k_is) (by boot_by_name) ?_))
local macro_rules | `(tactic| walk_at "callWith ref") => `(tactic| first
  | (refine callWith_K0 (Gd.K (Fx.gd (by assumption))) (by k_is) ?_)
  | (refine callWith_K (Gd.K (Fx.gd (by assumption))) (by k_is) ?_))
local macro_rules | `(tactic| walk_at "And") => `(tactic| ((with_reducible show Frag.In _ _ ∧ _); refine ⟨Gd.K (Fx.gd (by assumption)), ?_⟩; try dsimp only [List.nil_append, List.cons_append]))
local macro_rules | `(tactic| walk_at "room") => `(tactic| (simp only [Around.deeper, Around.in1, Around.mark]; omega))
local macro_rules | `(tactic| walk_at "go") => `(tactic| repeat' (first | (k_unfold; (try dsimp only)) | walk1 | (dsimp only; walk1)))
section
variable {prog : Program} {w : World} {A : Around} {E : Value → Shared → Prop} {s : Shared} {env : Env} {h₀ : Heap} {g : PM} {m : Str → Option Value}
local macro_rules | `(tactic| walk_at "eval Name") => `(tactic| first
  | (refine nm_loc (by assumption) (by first | assumption | exact rfl) ?_)
  | (refine nm_loc (Gn.F (by assumption)) (by first | assumption | exact rfl) ?_)
  | (refine nm_glob (Gn.F (by assumption)) (by k_is) ?_)
  | (refine nm_built (Gn.F (by assumption)) (by k_is) (by boot_by_name) ?_)
  | (refine nm_glob (by assumption) (by k_is) ?_)
  | (refine nm_built (by assumption) (by k_is) (by boot_by_name) ?_))
local macro_rules | `(tactic| walk_at "callWith ref") => `(tactic| first
  | (refine callWith_K0 (Gd.K (Fx.gd (by assumption))) (by k_is) ?_)
  | (refine callWith_K (Gd.K (Fx.gd (by assumption))) (by k_is) ?_)
  | (refine callWith_K0 (Gd.K (Gn.gd (by assumption))) (by k_is) ?_)
  | (refine callWith_K (Gd.K (Gn.gd (by assumption))) (by k_is) ?_))
local macro_rules | `(tactic| walk_at "And") => `(tactic| first
  | ((with_reducible show Frag.In _ _ ∧ _); refine ⟨Gd.K (Fx.gd (by assumption)), ?_⟩; try dsimp only [List.nil_append, List.cons_append])
  | ((with_reducible show Frag.In _ _ ∧ _); refine ⟨Gd.K (Gn.gd (by assumption)), ?_⟩; try dsimp only [List.nil_append, List.cons_append]))
local macro_rules | `(tactic| walk_at "room") => `(tactic| (simp only [over_u, over_d, overL_u, overL_d, overB_u, overB_d, Around.deeper, Around.in1, Around.mark]; omega))
theorem get_object_new {A' : Around} {E' : Value → Shared → Prop} {s' : Shared} {pl : Sem Bool} {Q' : Value × List Value → Shared → Prop} (G : Gd w s'.heap) (q : Q' (.builtin "object.__new__", []) { s' with toks := s'.toks + 1 }) : wpAny (model prog w) A' (getMethod (.type "object") "__new__" pl) Q' E' s' := by
  have X := G.K
  unfold getMethod
  refine wpAny_bind (Looks.here (r := some (.builtin "type.__getattribute__")) (Looks.of_pure (by kernel_rfl)) ?_)
  dsimp only
  rw [if_pos canon_tga]
  refine wpAny_bind (wpAny_mono (Q := fun v s => Q' (v, []) s) (E := fun _ _ => False) ?_ (fun _ _ z => wpAny_pure z) fun _ _ z => z.elim)
  refine cls_open (c := .type "object") (mc := .type "type") (hook := none) (r := .val (.builtin "object.__new__")) X (Looks.of_pure (by kernel_rfl)) (Looks.of_pure (by kernel_rfl)) (by k_is) (looks_hook X (r := none) (by rfl)) (by show subIn _ _ _ = _; rfl) (by k_is) ?_
  refine wpAny_pure ?_
  show wpAny _ _ (handedOut _) _ _ _
  rw [handedOut_of (by decide +kernel)]
  exact wpAny_pure q

theorem ins_pair {h h' : Heap} {dx x : Addr} {od ox : Obj} (on : g.on h) (k : ∀ b o, h.get? b = some o → h'.get? b = some o) (hd : h'.get? dx = some od) (hx : h'.get? x = some ox) (l1 : h.objs.size ≤ dx) (l2 : h.objs.size ≤ x) (ne : x ≠ dx) :
    Ext h.objs.size g ((g.ins dx od).ins x ox) ∧ PM.on ((g.ins dx od).ins x ox) h' ∧ h.objs.size ≤ h'.objs.size := by
  have n0 : ∀ b, h.objs.size ≤ b → g b = none := fun b hb => by
    cases q : g b with
    | none => rfl
    | some o => exact absurd (Heap.lt_size (on _ _ q)) (Nat.not_lt.mpr hb)
  refine ⟨(Ext.ins l1 (n0 _ l1)).trans (Ext.ins l2 ?_) (Nat.le_refl _), fun b o e => ?_, Nat.le_trans l1 (Nat.le_of_lt (Heap.lt_size hd))⟩
  · unfold PM.ins
    rw [if_neg ne]; exact n0 _ l2
  · unfold PM.ins at e
    by_cases q : b = x
    · rw [if_pos q] at e; cases e; rw [q]; exact hx
    · rw [if_neg q] at e
      by_cases q' : b = dx
      · rw [if_pos q'] at e; cases e; rw [q']; exact hd
      · rw [if_neg q'] at e; exact k _ _ (on _ _ e)
theorem var_new {k : Int} {tk : Tok} {R : Result → Shared → Prop} (hu : A.units + 100 < cLine) (hroom : A.depth + 5 < recursionLimit) (G : Gd w s.heap) (on : g.on s.heap)
    (h : ∀ s' g' x dx, Grow s s' → s.toks ≤ s'.toks → Ext s.heap.objs.size g g' → g'.on s'.heap → VarAt g' x k → s'.heap.get? x = some (instObj 185 dx) → R (.ok (.ret (.ref x))) s') : codeAny (model prog w) A (.call (.ref 161) ⟨[.ref 185, .int k tk], []⟩) R s := by
  refine enterN (binds := [("cls", .ref 185), ("token", .int k tk), ("prefix", _)]) G (by k_is) (by k_is) rfl (by omega) (BindsTo.of_defaults rfl (G.K _ _ (by k_is)) rfl rfl rfl) (by decide) (locs rfl) on (fun h₁ F => ?_)
  k_fold
  repeat walk1
  refine get_object_new (Fx.gd (by assumption)) ?_
  repeat walk1
  rename Fx _ _ _ _ _ _ => F1
  refine wpAny_call (new_var F1.gd ?_)
  dsimp only
  have kp := pushed_keep h₁ 185
  have F2 := F1.after0 (s := ⟨h₁, s.gens, s.drawn, s.toks, s.os⟩) (s' := ⟨pushed h₁ 185, s.gens, s.drawn, s.toks, s.os⟩) ⟨kp, fun _ _ e => e, id, by rw [pushed_size]; simp, rfl⟩
  refine st_loc F2 (fun h2 F3 sb => ?_)
  have lL : s.heap.objs.size < h₁.objs.size := F1.ns.lt
  have nh : ∀ b, s.heap.objs.size ≤ b → s.heap.get? b = none := fun b hb => by
    cases q : s.heap.get? b with
    | none => rfl
    | some o => exact absurd (Heap.lt_size q) (Nat.not_lt.mpr hb)
  have n1 : h₁.objs.size + 1 ≠ s.heap.objs.size := by omega
  have n2 : h₁.objs.size ≠ s.heap.objs.size := by omega
  have k2 : ∀ b o, b ≠ s.heap.objs.size → (pushed h₁ 185).get? b = some o → h2.get? b = some o := fun b o ne e => sb.extBut b o ne e
  have p1 : (pushed h₁ 185).get? (h₁.objs.size + 1) = some (instObj 185 h₁.objs.size) := by unfold pushed; heap_get
  have p2 : (pushed h₁ 185).get? h₁.objs.size = some (dictOf [] 0) := by unfold pushed; heap_get
  have FF : Fr s.heap s.heap.objs.size h2 _ := ⟨F3.ns, F3.keep, Nat.le_refl _⟩
  have NN : News s.heap s.heap.objs.size h2 [(h₁.objs.size + 1, instObj 185 h₁.objs.size), (h₁.objs.size, dictOf [] 0)] := by
    intro p hp
    rcases List.mem_cons.mp hp with rfl | hp
    · exact ⟨k2 _ _ n1 p1, n1, nh _ (by show s.heap.objs.size ≤ h₁.objs.size + 1; omega)⟩
    · rcases List.mem_cons.mp hp with rfl | hp
      · exact ⟨k2 _ _ n2 p2, n2, nh _ (by show s.heap.objs.size ≤ h₁.objs.size; omega)⟩
      · cases hp
  have X0 : (hd2.heap_39 w.params).In s.heap := G.K
  have ne1 : h₁.objs.size + 1 ≠ h₁.objs.size := by omega
  clear k2 p1 p2 sb F1 F2 kp
  repeat walk1
  rename Fr _ _ _ _ => F9
  rename News _ _ _ _ => N9
  have hx := (N9 _ (.head _)).1
  have hd := (N9 _ (.tail _ (.head _))).1
  obtain ⟨e1, e2, e3⟩ := ins_pair on F9.keep hd hx (by omega) (by omega) ne1
  refine h _ _ _ _ ⟨F9.keep, fun _ _ e => e, id, e3, rfl⟩ (by simp only [Nat.add_assoc]; exact Nat.le_add_right _ _) e1 e2 ⟨h₁.objs.size, _, _, _, _, _, PM.ins_self _ _ _, (PM.ins_ne _ _ (by simp)).trans (PM.ins_self _ _ _)⟩ hx
theorem var_madeBy {M : Model} {h : Heap} (G : Gd w h) : Looks M h (Bind.madeBy (.ref 185)) none := by
  intro A Q E s k q
  obtain ⟨hh, gg, d, t, os⟩ := s
  have G' := G.keeps k
  have hC := G'.K 185 _ (by k_is)
  have hm : Looks M hh (mroOf (.ref 185)) _ := (looks_clsIn G'.K (by k_is)).andThen .now
  unfold Bind.madeBy
  repeat lk
  exact q
theorem var_make {k : Int} {tk : Tok} {R : Result → Shared → Prop} (hu : A.units + 200 < cLine) (hroom : A.depth + 10 < recursionLimit) (G : Gd w s.heap) (on : g.on s.heap)
    (h : ∀ s' g' x, Grow s s' → s.toks ≤ s'.toks → Ext s.heap.objs.size g g' → g'.on s'.heap → VarAt g' x k → R (.ok (.ret (.ref x))) s') : codeAny (model prog w) A (.call (.ref 185) ⟨[.int k tk], []⟩) R s := by
  have hC0 := G.K 185 _ (by k_is)
  have K0 := G.K
  have call : Looks (model prog w) s.heap (specialOf (.ref 185) "__call__") (some (.builtin "type.__call__")) := looks_specialIn K0 (by k_is)
  have typ : Looks (model prog w) s.heap (isInstance (.ref 185) (.type "type")) true := looks_instIn K0 (by k_is)
  have made := var_madeBy (M := model prog w) G
  refine codeAny_of_tree ?_
  show wpAny _ _ (callAny (.ref 185) _) _ _ _
  refine nd_load hC0 ?_
  show wpAny _ _ (callAny.viaDunder (.ref 185) _) _ _ _
  unfold callAny.viaDunder
  refine wpAny_bind (call.at ?_)
  dsimp only
  rw [tc_bind]
  refine wpAny_bind (wpAny_pure (wpAny_bind (wpAny_pure ?_)))
  refine wpAny_pure (a := Fin.again (.call (.builtin "type.__call__") ⟨.ref 185 :: [.int k tk], []⟩)) (And.intro rfl ?_)
  refine codeAny_call_builtin_at (Code.quiet_builtin _ (by decide +kernel)) entry_typeCall (check_slot tc_kind tc_split typ (tc_args _ _ _) ?_)
  unfold Builtin.«type.__call__»
  have hm : Looks (model prog w) s.heap (mroOf (.ref 185)) _ := ((Looks.ld (part := none) hC0).andThen .now).andThen .now
  have oi : Looks (model prog w) s.heap (typeLookup (.ref 185) "__init__") (some (.builtin "object.__init__")) := looks_findIn K0 (by k_is)
  obtain ⟨hh, gg, d, t, os⟩ := s
  have new : ∀ {A' : Around} {Q : Value → Shared → Prop} {E : Value → Shared → Prop}, Q (.ref 161) ⟨hh, gg, d, t + 1, os⟩ → wpAny (model prog w) A' (getAttr (.ref 185) "__new__") Q E ⟨hh, gg, d, t, os⟩ := by
    intro A' Q E q
    exact cls_bind (mc := .type "type") (g := .builtin "staticmethod.__get__") (a := .ref 186) (obj := .none) (tp := .ref 185) K0 (by k_is) (by k_is) (wpAny_call (sm_get (rest := _) (s := ⟨hh, gg, d, t + 1, os⟩) K0 (by k_is) (handed_on (by decide +kernel) q)))
  repeat (first | (with_reducible refine new ?_) | (with_reducible refine wpAny_call ?_) | lk)
  refine var_new (s := ⟨hh, gg, d, t + 1, os⟩) ?_ ?_ G on fun s2 g2 x dx Gr tk2 X2 on2 V hx => ?_
  · rw [units_under_make]; omega
  · rw [depth_under_make]; omega
  have K2 := K0.keeps Gr.keep
  have k2 := Gr.keep
  obtain ⟨h2, gg2, d2, t2, os2⟩ := s2
  have made2 := var_madeBy (M := model prog w) (G.keeps k2)
  have t1 : Looks (model prog w) h2 (typeOf (.ref x)) (.ref 185) := (Looks.ld hx).andThen .now
  have t3 : Looks (model prog w) h2 (isSubtype (.ref 185) (.ref 185)) true := looks_subIn K2 (by k_is)
  have t4 : Looks (model prog w) h2 (isSubtype (.ref 185) (.type "object")) true := looks_subIn K2 (by k_is)
  have o2 := oi.keeps k2
  have ib : Looks (model prog w) h2 (isInstance (.ref x) (.ref 185)) true := t1.andThen t3
  have io : Looks (model prog w) h2 (isInstance (.ref x) (.type "object")) true := t1.andThen t4
  have b1 : Looks (model prog w) h2 (bindSpecial (.builtin "object.__init__") (.ref x)) (.builtin "object.__init__", [.ref x]) := Looks.of_pure (oi_bind (.ref x))
  dsimp only
  have fin := h ⟨h2, gg2, d2, t2, os2⟩ g2 x ⟨Gr.keep, Gr.gens, Gr.bare, Gr.size, Gr.os⟩ (Nat.le_of_succ_le tk2) X2 on2 V
  unfold callSpecial? specialOf
  repeat (first | (with_reducible refine wpAny_call ?_) | lk)
  refine codeAny_call_builtin oi_plain entry_oi (@check_slot (model prog w) _ _ _ "object.__init__" "object" "__init__" (.ref x) [.int k tk] [] _ oi_kind oi_split io (by unfold argsOk; kernel_rfl) ?_)
  unfold Builtin.«object.__init__»
  simp only [List.cons_append, List.nil_append, List.isEmpty_cons, Bool.not_false, Bool.true_or, if_true]
  repeat lk
  exact fin
end

end Mine
end
section
open PySem PySem.W PyProof.Rows PySem.Calls
open PySem.W.X (SegX wake_any)
set_option Elab.async false
set_option maxRecDepth 100000
set_option maxHeartbeats 8000000
namespace Mine
set_option pp.maxSteps 600
theorem fill25 : (fun (_ : OpenLaw) (_ : Params → Frag) => True) PySem.Challenge.rw_fe0181_02 hd2.heap_39 := by
  k_fill; trivial
local macro_rules | `(tactic| walk_at "eval Name") => `(tactic| first
  | (refine nm_loc (by assumption) (by first | with_reducible assumption | assumption | exact rfl) ?_)
  | (refine nm_glob (by assumption) (by k_is) ?_)
  | (refine nm_built (by assumption) (by k_is) (by boot_by_name) ?_))
local macro_rules | `(tactic| walk_at "callWith ref") => `(tactic| first
  | (refine callWith_K0 (Gd.K (Fx.gd (by assumption))) (by k_is) ?_)
  | (refine callWith_K (Gd.K (Fx.gd (by assumption))) (by k_is) ?_))
local macro_rules | `(tactic| walk_at "And") => `(tactic| ((with_reducible show Frag.In _ _ ∧ _); refine ⟨Gd.K (Fx.gd (by assumption)), ?_⟩; try dsimp only [List.nil_append, List.cons_append]))
local macro_rules | `(tactic| walk_at "room") => `(tactic| (simp only [Around.deeper, Around.in1, Around.mark]; omega))
local macro_rules | `(tactic| walk_at "go") => `(tactic| repeat' (first | (k_unfold; (try dsimp only)) | walk1 | (dsimp only; walk1)))
section
variable {prog : Program} {w : World} {A : Around} {E : Value → Shared → Prop} {s : Shared} {env : Env} {h₀ : Heap} {g : PM} {m : Str → Option Value}
local macro_rules | `(tactic| walk_at "eval Name") => `(tactic| first
  | (refine nm_loc (by assumption) (by first | assumption | exact rfl) ?_)
  | (refine nm_loc (Gn.F (by assumption)) (by first | assumption | exact rfl) ?_)
  | (refine nm_glob (Gn.F (by assumption)) (by k_is) ?_)
  | (refine nm_built (Gn.F (by assumption)) (by k_is) (by boot_by_name) ?_)
  | (refine nm_glob (by assumption) (by k_is) ?_)
  | (refine nm_built (by assumption) (by k_is) (by boot_by_name) ?_))
local macro_rules | `(tactic| walk_at "callWith ref") => `(tactic| first
  | (refine callWith_K0 (Gd.K (Fx.gd (by assumption))) (by k_is) ?_)
  | (refine callWith_K (Gd.K (Fx.gd (by assumption))) (by k_is) ?_)
  | (refine callWith_K0 (Gd.K (Gn.gd (by assumption))) (by k_is) ?_)
  | (refine callWith_K (Gd.K (Gn.gd (by assumption))) (by k_is) ?_))
local macro_rules | `(tactic| walk_at "And") => `(tactic| first
  | ((with_reducible show Frag.In _ _ ∧ _); refine ⟨Gd.K (Fx.gd (by assumption)), ?_⟩; try dsimp only [List.nil_append, List.cons_append])
  | ((with_reducible show Frag.In _ _ ∧ _); refine ⟨Gd.K (Gn.gd (by assumption)), ?_⟩; try dsimp only [List.nil_append, List.cons_append]))
local macro_rules | `(tactic| walk_at "room") => `(tactic| (simp only [over_u, over_d, overL_u, overL_d, overB_u, overB_d, Around.deeper, Around.in1, Around.mark]; omega))

theorem range_item' {it : Addr} {x left step : Int} {o : Obj} {Q : Option Value → Shared → Prop} (ho : s.heap.get? it = some o) (hc : o.cls = .type "range_iterator") (hd : o.data = .fields #[rawInt x, rawInt left, rawInt step]) (hleft : 0 < left)
    (hQ : ∀ h' tk t, (∃ o', h'.get? it = some o' ∧ o'.cls = .type "range_iterator" ∧ o'.data = .fields #[rawInt (x + step), rawInt (left - 1), rawInt step]) → Heap.SameBut it s.heap h' → s.toks ≤ tk → Q (some (.int x t)) { s with heap := h', toks := tk }) :
    wpAny (model prog w) A (pyNext (.ref it)) Q E s := by
  have hT : s.TypeIs (.ref it) "range_iterator" := ⟨_, ho, hc⟩
  unfold pyNext
  refine wpAny_bind (wpAny_attempt (wpAny_callSpecial?_slot (name := Str.ofString "__next__") hT PySem.F.slot_range_iterator_next
    (wpAny_call_entry PySem.F.slot_range_iterator_next hT PySem.F.entry_range_iterator_next ?_ (PySem.F.args_range_iterator_next_1 _))))
  show wpAny _ _ (field (.ref it) 0 >>= _) _ _ s
  refine wpAny_bind (wpAny_field ho hd (x := rawInt x) rfl ?_)
  show wpAny _ _ (field (.ref it) 1 >>= _) _ _ s
  refine wpAny_bind (wpAny_field ho hd (x := rawInt left) rfl ?_)
  show wpAny _ _ (field (.ref it) 2 >>= _) _ _ s
  refine wpAny_bind (wpAny_field ho hd (x := rawInt step) rfl ?_)
  show wpAny _ _ (if left ≤ 0 then _ else _) _ _ s
  rw [if_neg (by omega)]
  refine wpAny_bind (wpAny_setField ho hd (by simp) ?_)
  have e1 : (s.heap.update it (Obj.mapFields (·.setIfInBounds 0 (rawInt (x + step))))).get? it = some (Obj.mapFields (·.setIfInBounds 0 (rawInt (x + step))) o) := Heap.get?_update_self _ ho (Obj.isFreed_of_fields (Obj.data_mapFields hd _))
  have d1 := Obj.data_mapFields hd (·.setIfInBounds 0 (rawInt (x + step)))
  refine wpAny_bind (wpAny_setField e1 d1 (by simp) ?_)
  have e2 := Heap.get?_update_self (Obj.mapFields (·.setIfInBounds 1 (rawInt (left - 1)))) e1 (Obj.isFreed_of_fields (Obj.data_mapFields d1 _))
  have d2 := Obj.data_mapFields d1 (·.setIfInBounds 1 (rawInt (left - 1)))
  have sb : Heap.SameBut it s.heap ((s.heap.update it (Obj.mapFields (·.setIfInBounds 0 (rawInt (x + step))))).update it (Obj.mapFields (·.setIfInBounds 1 (rawInt (left - 1))))) := (Heap.SameBut.update ..).trans (Heap.SameBut.update ..)
  have fin := fun tk t k => hQ _ tk t ⟨_, e2, by rw [Obj.cls_mapFields, Obj.cls_mapFields, hc], by rw [d2]; simp⟩ sb k
  unfold retInt
  refine wpAny_bind (wpAny_mkInt ?_)
  exact wpAny_pure ⟨_, rfl, wpAny_pure (fin _ _ (Nat.le_succ _))⟩

theorem append' {D : Addr} {o : Obj} {its : Array Value} {n : Nat} {x : Value} {Q : Value → Shared → Prop} (ho : s.heap.get? D = some o) (hc : o.cls = .type "list") (hd : o.data = .seq its n)
    (h : ∀ h', Heap.SameBut D s.heap h' → (∃ o', h'.get? D = some o' ∧ o'.cls = .type "list" ∧ o'.data = .seq (its.push x) (n + 1)) → Q .none { s with heap := h' })
    (hsz : its.size ≤ sizeLine) : wpAny (model prog w) A (call (.builtin "list.append") [.ref D, x]) Q E s := by
  obtain ⟨c, d, dt, sl⟩ := o
  dsimp only at hc hd
  subst hc hd
  refine wpAny_call_entry slot_list_append ⟨_, ho, rfl⟩ entry_list_append ?_ (args_list_append _ _)
  show wpAny _ _ (updateSeq D (·.push x) >>= fun _ => ret .none) _ _ s
  refine wpAny_bind ?_
  refine wpAny_updateSeq ho rfl (wpAny_pure ⟨.none, rfl, h _ (Heap.SameBut.update ..) ⟨{ cls := .type "list", dict := d, data := .seq (its.push x) (n + 1), slots := sl }, ?_, rfl, rfl⟩⟩)
  · rw [Heap.get?_update_self _ ho (by rw [mapSeq_push]; rfl), mapSeq_push]

/-- what a turn of the law's own code leaves behind -/
structure Tn (tm : Prop) (base : Heap) (g g' : PM) (s s' : Shared) : Prop where
  kp : Kp s.heap.objs.size s.gens.size (fun _ => False) s s'
  ext : Ext s.heap.objs.size g g'
  on : g'.on s'.heap
  stays : base.StaysIn s'.heap
  tok : tm → s.toks ≤ s'.toks
theorem Tn.refl {tm : Prop} {base : Heap} (on : g.on s.heap) (st : base.StaysIn s.heap) : Tn tm base g g s s := ⟨.refl, .refl, on, st, fun _ => Nat.le_refl _⟩
theorem Tn.trans {tm : Prop} {base : Heap} {g' g'' : PM} {s' s'' : Shared} (x : Tn tm base g g' s s') (y : Tn tm base g' g'' s' s'') : Tn tm base g g'' s s'' :=
  ⟨x.kp.trans (y.kp.mono x.kp.size x.kp.gsize), x.ext.trans y.ext x.kp.size, y.on, y.stays, fun h => Nat.le_trans (x.tok h) (y.tok h)⟩
theorem Tn.grow {tm : Prop} {base : Heap} {g' : PM} {s' : Shared} (Gr : Grow s s') (X : Ext s.heap.objs.size g g') (on : g'.on s'.heap) (st : base.StaysIn s.heap) (tok : tm → s.toks ≤ s'.toks) : Tn tm base g g' s s' := ⟨Gr.kp, X, on, fun b o e => Gr.keep b o (st b o e), tok⟩
theorem Fx.tn {tm : Prop} {base : Heap} {g' : PM} {L : Addr} {s' : Shared} (F : Fx w base g L s.heap m) (T : Tn tm base g g' s s') : Fx w base g' L s'.heap m :=
  ⟨T.kp.sl.ns F.ns F.ns.lt id, T.on, by
    cases q : g' L with
    | none => rfl
    | some o => exact (T.ext.new _ _ q).elim (fun e => by rw [F.off] at e; cases e) fun e => absurd F.ns.lt (Nat.not_lt.mpr e), T.stays, F.above, F.gd₀⟩

/-- a source of items that stands changes of slots -/
structure Src (prog : Program) (w : World) (A : Around) (I : Addr) (fp : List Addr) (n : Nat) (P : Nat → Value → Prop) (St : Nat → Heap → Prop) : Prop where
  inI : I ∈ fp
  slk : ∀ i h h', St i h → (∀ b ∈ fp, ∀ o, h.get? b = some o → ∃ sl, h'.get? b = some { o with slots := sl }) → St i h'
  item : ∀ i (s : Shared) (Q : Option Value → Shared → Prop) (E : Value → Shared → Prop), i < n → St i s.heap →
    (∀ v h' tk, P i v → St (i + 1) h' → (∀ b o, b ≠ I → s.heap.get? b = some o → h'.get? b = some o) → s.toks ≤ tk → Q (some v) { s with heap := h', toks := tk }) → wpAny (model prog w) A (pyNext (.ref I)) Q E s
  done : ∀ (s : Shared) (Q : Option Value → Shared → Prop) (E : Value → Shared → Prop), St n s.heap →
    (∀ h' tk, (∀ b o, b ≠ I → s.heap.get? b = some o → h'.get? b = some o) → s.toks ≤ tk → Q none { s with heap := h', toks := tk }) → wpAny (model prog w) A (pyNext (.ref I)) Q E s
  self : ∀ i (s : Shared) (Q : Value → Shared → Prop) (E : Value → Shared → Prop), St i s.heap → Q (.ref I) s → wpAny (model prog w) A (pyIter (.ref I)) Q E s
  lt : ∀ i h, St i h → ∀ b ∈ fp, b < h.objs.size

theorem Src.list (hh : A.handled = none) (I ax : Addr) (hne : ax ≠ I) (items : Array Value) :
    Src prog w A I [I, ax] items.size (fun i v => items[i]? = some v) (fun i h => h.IsListIter I ax i ∧ h.IsList ax items) where
  inI := .head _
  slk := fun i h h' st k => by
    obtain ⟨⟨o, h1, h2, h3⟩, ⟨o', h4, h5, n, h6⟩⟩ := st
    obtain ⟨sl, e1⟩ := k I (.head _) o h1
    obtain ⟨sl', e2⟩ := k ax (.tail _ (.head _)) o' h4
    exact ⟨⟨_, e1, h2, h3⟩, ⟨_, e2, h5, n, h6⟩⟩
  item := fun i s Q E hi st hQ => wpAny_pyNext_list_item st.1 st.2 (x := items[i]) (by simp [hi]) fun h' hit' hs' => hQ _ h' s.toks (by simp [hi]) ⟨hit', st.2.extBut hs'.extBut hne⟩ (fun b o hb e => hs'.extBut b o hb e) (Nat.le_refl _)
  done := fun s Q E st hQ => wpAny_pyNext_list_end hh st.1 st.2 (by simp) fun h' he' => hQ h' s.toks (fun b o hb e => he' b o hb e) (Nat.le_refl _)
  self := fun i s Q E st q => (Walks.list hh I ax hne items).self i s Q E st q
  lt := fun i h st b hb => by
    obtain ⟨⟨o, h1, h2, h3⟩, ⟨o', h4, h5, n, h6⟩⟩ := st
    rcases List.mem_cons.mp hb with rfl | hb
    · exact Heap.lt_size h1
    · rw [List.mem_singleton.mp hb]; exact Heap.lt_size h4


def RIt (h : Heap) (I : Addr) (x left : Int) : Prop := ∃ o, h.get? I = some o ∧ o.cls = .type "range_iterator" ∧ o.data = .fields #[rawInt x, rawInt left, rawInt 1]
theorem Src.range (hh : A.handled = none) (I : Addr) (n : Nat) :
    Src prog w A I [I] n (fun i v => ∃ t, v = .int (i : Int) t) (fun i h => RIt h I (i : Int) ((n : Int) - (i : Int))) where
  inI := .head _
  slk := fun i h h' st k => by
    obtain ⟨o, h1, h2, h3⟩ := st
    obtain ⟨sl, e1⟩ := k I (.head _) o h1
    exact ⟨_, e1, h2, h3⟩
  item := fun i s Q E hi st hQ => by
    obtain ⟨o, h1, h2, h3⟩ := st
    refine range_item' h1 h2 h3 (by omega) fun h' tk t x sb le => hQ _ h' tk ⟨t, rfl⟩ ?_ (fun b o ne e => sb.extBut b o ne e) le
    obtain ⟨o', q1, q2, q3⟩ := x
    refine ⟨o', q1, q2, ?_⟩
    rw [q3]
    rw [show (i : Int) + 1 = ((i + 1 : Nat) : Int) by omega, show (n : Int) - i - 1 = (n : Int) - ((i + 1 : Nat) : Int) by omega]
  done := fun s Q E st hQ => by
    obtain ⟨o, h1, h2, h3⟩ := st
    have hT : s.TypeIs (.ref I) "range_iterator" := ⟨_, h1, h2⟩
    unfold pyNext
    refine wpAny_bind (wpAny_attempt (wpAny_callSpecial?_slot (name := Str.ofString "__next__") hT PySem.F.slot_range_iterator_next
      (wpAny_call_entry PySem.F.slot_range_iterator_next hT PySem.F.entry_range_iterator_next ?_ (PySem.F.args_range_iterator_next_1 _))))
    show wpAny _ _ (field (.ref I) 0 >>= _) _ _ s
    refine wpAny_bind (wpAny_field h1 h3 (x := rawInt n) rfl ?_)
    show wpAny _ _ (field (.ref I) 1 >>= _) _ _ s
    refine wpAny_bind (wpAny_field h1 h3 (x := rawInt ((n : Int) - n)) rfl ?_)
    show wpAny _ _ (field (.ref I) 2 >>= _) _ _ s
    refine wpAny_bind (wpAny_field h1 h3 (x := rawInt 1) rfl ?_)
    show wpAny _ _ (if (n : Int) - n ≤ 0 then _ else _) _ _ s
    rw [if_pos (by omega)]
    refine wpAny_bind (wpAny_rule ?_)
    refine wpAny_bind ?_
    show wpAny _ _ (newExc (.type "StopIteration") [] >>= _) _ _ _
    refine wpAny_bind ?_
    simp only [newExc, newTuple]
    refine wpAny_bind (wpAny_newObj_type ?_ (by size_fits))
    refine wpAny_bind (m := firstArgMember _ _) (wpAny_of_eq (a := Value.none) (by first | rfl | (simp only [firstArgMember]; rfl)) ?_)
    refine wpAny_newObj_type ?_ (by size_fits)
    simp only [raiseNew]
    refine wpAny_bind (wpAny_handled ?_)
    rw [show A.in1.handled = none from hh]
    refine wpAny_bind (wpAny_pure (wpAny_throw ?_))
    refine wpAny_bind (wpAny_isInstance (T := "StopIteration") (b := true) ⟨_, Heap.get?_push_size _ rfl, rfl⟩ isSubtype_stop ?_)
    exact wpAny_pure (hQ _ _ (fun b o _ e => Heap.get?_push_of_some _ (Heap.get?_push_of_some _ e)) (Nat.le_refl _))
  self := fun i s Q E st q => by
    obtain ⟨o, h1, h2, h3⟩ := st
    have hT : s.TypeIs (.ref I) "range_iterator" := ⟨_, h1, h2⟩
    refine wpAny_pyIter_slot hT PySem.F.slot_range_iterator_iter (wpAny_call_entry PySem.F.slot_range_iterator_iter hT PySem.F.entry_range_iterator_iter ?_ (PySem.F.args_range_iterator_iter_1 _))
    show wpAny _ _ (ret (.ref I)) _ _ s
    exact wpAny_pure ⟨_, rfl, "range_iterator", _, hT, PySem.F.slot_range_iterator_next.lookup, q⟩
  lt := fun i h st b hb => by
    obtain ⟨o, h1, h2, h3⟩ := st
    rw [List.mem_singleton.mp hb]; exact Heap.lt_size h1

theorem loop_at {e : Expr} {elt : Expr} {gens : List Comprehension} {scope : Scope} {pos : Pos} (he : e = .ListComp elt gens scope pos) {d : Nat} {target iter : Expr} {ifs : List Expr} {acc : Value} {act : Sem Unit} {I : Addr} {fp : List Addr} {n : Nat} {P : Nat → Value → Prop} {St : Nat → Heap → Prop}
    {R : Result → Shared → Prop} (J : Nat → Shared → Prop)
    (heq : compTurn e d (.ref I) acc env = (do
      standAt iter.pos
      match ← pyNext (.ref I) with
      | none => pure (.done .next)
      | some v =>
        letOwnedTupleGo target (.ref I) v
        assign target env v
        let mut ok := true
        for c in ifs do
          if ok then ok ← isTrue c env (eval c env)
        if ok then act
        again (.compLoop e d (.ref I) acc env)))
    (S : Src prog w A I fp n P St)
    (hJ : ∀ i s h' tk, J i s → (∀ b o, b ≠ I → s.heap.get? b = some o → h'.get? b = some o) → s.toks ≤ tk → J i { s with heap := h', toks := tk })
    (turn : ∀ i v s (N : Value → Shared → Prop), i < n → P i v → St (i + 1) s.heap → J i s → wpAny (model prog w) A (assign target env v) (fun _ s2 =>
      wpAny (model prog w) A (forIn ifs true fun c r => if r = true then do let ok ← isTrue c env (eval c env); pure (ForInStep.yield ok) else pure (ForInStep.yield r)) (fun ok s3 =>
        if ok = true then wpAny (model prog w) A act (fun _ s4 => St (i + 1) s4.heap ∧ J (i + 1) s4) N s3 else St (i + 1) s3.heap ∧ J (i + 1) s3) N s2) N s)
    (done : ∀ s, J n s → R (.ok .next) s) (h0 : St 0 s.heap) (j0 : J 0 s) (ht : ∀ v, letOwnedTupleGo target (.ref I) v = pure () := by intro _; rfl) :
    codeAny (model prog w) A (.compLoop e d (.ref I) acc env) R s := by
  subst he
  refine codeAny_loop rfl (fun k s => ∃ i, i ≤ n ∧ k = n - i ∧ St i s.heap ∧ J i s) (fun k s hI => ?_) n ⟨0, Nat.zero_le _, rfl, h0, j0⟩
  show wpAny _ A ((compTurn (.ListComp elt gens scope pos) d (.ref I) acc env).onRaise (fun x => do noteFrame x env; theTreesLotGoes x)) _ _ s
  refine wpAny_noted ?_
  rw [heq]
  obtain ⟨i, hi, rfl, st, j⟩ := hI
  refine wpAny_bind (wpAny_standAt (wpAny_bind ?_))
  by_cases hlt : i < n
  · refine S.item i _ _ _ hlt st fun v h' tk hP st' k le => ?_
    refine wpAny_bind (wpAny_of_eq (ht v) ?_)
    refine wpAny_bind (wpAny_mono (turn i v _ _ hlt hP st' (hJ _ _ _ _ j k le)) (fun _ s2 h2 => wpAny_bind (wpAny_mono h2 (fun ok s3 h3 => ?_) fun _ _ h' => h')) fun _ _ h' => h')
    cases ok with
    | false => exact wpAny_pure ⟨rfl, _, by omega, i + 1, hlt, rfl, h3.1, h3.2⟩
    | true =>
      rw [if_pos rfl] at h3
      exact wpAny_bind (wpAny_mono h3 (fun _ s4 h4 => wpAny_pure ⟨rfl, _, by omega, i + 1, hlt, rfl, h4.1, h4.2⟩) fun _ _ h' => h')
  · obtain rfl : i = n := Nat.le_antisymm hi (Nat.not_lt.mp hlt)
    refine S.done _ _ _ st fun h' tk k le => ?_
    exact wpAny_pure (done _ (hJ _ _ _ _ j k le))

theorem Src.tuple (hh : A.handled = none) (I ax : Addr) (hne : ax ≠ I) (items : Array Value) :
    Src prog w A I [I, ax] items.size (fun i v => items[i]? = some v) (fun i h => h.IsTupleIter I ax i ∧ h.IsTuple ax items) where
  inI := .head _
  slk := fun i h h' st k => by
    obtain ⟨⟨o, h1, h2, h3⟩, ⟨o', h4, h5, n, h6⟩⟩ := st
    obtain ⟨sl, e1⟩ := k I (.head _) o h1
    obtain ⟨sl', e2⟩ := k ax (.tail _ (.head _)) o' h4
    exact ⟨⟨_, e1, h2, h3⟩, ⟨_, e2, h5, n, h6⟩⟩
  item := fun i s Q E hi st hQ => wpAny_pyNext_tuple_item st.1 st.2 (x := items[i]) (by simp [hi]) fun h' hit' hs' => hQ _ h' s.toks (by simp [hi]) ⟨hit', by
    obtain ⟨o, e1, e2, e3⟩ := st.2
    exact ⟨o, hs'.extBut _ _ hne e1, e2, e3⟩⟩ (fun b o hb e => hs'.extBut b o hb e) (Nat.le_refl _)
  done := fun s Q E st hQ => wpAny_pyNext_tuple_end hh st.1 st.2 (by simp) fun h' he' => hQ h' s.toks (fun b o hb e => he' b o hb e) (Nat.le_refl _)
  self := fun i s Q E st q => (Walks.tuple hh I ax hne items).self i s Q E st q
  lt := fun i h st b hb => by
    obtain ⟨⟨o, h1, h2, h3⟩, ⟨o', h4, h5, n, h6⟩⟩ := st
    rcases List.mem_cons.mp hb with rfl | hb
    · exact Heap.lt_size h1
    · rw [List.mem_singleton.mp hb]; exact Heap.lt_size h4

theorem Fx.but {L b0 : Addr} {h h' : Heap} (F : Fx w h₀ g L h m) (k : ∀ b o, b ≠ b0 → h.get? b = some o → h'.get? b = some o) (hL : b0 ≠ L) (hg : g b0 = none) (hb : h₀.objs.size ≤ b0) : Fx w h₀ g L h' m :=
  ⟨F.ns.at' (fun o e => k _ o (Ne.symm hL) e), fun a o e => k a o (fun q => by rw [q, hg] at e; cases e) (F.on a o e), F.off, fun a o e => k a o (Nat.ne_of_lt (Nat.lt_of_lt_of_le (Heap.lt_size e) hb)) (F.keep a o e), F.above, F.gd₀⟩
theorem Tn.but {tm : Prop} {base : Heap} {g' : PM} {s' : Shared} {b0 : Addr} {h' : Heap} {tk : Nat} (T : Tn tm base g g' s s') (k : ∀ b o, b ≠ b0 → s'.heap.get? b = some o → h'.get? b = some o) (hb : s.heap.objs.size ≤ b0) (hg : g' b0 = none) (hbase : base.objs.size ≤ b0)
    (hsz : s.heap.objs.size ≤ h'.objs.size) (le : s'.toks ≤ tk) : Tn tm base g g' s { s' with heap := h', toks := tk } :=
  ⟨⟨fun b o q nx e => by
      obtain ⟨sl, e1⟩ := T.kp.sl b o q nx e
      exact ⟨sl, k b _ (Nat.ne_of_lt (Nat.lt_of_lt_of_le q hb)) e1⟩, T.kp.gens, T.kp.bare, hsz, T.kp.gsize, T.kp.os⟩, T.ext,
    fun a o e => k a o (fun q => by rw [q, hg] at e; cases e) (T.on a o e), fun a o e => k a o (Nat.ne_of_lt (Nat.lt_of_lt_of_le (Heap.lt_size e) hbase)) (T.stays a o e), fun h => Nat.le_trans (T.tok h) le⟩

/-- where a comprehension's variable lives -/
structure Tgt (prog : Program) (w : World) (A : Around) (cenv : Env) (target : Expr) (c0 : Addr) (ts : List Addr) (T : Heap → Prop) (Rd : Heap → Value → Prop) : Prop where
  inT : c0 ∈ ts
  asg : ∀ (E : Value → Shared → Prop) (Q : Unit → Shared → Prop) v (s : Shared), T s.heap → (∀ h' tk, T h' → Rd h' v → Heap.SameBut c0 s.heap h' → s.toks ≤ tk → Q () { s with heap := h', toks := tk }) → wpAny (model prog w) A (assign target cenv v) Q E s
  slk : ∀ h h', T h → (∀ b ∈ ts, ∀ o, h.get? b = some o → ∃ sl, h'.get? b = some { o with slots := sl }) → T h'
  lt : ∀ h, T h → ∀ b ∈ ts, b < h.objs.size

theorem comp_loop {tm : Prop} {base : Heap} {L : Addr} {elt target iter : Expr} {ifs : List Expr} {scope : Scope} {pos : Pos} {cenv : Env} {D I c0 : Addr} {fp ts : List Addr} {n : Nat} {P : Nat → Value → Prop} {St : Nat → Heap → Prop} {T : Heap → Prop} {Rd : Heap → Value → Prop}
    {R : Result → Shared → Prop} (s0 : Shared) (Acc : PM → Nat → Nat → List Value → Prop) (mono : ∀ g t t' i ys, t ≤ t' → Acc g t i ys → Acc g t' i ys)
    (S : Src prog w A I fp n P St) (hsz : n ≤ sizeLine) (G : Tgt prog w A cenv target c0 ts T Rd) (hc0 : c0 ∉ fp) (hDf : D ∉ fp) (hIt : I ∉ ts) (hDt : D ∉ ts) (hDI : D ≠ I)
    (fresh : ∀ b ∈ I :: D :: ts, s0.heap.objs.size ≤ b ∧ b ≠ L ∧ base.objs.size ≤ b)
    (turn : ∀ i v g' (s : Shared) ys (N : Value → Shared → Prop), i < n → P i v → Acc g' s.toks i ys → Fx w base g' L s.heap m → Tn tm base g g' s0 s → Rd s.heap v → T s.heap →
      wpAny (model prog w) A (forIn ifs true fun c r => if r = true then do let ok ← isTrue c cenv (eval c cenv); pure (ForInStep.yield ok) else pure (ForInStep.yield r)) (fun ok s3 =>
        if ok = true then wpAny (model prog w) A (eval elt cenv) (fun y s4 => ∃ g'', Tn tm base g' g'' s s4 ∧ Acc g'' s4.toks (i + 1) (ys ++ [y])) N s3 else ∃ g'', Tn tm base g' g'' s s3 ∧ Acc g'' s3.toks (i + 1) ys) N s)
    (done : ∀ g' ys (s : Shared) o, Acc g' s.toks n ys → ys.length ≤ n → Fx w base g' L s.heap m → Tn tm base g g' s0 s → s.heap.get? D = some o → o.cls = .type "list" → o.data = .seq ys.toArray ys.length → T s.heap → (∀ b ∈ I :: D :: ts, g' b = none) → R (.ok .next) s)
    (F : Fx w base g L s.heap m) (T0 : Tn tm base g g s0 s) (hst : St 0 s.heap) (hT : T s.heap) (gn : ∀ b ∈ I :: D :: ts, g b = none) {oD : Obj} (hD : s.heap.get? D = some oD) (hDc : oD.cls = .type "list") (hDd : oD.data = .seq #[] 0) (hacc : Acc g s.toks 0 [])
    (ht : ∀ v, letOwnedTupleGo target (.ref I) v = pure () := by intro _; rfl) :
    codeAny (model prog w) A (.compStart (.ListComp elt [⟨target, iter, ifs, 0⟩] scope pos) 0 (.ref I) (.ref D) cenv) R s := by
  have inI : I ∈ I :: D :: ts := .head _
  have inD : D ∈ I :: D :: ts := .tail _ (.head _)
  have inT : c0 ∈ I :: D :: ts := .tail _ (.tail _ G.inT)
  have loop : codeAny (model prog w) A (.compLoop (.ListComp elt [⟨target, iter, ifs, 0⟩] scope pos) 0 (.ref I) (.ref D) cenv) R s := by
    refine loop_at rfl (act := do let _ ← call (.builtin "list.append") [.ref D, ← eval elt cenv])
      (fun i s => ∃ g' ys oD, Fx w base g' L s.heap m ∧ Tn tm base g g' s0 s ∧ Acc g' s.toks i ys ∧ ys.length ≤ i ∧ s.heap.get? D = some oD ∧ oD.cls = .type "list" ∧ oD.data = .seq ys.toArray ys.length ∧ T s.heap ∧ (∀ b ∈ I :: D :: ts, g' b = none))
      rfl S ?_ ?_ ?_ hst ⟨g, [], oD, F, T0, hacc, Nat.le_refl _, hD, hDc, hDd, hT, gn⟩ ht
    · rintro i s h' tk ⟨g', ys, oD, F, T0, ac, yl, hD, hDc, hDd, hT, gn⟩ k le
      have hD' := k D _ hDI hD
      refine ⟨g', ys, oD, F.but k (fresh I inI).2.1 (gn I inI) (fresh I inI).2.2, T0.but k (fresh I inI).1 (gn I inI) (fresh I inI).2.2 (Nat.le_of_lt (Nat.lt_of_le_of_lt (fresh D inD).1 (Heap.lt_size hD'))) le, mono _ _ _ _ _ le ac, yl, hD', hDc, hDd, G.slk _ _ hT fun b hb o e => ⟨o.slots, k b o (fun q => hIt (q ▸ hb)) e⟩, gn⟩
    · rintro i v s N hi hP hst ⟨g', ys, oD, F, T0, ac, yl, hD, hDc, hDd, hT, gn⟩
      refine G.asg _ _ v s hT fun h' tk hT' rd sb le => ?_
      have k : ∀ b o, b ≠ c0 → s.heap.get? b = some o → h'.get? b = some o := fun b o ne e => sb.extBut b o ne e
      have hDc0 : D ≠ c0 := fun q => hDt (q ▸ G.inT)
      have hD' := k D _ hDc0 hD
      have F' := F.but k (fresh c0 inT).2.1 (gn c0 inT) (fresh c0 inT).2.2
      have T0' := T0.but (tk := tk) k (fresh c0 inT).1 (gn c0 inT) (fresh c0 inT).2.2 (Nat.le_of_lt (Nat.lt_of_le_of_lt (fresh D inD).1 (Heap.lt_size hD'))) le
      have st' : St (i + 1) h' := S.slk _ _ _ hst fun b hb o e => ⟨o.slots, k b o (fun q => hc0 (q ▸ hb)) e⟩
      have below : ∀ b ∈ I :: D :: ts, b < h'.objs.size := fun b hb => by
        rcases List.mem_cons.mp hb with rfl | hb
        · exact S.lt _ _ st' _ S.inI
        · rcases List.mem_cons.mp hb with rfl | hb
          · exact Heap.lt_size hD'
          · exact G.lt _ hT' _ hb
      have step : ∀ g'' (s4 : Shared), Tn tm base g' g'' { s with heap := h', toks := tk } s4 → St (i + 1) s4.heap ∧ Fx w base g'' L s4.heap m ∧ Tn tm base g g'' s0 s4 ∧ (∃ sl, s4.heap.get? D = some { oD with slots := sl }) ∧ T s4.heap ∧ (∀ b ∈ I :: D :: ts, g'' b = none) := by
        intro g'' s4 t
        have sl : ∀ b o, b < h'.objs.size → h'.get? b = some o → ∃ sl, s4.heap.get? b = some { o with slots := sl } := fun b o hb e => t.kp.sl b o hb id e
        refine ⟨S.slk _ _ _ st' fun b hb o e => sl b o (Heap.lt_size e) e, F'.tn t, T0'.trans t, sl D _ (Heap.lt_size hD') hD', G.slk _ _ hT' fun b hb o e => sl b o (Heap.lt_size e) e, fun b hb => ?_⟩
        cases q : g'' b with
        | none => rfl
        | some o => exact (t.ext.new _ _ q).elim (fun e => by rw [gn b hb] at e; cases e) fun e => absurd (below b hb) (Nat.not_lt.mpr e)
      refine wpAny_mono (turn i v g' _ ys N hi hP (mono _ _ _ _ _ le ac) F' T0' rd hT') (fun ok s3 h3 => ?_) fun _ _ e => e
      cases ok with
      | false =>
        rw [if_neg (by decide)] at h3 ⊢
        obtain ⟨g'', t, ac'⟩ := h3
        obtain ⟨q1, q2, q3, ⟨sl, q4⟩, q5, q6⟩ := step _ _ t
        exact ⟨q1, g'', ys, _, q2, q3, ac', Nat.le_succ_of_le yl, q4, hDc, hDd, q5, q6⟩
      | true =>
        rw [if_pos rfl] at h3 ⊢
        refine wpAny_bind (wpAny_mono h3 (fun y s4 h4 => ?_) fun _ _ e => e)
        obtain ⟨g'', t, ac'⟩ := h4
        obtain ⟨q1, q2, q3, ⟨sl, q4⟩, q5, q6⟩ := step _ _ t
        refine wpAny_bind (append' q4 hDc hDd (fun h5 sb5 hD5 => ?_) (by rw [List.size_toArray]; omega))
        obtain ⟨o5, e5, e6, e7⟩ := hD5
        have k5 : ∀ b o, b ≠ D → s4.heap.get? b = some o → h5.get? b = some o := fun b o ne e => sb5.extBut b o ne e
        refine wpAny_pure ⟨S.slk _ _ _ q1 fun b hb o e => ⟨o.slots, k5 b o (fun q => hDf (q ▸ hb)) e⟩, g'', ys ++ [y], o5, q2.but k5 (fresh D inD).2.1 (q6 D inD) (fresh D inD).2.2,
          q3.but (tk := s4.toks) k5 (fresh D inD).1 (q6 D inD) (fresh D inD).2.2 (Nat.le_of_lt (Nat.lt_of_le_of_lt (fresh D inD).1 (Heap.lt_size e5))) (Nat.le_refl _), ac', by rw [List.length_append, List.length_singleton]; omega, e5, e6, ?_, G.slk _ _ q5 fun b hb o e => ⟨o.slots, k5 b o (fun q => hDt (q ▸ hb)) e⟩, q6⟩
        rw [e7, List.length_append, List.length_singleton, List.push_toArray]
    · rintro s ⟨g', ys, oD, F, T0, ac, yl, hD, hDc, hDd, hT, gn⟩
      exact done g' ys s oD ac yl F T0 hD hDc hDd hT gn
  exact codeAny_compStart_list loop (S.self 0 _ _ _ hst loop)
end

end Mine
end
section
open PySem PySem.W PyProof.Rows PySem.Calls
open PySem.W.X (SegX wake_any)
set_option Elab.async false
set_option maxRecDepth 100000
set_option maxHeartbeats 8000000
namespace Mine
set_option pp.maxSteps 600
theorem fill26 : (fun (_ : OpenLaw) (_ : Params → Frag) => True) PySem.Challenge.rw_fe0181_02 hd2.heap_39 := by
  k_fill; trivial
local macro_rules | `(tactic| walk_at "eval Name") => `(tactic| first
  | (refine nm_loc (by assumption) (by first | with_reducible assumption | assumption | exact rfl) ?_)
  | (refine nm_glob (by assumption) (by k_is) ?_)
  | (refine nm_built (by assumption) (by k_is) (by boot_by_name) ?_))
local macro_rules | `(tactic| walk_at "callWith ref") => `(tactic| first
  | (refine callWith_K0 (Gd.K (Fx.gd (by assumption))) (by k_is) ?_)
  | (refine callWith_K (Gd.K (Fx.gd (by assumption))) (by k_is) ?_))
local macro_rules | `(tactic| walk_at "And") => `(tactic| ((with_reducible show Frag.In _ _ ∧ _); refine ⟨Gd.K (Fx.gd (by assumption)), ?_⟩; try dsimp only [List.nil_append, List.cons_append]))
local macro_rules | `(tactic| walk_at "room") => `(tactic| (simp only [Around.deeper, Around.in1, Around.mark]; omega))
local macro_rules | `(tactic| walk_at "go") => `(tactic| repeat' (first | (k_unfold; (try dsimp only)) | walk1 | (dsimp only; walk1)))
section
variable {prog : Program} {w : World} {A : Around} {E : Value → Shared → Prop} {s : Shared} {env : Env} {h₀ : Heap} {g : PM} {m : Str → Option Value}
local macro_rules | `(tactic| walk_at "eval Name") => `(tactic| first
  | (refine nm_loc (by assumption) (by first | assumption | exact rfl) ?_)
  | (refine nm_loc (Gn.F (by assumption)) (by first | assumption | exact rfl) ?_)
  | (refine nm_glob (Gn.F (by assumption)) (by k_is) ?_)
  | (refine nm_built (Gn.F (by assumption)) (by k_is) (by boot_by_name) ?_)
  | (refine nm_glob (by assumption) (by k_is) ?_)
  | (refine nm_built (by assumption) (by k_is) (by boot_by_name) ?_))
local macro_rules | `(tactic| walk_at "callWith ref") => `(tactic| first
  | (refine callWith_K0 (Gd.K (Fx.gd (by assumption))) (by k_is) ?_)
  | (refine callWith_K (Gd.K (Fx.gd (by assumption))) (by k_is) ?_)
  | (refine callWith_K0 (Gd.K (Gn.gd (by assumption))) (by k_is) ?_)
  | (refine callWith_K (Gd.K (Gn.gd (by assumption))) (by k_is) ?_))
local macro_rules | `(tactic| walk_at "And") => `(tactic| first
  | ((with_reducible show Frag.In _ _ ∧ _); refine ⟨Gd.K (Fx.gd (by assumption)), ?_⟩; try dsimp only [List.nil_append, List.cons_append])
  | ((with_reducible show Frag.In _ _ ∧ _); refine ⟨Gd.K (Gn.gd (by assumption)), ?_⟩; try dsimp only [List.nil_append, List.cons_append]))
local macro_rules | `(tactic| walk_at "room") => `(tactic| (simp only [over_u, over_d, overL_u, overL_d, overB_u, overB_d, Around.deeper, Around.in1, Around.mark]; omega))
local macro_rules | `(tactic| walk_at "nat") => `(tactic| first | omega | (show @Ne Nat _ _; omega) | (show @LE.le Nat _ _ _; omega) | (show @LT.lt Nat _ _ _; omega) | (show @Eq Nat _ _ → False; omega))

theorem rdL_slk {C : Addr} {x : Str} {v : Value} {n : Nat} {h h' : Heap} (r : ∃ m', h.Ns C m' ∧ m' x = some v) (k : Slk n (fun _ => False) h h') (hC : C < n) : ∃ m', h'.Ns C m' ∧ m' x = some v :=
  let ⟨m', a, b⟩ := r; ⟨m', k.ns a hC id, b⟩
theorem cell_slk {c : Addr} {v : Option Value} {n : Nat} {h h' : Heap} (r : h.IsCell c v) (k : Slk n (fun _ => False) h h') (hC : c < n) : h'.IsCell c v := by
  obtain ⟨o, e, d⟩ := r
  obtain ⟨sl, e'⟩ := k c o hC id e
  exact ⟨_, e', d⟩
theorem nm_rdL {scope : Scope} {cl : List (Str × Addr)} {C : Addr} {x : Str} {pos : Pos} {v : Value} {Q : Value → Shared → Prop} (r : ∃ m', s.heap.Ns C m' ∧ m' x = some v) (h : Q v s) (hk : scope.kind = .function) (hl : scope.names.lookup x = some .local) (hd : (x == ("__debug__" : Str)) = false := by decide) :
    wpAny (model prog w) A (eval (.Name x pos) (compEnvC scope cl C env)) Q E s := by
  obtain ⟨m', a, b⟩ := r
  exact wpAny_Name (wpAny_loadName_local (by simp [compEnvC, relabel, hk]) (lookup_relabel_local hl) a b h) hd
theorem nm_globG {x : Str} {pos : Pos} {v : Value} {Q : Value → Shared → Prop} (G : Gd w s.heap) (e : nsIn (hd2.heap_39 w.params) mainGlobals x = some (some v)) (h : Q v s)
    (hl : env.kindOf x = some .globalImplicit) (hk : env.scope.kind = .function) (hg : env.globals = mainGlobals) (hd : (x == ("__debug__" : Str)) = false := by decide) :
    wpAny (model prog w) A (eval (.Name x pos) env) Q E s := by
  obtain ⟨p, l, mg, mb, T⟩ := G.top
  exact Name_function_global hk hl (loadGlobal_global (hg ▸ T.g) (mg_of G.K T.g e) h) hd
theorem nm_builtG {x : Str} {pos : Pos} {v : Value} {Q : Value → Shared → Prop} (G : Gd w s.heap) (e : nsIn (hd2.heap_39 w.params) mainGlobals x = some none) (hv : bootBuiltins x = some v) (h : Q v s)
    (hl : env.kindOf x = some .globalImplicit) (hk : env.scope.kind = .function) (hg : env.globals = mainGlobals) (hb : env.builtins = builtinsNs) (hn : x ≠ "__name__" := by decide) (hd : (x == ("__debug__" : Str)) = false := by decide) :
    wpAny (model prog w) A (eval (.Name x pos) env) Q E s := by
  obtain ⟨p, l, mg, mb, T⟩ := G.top
  exact Name_function_global hk hl (loadGlobal_builtin (hg ▸ T.g) (mg_none_of G.K T.g e) (hb ▸ T.b) ((T.builtins x hn).trans hv) h) hd

theorem Tgt.loc {scope : Scope} {cl : List (Str × Addr)} {C : Addr} {x : Str} {px : Pos} (hk : scope.kind = .function) (hx : scope.names.lookup x = some .local) :
    Tgt prog w A (compEnvC scope cl C env) (.Name x px) C [C] (fun h => ∃ m', h.Ns C m') (fun h v => ∃ m', h.Ns C m' ∧ m' x = some v) where
  inT := .head _
  asg := fun E Q v s ⟨m', hn⟩ h => wpAny_assign_Name (wpAny_storeName_local (lookup_relabel_local hx) hn (fun h' hn' hs => h h' _ ⟨_, hn'⟩ ⟨_, hn', by simp⟩ hs (Nat.le_succ _)) (by simp [compEnvC, relabel, hk]))
  slk := fun h h' ⟨m', o, es, ep, h1, h2, h3⟩ k => by
    obtain ⟨sl, e⟩ := k C (.head _) o h1
    exact ⟨m', _, es, ep, e, h2, h3⟩
  lt := fun h ⟨m', hn⟩ b hb => by rw [List.mem_singleton.mp hb]; exact hn.lt

/-- a comprehension with a plain variable, behind iter(..) -/
theorem comp_local {tm : Prop} {base : Heap} {L I : Addr} {elt iter : Expr} {x : Str} {px : Pos} {ifs : List Expr} {scope : Scope} {cl : List (Str × Addr)} {pos : Pos} {fp : List Addr} {n : Nat} {P : Nat → Value → Prop} {St : Nat → Heap → Prop} {RR : Value → Addr → Result → Shared → Prop}
    (s0 : Shared) (Acc : PM → Nat → Nat → List Value → Prop) (mono : ∀ g t t' i ys, t ≤ t' → Acc g t i ys → Acc g t' i ys) (S : Src prog w A I fp n P St) (hsz : n ≤ sizeLine) (hcell : ∀ y ∈ scope.names, y.2 ≠ .cell) (hkind : scope.kind = .function) (hx : scope.names.lookup x = some .local)
    (F : Fx w base g L s.heap m) (T0 : Tn tm base g g s0 s) (hst : St 0 s.heap) (fI : s0.heap.objs.size ≤ I ∧ I ≠ L ∧ base.objs.size ≤ I) (gI : g I = none) (hL : L < s0.heap.objs.size) (hbase : base.objs.size ≤ s0.heap.objs.size) (hacc : ∀ t, Acc g t 0 [])
    (turn : ∀ C i v g' (s : Shared) ys (N : Value → Shared → Prop), i < n → P i v → Acc g' s.toks i ys → Fx w base g' L s.heap m → Tn tm base g g' s0 s → (∃ m', s.heap.Ns C m' ∧ m' x = some v) →
      wpAny (model prog w) A (forIn ifs true fun c r => if r = true then do let ok ← isTrue c (compEnvC scope cl C env) (eval c (compEnvC scope cl C env)); pure (ForInStep.yield ok) else pure (ForInStep.yield r)) (fun ok s3 =>
        if ok = true then wpAny (model prog w) A (eval elt (compEnvC scope cl C env)) (fun y s4 => ∃ g'', Tn tm base g' g'' s s4 ∧ Acc g'' s4.toks (i + 1) (ys ++ [y])) N s3 else ∃ g'', Tn tm base g' g'' s s3 ∧ Acc g'' s3.toks (i + 1) ys) N s)
    (fin : ∀ g' ys (s : Shared) D C o, Acc g' s.toks n ys → ys.length ≤ n → Fx w base (g'.ins D o) L s.heap m → Tn tm base g (g'.ins D o) s0 s → o.cls = .type "list" → o.data = .seq ys.toArray ys.length → g' D = none → (∃ m', s.heap.Ns C m') → C ≠ L → C ≠ D → (g'.ins D o) C = none →
      s0.heap.objs.size ≤ C → base.objs.size ≤ C → s0.heap.objs.size ≤ D → RR (.ref D) C (.ok .next) s) :
    wpAny (model prog w) A (newList []) (fun acc s₃ => wpAny (model prog w) A (newFunctionEnv scope env.globals cl [] env.qual none .none (some env)) (fun cenv s₄ =>
      codeAny (model prog w) A (.compStart (.ListComp elt [⟨.Name x px, iter, ifs, 0⟩] scope pos) 0 (.ref I) acc { cenv with scope := relabel scope env }) (RR acc cenv.locals) s₄) E s₃) E s := by
  refine wpAny_newObj_type (wpAny_newFunctionEnv hcell (by intro y hy; simp at hy) (fun h₁ hns₁ hsb₁ => ?_) hkind)
  dsimp only at hns₁ hsb₁ ⊢
  generalize hH2 : s.heap.push { cls := .type "list", dict := none, data := .seq ([] : List Value).toArray } = H2 at hns₁ hsb₁ ⊢
  have hC : H2.objs.size = s.heap.objs.size + 1 := by rw [← hH2, Heap.size_push]
  have sz : @LE.le Nat _ s0.heap.objs.size s.heap.objs.size := T0.kp.size
  have hL' : @LT.lt Nat _ L s0.heap.objs.size := hL
  have fI1 : @LE.le Nat _ s0.heap.objs.size I := fI.1
  have hbase' : @LE.le Nat _ base.objs.size s0.heap.objs.size := hbase
  have hC' : @Eq Nat H2.objs.size (s.heap.objs.size + 1) := hC
  have old : ∀ b o, s.heap.get? b = some o → h₁.get? b = some o := fun b o e => hsb₁.extBut b o (by have := Heap.lt_size e; rw [hC]; exact Nat.ne_of_lt (Nat.lt_succ_of_lt this)) (Heap.get?_push_of_some _ (hH2 ▸ Heap.get?_push_of_some _ e))
  have hacc1 : h₁.get? s.heap.objs.size = some { cls := .type "list", dict := none, data := .seq ([] : List Value).toArray } := hsb₁.extBut _ _ (by rw [hC]; exact Nat.ne_of_lt (Nat.lt_succ_self _)) (Heap.get?_push_of_some _ (hH2 ▸ Heap.get?_push_size _ rfl))
  have gn0 : ∀ b, s.heap.objs.size ≤ b → g b = none := fun b hb => by
    cases q : g b with
    | none => rfl
    | some o => exact absurd (Heap.lt_size (F.on _ _ q)) (Nat.not_lt.mpr hb)
  have fpl := S.lt _ _ hst
  have Il : @LT.lt Nat _ I s.heap.objs.size := fpl _ S.inI
  have size1 : s.heap.objs.size ≤ h₁.objs.size := Nat.le_of_lt (Heap.lt_size hacc1)
  have Gr : Grow s ⟨h₁, s.gens, s.drawn, s.toks + ([] : List (Str × Value)).length, s.os⟩ := ⟨old, fun _ _ e => e, id, size1, rfl⟩
  have on1 := F.on.keeps old
  have T1 : Tn tm base g g s0 ⟨h₁, s.gens, s.drawn, s.toks + ([] : List (Str × Value)).length, s.os⟩ := T0.trans (Tn.grow Gr .refl on1 T0.stays fun _ => Nat.le_add_right _ _)
  have fresh : ∀ b ∈ [I, s.heap.objs.size, H2.objs.size], s0.heap.objs.size ≤ b ∧ b ≠ L ∧ base.objs.size ≤ b := fun b hb => by
    rcases List.mem_cons.mp hb with rfl | hb
    · exact fI
    · rcases List.mem_cons.mp hb with rfl | hb
      · exact ⟨sz, by walk_at "nat", by walk_at "nat"⟩
      · rw [List.mem_singleton.mp hb]; exact ⟨by walk_at "nat", by walk_at "nat", by walk_at "nat"⟩
  refine comp_loop (cenv := compEnvC scope cl H2.objs.size env) (g := g) (ts := [H2.objs.size]) s0 Acc mono S hsz (Tgt.loc hkind hx) (fun hb => ?_) (fun hb => ?_) (fun hb => ?_) (fun hb => ?_) (by walk_at "nat") fresh
    (fun i v g' s ys N hi hP ac F' T' rd _ => turn _ i v g' s ys N hi hP ac F' T' rd) ?_ (F.ext old) T1 (S.slk _ _ _ hst fun b _ o e => ⟨o.slots, old b o e⟩) ⟨_, hns₁⟩ (fun b hb => ?_) hacc1 rfl rfl (hacc _)
  · have q : @LT.lt Nat _ _ s.heap.objs.size := fpl _ hb
    revert q; walk_at "nat"
  · have q : @LT.lt Nat _ _ s.heap.objs.size := fpl _ hb
    revert q; walk_at "nat"
  · have q : @Eq Nat _ _ := List.mem_singleton.mp hb
    revert q; walk_at "nat"
  · have q : @Eq Nat _ _ := List.mem_singleton.mp hb
    revert q; walk_at "nat"
  · intro g' ys s' o ac yl F' T' hD hDc hDd hT gn
    have hne : s.heap.objs.size ≠ H2.objs.size := by walk_at "nat"
    have gD := gn _ (.tail _ (.head _))
    have gC := gn _ (.tail _ (.tail _ (.head _)))
    have on' : (g'.ins s.heap.objs.size o).on s'.heap := fun b x e => by
      unfold PM.ins at e
      by_cases q : b = s.heap.objs.size
      · rw [if_pos q] at e; cases e; rw [q]; exact hD
      · rw [if_neg q] at e; exact F'.on _ _ e
    have X1 : Ext s0.heap.objs.size g' (g'.ins s.heap.objs.size o) := Ext.ins sz gD
    have offL : (g'.ins s.heap.objs.size o) L = none := by unfold PM.ins; rw [if_neg (by walk_at "nat")]; exact F'.off
    have n1 : @Ne Nat H2.objs.size L := by omega
    have n2 : @Ne Nat H2.objs.size s.heap.objs.size := by omega
    have n3 : @LE.le Nat _ s0.heap.objs.size H2.objs.size := by omega
    have n4 : @LE.le Nat _ base.objs.size H2.objs.size := by omega
    exact fin g' ys s' _ H2.objs.size o ac yl (F'.wid on' offL) ⟨T'.kp, T'.ext.trans X1 (Nat.le_refl _), on', T'.stays, T'.tok⟩ hDc hDd gD hT n1 n2 ((PM.ins_ne _ _ n2).trans gC) n3 n4 sz
  · rcases List.mem_cons.mp hb with rfl | hb
    · exact gI
    · rcases List.mem_cons.mp hb with rfl | hb
      · exact gn0 _ (Nat.le_refl _)
      · rw [List.mem_singleton.mp hb]; exact gn0 _ (by walk_at "nat")

/-- a frozen list -/
def LstAt (g : PM) (a : Addr) (ys : List Value) : Prop := ∃ o, g a = some o ∧ o.cls = .type "list" ∧ ∃ n, o.data = .seq ys.toArray n
theorem LstAt.le {g g' : PM} {a : Addr} {ys : List Value} (x : LstAt g a ys) (l : g.le g') : LstAt g' a ys := let ⟨o, h, r⟩ := x; ⟨o, l _ _ h, r⟩
theorem LstAt.is {g : PM} {h : Heap} {a : Addr} {ys : List Value} (x : LstAt g a ys) (on : g.on h) : h.IsList a ys.toArray := let ⟨o, e, r⟩ := x; ⟨o, on _ _ e, r⟩

/-- iter(list): the iterator -/
theorem iter_list {tm : Prop} {base : Heap} {L ax : Addr} {its : List Value} {Q : Value → Shared → Prop} (s0 : Shared) (F : Fx w base g L s.heap m) (T0 : Tn tm base g g s0 s) (hl : LstAt g ax its) (hL : L < s0.heap.objs.size) (hbase : base.objs.size ≤ s0.heap.objs.size)
    (h : ∀ I (s2 : Shared), Fx w base g L s2.heap m → Tn tm base g g s0 s2 → (s2.heap.IsListIter I ax 0 ∧ s2.heap.IsList ax its.toArray) → ax ≠ I → (s0.heap.objs.size ≤ I ∧ I ≠ L ∧ base.objs.size ≤ I) → g I = none → Q (.ref I) s2) :
    wpAny (model prog w) A (pyIter (.ref ax)) Q E s := by
  have hs := hl.is F.on
  have lt : @LT.lt Nat _ ax s.heap.objs.size := by obtain ⟨o, e, _⟩ := hs; exact Heap.lt_size e
  have sz : @LE.le Nat _ s0.heap.objs.size s.heap.objs.size := T0.kp.size
  have hL' : @LT.lt Nat _ L s0.heap.objs.size := hL
  have hbase' : @LE.le Nat _ base.objs.size s0.heap.objs.size := hbase
  refine wpAny_pyIter_list hs ?_
  have up : ∀ b o, s.heap.get? b = some o → (s.heap.push { cls := .type "list_iterator", data := .fields #[.ref ax, .int 0 0] }).get? b = some o := fun b o e => Heap.get?_push_of_some _ e
  refine h s.heap.objs.size _ (F.ext up) (T0.trans (Tn.grow ⟨up, fun _ _ e => e, id, by rw [Heap.size_push]; exact Nat.le_succ _, rfl⟩ .refl (F.on.keeps up) T0.stays fun _ => Nat.le_refl _)) ⟨⟨_, Heap.get?_push_size _ rfl, rfl, rfl⟩, hs.push _⟩ (Nat.ne_of_lt lt) ⟨sz, ?_, ?_⟩ F.none_at
  · walk_at "nat"
  · walk_at "nat"
theorem iter_range {tm : Prop} {base : Heap} {L r : Addr} {n : Nat} {a b c : Tok} {Q : Value → Shared → Prop} (s0 : Shared) (F : Fx w base g L s.heap m) (T0 : Tn tm base g g s0 s) (hr : IsRange s.heap r 0 n 1 a b c) (hn : n ≤ 1000) (hL : L < s0.heap.objs.size) (hbase : base.objs.size ≤ s0.heap.objs.size)
    (h : ∀ I (s2 : Shared), Fx w base g L s2.heap m → Tn tm base g g s0 s2 → RIt s2.heap I ((0 : Nat) : Int) ((n : Int) - ((0 : Nat) : Int)) → (s0.heap.objs.size ≤ I ∧ I ≠ L ∧ base.objs.size ≤ I) → g I = none → Q (.ref I) s2) :
    wpAny (model prog w) A (pyIter (.ref r)) Q E s := by
  have sz : @LE.le Nat _ s0.heap.objs.size s.heap.objs.size := T0.kp.size
  have hL' : @LT.lt Nat _ L s0.heap.objs.size := hL
  have hbase' : @LE.le Nat _ base.objs.size s0.heap.objs.size := hbase
  have rs : Builtin.Range.rangeSize 0 n 1 = (n : Int) := by unfold Builtin.Range.rangeSize; simp <;> omega
  refine wpAny_pyIter_range hr ?_ ?_
  · unfold Builtin.Range.small Builtin.Range.rangeFitsLong
    rw [rs]
    simp
    omega
  rw [rs]
  have up : ∀ b o, s.heap.get? b = some o → (s.heap.push { cls := .type "range_iterator", data := .fields #[rawInt 0, rawInt n, rawInt 1] }).get? b = some o := fun b o e => Heap.get?_push_of_some _ e
  refine h s.heap.objs.size _ (F.ext up) (T0.trans (Tn.grow ⟨up, fun _ _ e => e, id, by rw [Heap.size_push]; exact Nat.le_succ _, rfl⟩ .refl (F.on.keeps up) T0.stays fun _ => Nat.le_refl _)) ⟨_, Heap.get?_push_size _ rfl, rfl, by simp [rawInt]⟩ ⟨sz, ?_, ?_⟩ F.none_at
  · walk_at "nat"
  · walk_at "nat"
end

end Mine
end
section
open PySem PySem.W PyProof.Rows PySem.Calls
open PySem.W.X (SegX wake_any)
set_option Elab.async false
set_option maxRecDepth 100000
set_option maxHeartbeats 8000000
namespace Mine
set_option pp.maxSteps 600
theorem fill27 : (fun (_ : OpenLaw) (_ : Params → Frag) => True) PySem.Challenge.rw_fe0181_02 hd2.heap_39 := by
  k_fill; trivial
local macro_rules | `(tactic| walk_at "no such word 0") => `(tactic| fail)
local macro_rules | `(tactic| walk_at "eval Name") => `(tactic| first
  | (refine nm_loc (by assumption) (by first | with_reducible assumption | assumption | exact rfl) ?_)
  | (refine nm_glob (by assumption) (by k_is) ?_)
  | (refine nm_built (by assumption) (by k_is) (by boot_by_name) ?_))
local macro_rules | `(tactic| walk_at "callWith ref") => `(tactic| first
  | (refine callWith_K0 (Gd.K (Fx.gd (by assumption))) (by k_is) ?_)
  | (refine callWith_K (Gd.K (Fx.gd (by assumption))) (by k_is) ?_))
local macro_rules | `(tactic| walk_at "And") => `(tactic| ((with_reducible show Frag.In _ _ ∧ _); refine ⟨Gd.K (Fx.gd (by assumption)), ?_⟩; try dsimp only [List.nil_append, List.cons_append]))
local macro_rules | `(tactic| walk_at "room") => `(tactic| (simp only [Around.deeper, Around.in1, Around.mark]; omega))
local macro_rules | `(tactic| walk_at "go") => `(tactic| repeat' (first | (k_unfold; (try dsimp only)) | walk1 | (dsimp only; walk1)))
section
variable {prog : Program} {w : World} {A : Around} {E : Value → Shared → Prop} {s : Shared} {env : Env} {h₀ : Heap} {g : PM} {m : Str → Option Value}
local macro_rules | `(tactic| walk_at "eval Name") => `(tactic| first
  | (refine nm_loc (by assumption) (by first | assumption | exact rfl) ?_)
  | (refine nm_loc (Gn.F (by assumption)) (by first | assumption | exact rfl) ?_)
  | (refine nm_glob (Gn.F (by assumption)) (by k_is) ?_)
  | (refine nm_built (Gn.F (by assumption)) (by k_is) (by boot_by_name) ?_)
  | (refine nm_glob (by assumption) (by k_is) ?_)
  | (refine nm_built (by assumption) (by k_is) (by boot_by_name) ?_))
local macro_rules | `(tactic| walk_at "callWith ref") => `(tactic| first
  | (refine callWith_K0 (Gd.K (Fx.gd (by assumption))) (by k_is) ?_)
  | (refine callWith_K (Gd.K (Fx.gd (by assumption))) (by k_is) ?_)
  | (refine callWith_K0 (Gd.K (Gn.gd (by assumption))) (by k_is) ?_)
  | (refine callWith_K (Gd.K (Gn.gd (by assumption))) (by k_is) ?_))
local macro_rules | `(tactic| walk_at "And") => `(tactic| first
  | ((with_reducible show Frag.In _ _ ∧ _); refine ⟨Gd.K (Fx.gd (by assumption)), ?_⟩; try dsimp only [List.nil_append, List.cons_append])
  | ((with_reducible show Frag.In _ _ ∧ _); refine ⟨Gd.K (Gn.gd (by assumption)), ?_⟩; try dsimp only [List.nil_append, List.cons_append]))
local macro_rules | `(tactic| walk_at "room") => `(tactic| (simp only [over_u, over_d, overL_u, overL_d, overB_u, overB_d, Around.deeper, Around.in1, Around.mark]; omega))
local macro_rules | `(tactic| walk_at "nat") => `(tactic| first | omega | (show @Ne Nat _ _; omega) | (show @LE.le Nat _ _ _; omega) | (show @LT.lt Nat _ _ _; omega) | (show @Eq Nat _ _ → False; omega))

theorem iter_tuple {tm : Prop} {base : Heap} {L ax : Addr} {o : Obj} {its : List Value} {k : Nat} {Q : Value → Shared → Prop} (s0 : Shared) (F : Fx w base g L s.heap m) (T0 : Tn tm base g g s0 s) (ho : g ax = some o) (hc : o.cls = .type "tuple") (hd : o.data = .seq its.toArray k) (hL : L < s0.heap.objs.size) (hbase : base.objs.size ≤ s0.heap.objs.size)
    (h : ∀ I (s2 : Shared), Fx w base g L s2.heap m → Tn tm base g g s0 s2 → (s2.heap.IsTupleIter I ax 0 ∧ s2.heap.IsTuple ax its.toArray) → ax ≠ I → (s0.heap.objs.size ≤ I ∧ I ≠ L ∧ base.objs.size ≤ I) → g I = none → Q (.ref I) s2) :
    wpAny (model prog w) A (pyIter (.ref ax)) Q E s := by
  have hs : s.heap.IsTuple ax its.toArray := ⟨o, F.on _ _ ho, hc, _, hd⟩
  have lt : @LT.lt Nat _ ax s.heap.objs.size := by obtain ⟨o, e, _⟩ := hs; exact Heap.lt_size e
  have sz : @LE.le Nat _ s0.heap.objs.size s.heap.objs.size := T0.kp.size
  have hL' : @LT.lt Nat _ L s0.heap.objs.size := hL
  have hbase' : @LE.le Nat _ base.objs.size s0.heap.objs.size := hbase
  refine wpAny_pyIter_tuple hs ?_
  have up : ∀ b o, s.heap.get? b = some o → (s.heap.push { cls := .type "tuple_iterator", data := .fields #[.ref ax, .int 0 0] }).get? b = some o := fun b o e => Heap.get?_push_of_some _ e
  obtain ⟨o1, q1, q2, q3⟩ := hs
  refine h s.heap.objs.size _ (F.ext up) (T0.trans (Tn.grow ⟨up, fun _ _ e => e, id, by rw [Heap.size_push]; exact Nat.le_succ _, rfl⟩ .refl (F.on.keeps up) T0.stays fun _ => Nat.le_refl _)) ⟨⟨_, Heap.get?_push_size _ rfl, rfl, rfl⟩, ⟨o1, up _ _ q1, q2, q3⟩⟩ (Nat.ne_of_lt lt) ⟨sz, ?_, ?_⟩ F.none_at
  · walk_at "nat"
  · walk_at "nat"

/-- the things a comprehension runs over -/
inductive SrcIs (g : PM) (h : Heap) : Value → Nat → (Nat → Value → Prop) → Prop
  | list {ax : Addr} {its : List Value} (hl : LstAt g ax its) : SrcIs g h (.ref ax) its.length (fun i v => its[i]? = some v)
  | tup {ax : Addr} {o : Obj} {its : List Value} {k : Nat} (ho : g ax = some o) (hc : o.cls = .type "tuple") (hd : o.data = .seq its.toArray k) : SrcIs g h (.ref ax) its.length (fun i v => its[i]? = some v)
  | range {r : Addr} {n : Nat} {a b c : Tok} (hr : IsRange h r 0 n 1 a b c) (hn : n ≤ 1000) : SrcIs g h (.ref r) n (fun i v => ∃ t, v = .int (i : Int) t)

theorem iter_src {tm : Prop} {base : Heap} {L : Addr} {xv : Value} {n : Nat} {P : Nat → Value → Prop} {Q : Value → Shared → Prop} (hh : A.handled = none) (s0 : Shared) (F : Fx w base g L s.heap m) (T0 : Tn tm base g g s0 s) (hs : SrcIs g s.heap xv n P) (hL : L < s0.heap.objs.size) (hbase : base.objs.size ≤ s0.heap.objs.size)
    (h : ∀ I (s2 : Shared) fp St, Src prog w A I fp n P St → Fx w base g L s2.heap m → Tn tm base g g s0 s2 → St 0 s2.heap → (s0.heap.objs.size ≤ I ∧ I ≠ L ∧ base.objs.size ≤ I) → g I = none → Q (.ref I) s2) :
    wpAny (model prog w) A (pyIter xv) Q E s := by
  cases hs with
  | @list ax its hl => exact iter_list s0 F T0 hl hL hbase fun I s2 F2 T2 st ne fr gI => h I s2 _ _ (by have := Src.list (prog := prog) (w := w) hh I ax ne its.toArray; simpa using this) F2 T2 st fr gI
  | @tup ax o its k ho hc hd => exact iter_tuple s0 F T0 ho hc hd hL hbase fun I s2 F2 T2 st ne fr gI => h I s2 _ _ (by have := Src.tuple (prog := prog) (w := w) hh I ax ne its.toArray; simpa using this) F2 T2 st fr gI
  | range hr hn => exact iter_range s0 F T0 hr hn hL hbase fun I s2 F2 T2 st fr gI => h I s2 _ _ (Src.range hh I n) F2 T2 st fr gI

def CTurn (tm : Prop) (prog : Program) (w : World) (A : Around) (base : Heap) (L : Addr) (m : Str → Option Value) (env : Env) (elt : Expr) (x : Str) (ifs : List Expr) (scope : Scope) (cl : List (Str × Addr)) (g1 : PM) (s1 : Shared) (n : Nat) (P : Nat → Value → Prop) (Acc : PM → Nat → Nat → List Value → Prop) : Prop :=
  ∀ C i v g' (s : Shared) ys (N : Value → Shared → Prop), i < n → P i v → Acc g' s.toks i ys → Fx w base g' L s.heap m → Tn tm base g1 g' s1 s → (∃ m', s.heap.Ns C m' ∧ m' x = some v) →
      wpAny (model prog w) A (forIn ifs true fun c r => if r = true then do let ok ← isTrue c (compEnvC scope cl C env) (eval c (compEnvC scope cl C env)); pure (ForInStep.yield ok) else pure (ForInStep.yield r)) (fun ok s3 =>
        if ok = true then wpAny (model prog w) A (eval elt (compEnvC scope cl C env)) (fun y s4 => ∃ g'', Tn tm base g' g'' s s4 ∧ Acc g'' s4.toks (i + 1) (ys ++ [y])) N s3 else ∃ g'', Tn tm base g' g'' s s3 ∧ Acc g'' s3.toks (i + 1) ys) N s

theorem lc_eval {tm : Prop} {base : Heap} {L : Addr} {elt iter : Expr} {x : Str} {px : Pos} {ifs : List Expr} {scope : Scope} {cl : List (Str × Addr)} {pos : Pos} {Q : Value → Shared → Prop} (hh : A.handled = none)
    (hclos : closureFor scope env = pure cl) (hcell : ∀ y ∈ scope.names, y.2 ≠ .cell) (hkind : scope.kind = .function)
    (hnames : ∀ y ∈ scope.names, y.2 = .local → scope.names.lookup y.1 = some .local) (hx : scope.names.lookup x = some .local)
    (h : wpAny (model prog w) A (eval iter env) (fun xv s1 => ∃ g1 n P Acc, Tn tm base g g1 s s1 ∧ Fx w base g1 L s1.heap m ∧ SrcIs g1 s1.heap xv n P ∧ n ≤ sizeLine ∧ L < s1.heap.objs.size ∧ base.objs.size ≤ s1.heap.objs.size ∧ (∀ g t t' i ys, t ≤ t' → Acc g t i ys → Acc g t' i ys) ∧ (∀ t, Acc g1 t 0 []) ∧
      CTurn tm prog w A base L m env elt x ifs scope cl g1 s1 n P Acc ∧
      (∀ g' ys (s3 : Shared) D o, Acc g' s3.toks n ys → ys.length ≤ n → Fx w base (g'.ins D o) L s3.heap m → Tn tm base g (g'.ins D o) s s3 → g'.le (g'.ins D o) → LstAt (g'.ins D o) D ys → s.heap.objs.size ≤ D → Q (.ref D) s3)) E s)
    (hs : ∀ x, foldedSetIterable iter env x = pure x := by intro _; rfl) :
    wpAny (model prog w) A (eval (.ListComp elt [⟨.Name x px, iter, ifs, 0⟩] scope pos) env) Q E s := by
  rw [eval_ListComp]
  refine wpAny_comprehension_free (use := none) rfl hs hclos hkind hnames (wpAny_mono h (fun xv s₁ h₁ => ?_) fun _ _ e => e)
  obtain ⟨g1, n, P, Acc, T1, F1, S1, hsz, hL, hbase, mono, ac, turn, fin⟩ := h₁
  refine iter_src (tm := tm) hh s₁ F1 (Tn.refl F1.on F1.keep) S1 hL hbase fun I s2 fp St S F2 T2 st fr gI => ?_
  refine comp_local s₁ Acc mono S hsz hcell hkind hx F2 T2 st fr gI hL hbase ac turn fun g' ys s3 D C o ac' yl F3 T3 hc hd gD hC hCL hCD gC szC baC szD => ?_
  obtain ⟨m', hn⟩ := hC
  have X1 : g'.le (g'.ins D o) := (Ext.ins (k := 0) (Nat.zero_le _) gD).le
  refine ⟨m', hn, fun h' sb => ?_⟩
  have k : ∀ b o, b ≠ C → s3.heap.get? b = some o → h'.get? b = some o := fun b o ne e => sb.extBut b o ne e
  exact fin g' ys _ D o ac' yl (F3.but k hCL gC baC) (T1.trans (T3.but (tk := s3.toks) k szC gC baC (by rw [sb.1]; exact T3.kp.size) (Nat.le_refl _))) X1 ⟨o, PM.ins_self _ _ _, hc, _, hd⟩ (Nat.le_trans T1.kp.size szD)

theorem lc_assign {tm : Prop} {base : Heap} {elt iter : Expr} {x y : Str} {px py : Pos} {ifs : List Expr} {scope : Scope} {cl : List (Str × Addr)} {pos spos : Pos} {Q : Flow → Shared → Prop} (hh : A.handled = none)
    (hsw : swapsWith (.ListComp elt [⟨.Name x px, iter, ifs, 0⟩] scope pos) (some (.Name y py)) spos.line env = pure true)
    (hclos : closureFor scope env = pure cl) (hcell : ∀ y ∈ scope.names, y.2 ≠ .cell) (hkind : scope.kind = .function)
    (hnames : ∀ y ∈ scope.names, y.2 = .local → scope.names.lookup y.1 = some .local) (hx : scope.names.lookup x = some .local)
    (hy : env.kindOf y = some .local) (hp : (env.scope.kind == .class || (env.scope.kind == .module && env.locals != env.globals)) = false)
    (h : wpAny (model prog w) A (eval iter env) (fun xv s1 => ∃ g1 n P Acc, Tn tm base g g1 s s1 ∧ Fx w base g1 env.locals s1.heap m ∧ SrcIs g1 s1.heap xv n P ∧ n ≤ sizeLine ∧ env.locals < s1.heap.objs.size ∧ base.objs.size ≤ s1.heap.objs.size ∧ (∀ g t t' i ys, t ≤ t' → Acc g t i ys → Acc g t' i ys) ∧ (∀ t, Acc g1 t 0 []) ∧
      CTurn tm prog w A base env.locals m env elt x ifs scope cl g1 s1 n P Acc ∧
      (∀ g' ys (s3 : Shared) D o, Acc g' s3.toks n ys → ys.length ≤ n → Fx w base (g'.ins D o) env.locals s3.heap (fun z => if z = y then some (.ref D) else m z) → s.heap.objs.size ≤ s3.heap.objs.size → s3.os = s.os → (AllBare s.gens → AllBare s3.gens) → Ext s.heap.objs.size g (g'.ins D o) → (tm → s.toks ≤ s3.toks) → g'.le (g'.ins D o) → LstAt (g'.ins D o) D ys → Q .next s3)) E s)
    (hs : ∀ x, foldedSetIterable iter env x = pure x := by intro _; rfl) :
    wpAny (model prog w) A (exec (.Assign [.Name y py] (.ListComp elt [⟨.Name x px, iter, ifs, 0⟩] scope pos) spos) env) Q E s := by
  rw [exec_Assign_Name_used _ _ _ _ hsw]
  refine wpAny_bind (wpAny_standAt (wpAny_bind ?_))
  show wpAny _ A (do let _ ← comprehension (.ListComp elt [⟨.Name x px, iter, ifs, 0⟩] scope pos) scope env _ (newList []) false (eval iter env) (some (assign (.Name y py) env))) _ _ s
  refine wpAny_bind (wpAny_mono (wpAny_comprehension_free (use := some (assign (.Name y py) env)) (Q := fun _ s' => Q .next s') rfl hs hclos hkind hnames (wpAny_mono h (fun xv s₁ h₁ => ?_) fun _ _ e => e)) (fun _ s' hq => wpAny_pure (wpAny_pure hq)) fun _ _ e => e)
  obtain ⟨g1, n, P, Acc, T1, F1, S1, hsz, hL, hbase, mono, ac, turn, fin⟩ := h₁
  refine iter_src (tm := tm) hh s₁ F1 (Tn.refl F1.on F1.keep) S1 hL hbase fun I s2 fp St S F2 T2 st fr gI => ?_
  refine comp_local s₁ Acc mono S hsz hcell hkind hx F2 T2 st fr gI hL hbase ac turn fun g' ys s3 D C o ac' yl F3 T3 hc hd gD hC hCL hCD gC szC baC szD => ?_
  obtain ⟨m', hn⟩ := hC
  have X1 : g'.le (g'.ins D o) := (Ext.ins (k := 0) (Nat.zero_le _) gD).le
  have T4 := T1.trans T3
  show wpAny _ A (assign (.Name y py) env (.ref D)) _ _ _
  refine wpAny_assign_Name (wpAny_storeName_local hy F3.ns (fun h₂ hn₂ hs₂ => ?_) hp)
  have F4 := F3.set hn₂ hs₂
  refine ⟨m', hn.sameBut hs₂ hCL, fun h'' hs'' => ?_⟩
  have k : ∀ b o, b ≠ C → h₂.get? b = some o → h''.get? b = some o := fun b o ne e => hs''.extBut b o ne e
  exact fin g' ys _ D o (mono _ _ _ _ _ (Nat.le_succ _) ac') yl (F4.but k hCL gC baC) (by show s.heap.objs.size ≤ h''.objs.size; rw [hs''.1, hs₂.1]; exact T4.kp.size) T4.kp.os T4.kp.bare T4.ext (fun h => Nat.le_succ_of_le (T4.tok h)) X1 ⟨o, PM.ins_self _ _ _, hc, _, hd⟩
end

end Mine
end
section
open PySem PySem.W PyProof.Rows PySem.Calls
open PySem.W.X (SegX wake_any)
set_option Elab.async false
set_option maxRecDepth 100000
set_option maxHeartbeats 8000000
namespace Mine
set_option pp.maxSteps 600
theorem fill28 : (fun (_ : OpenLaw) (_ : Params → Frag) => True) PySem.Challenge.rw_fe0181_02 hd2.heap_39 := by
  k_fill; trivial
local macro_rules | `(tactic| walk_at "eval Name") => `(tactic| first
  | (refine nm_loc (by assumption) (by first | with_reducible assumption | assumption | exact rfl) ?_)
  | (refine nm_glob (by assumption) (by k_is) ?_)
  | (refine nm_built (by assumption) (by k_is) (by boot_by_name) ?_))
local macro_rules | `(tactic| walk_at "callWith ref") => `(tactic| first
  | (refine callWith_K0 (Gd.K (Fx.gd (by assumption))) (by k_is) ?_)
  | (refine callWith_K (Gd.K (Fx.gd (by assumption))) (by k_is) ?_))
local macro_rules | `(tactic| walk_at "And") => `(tactic| ((with_reducible show Frag.In _ _ ∧ _); refine ⟨Gd.K (Fx.gd (by assumption)), ?_⟩; try dsimp only [List.nil_append, List.cons_append]))
local macro_rules | `(tactic| walk_at "room") => `(tactic| (simp only [Around.deeper, Around.in1, Around.mark]; omega))
local macro_rules | `(tactic| walk_at "go") => `(tactic| repeat' (first | (k_unfold; (try dsimp only)) | walk1 | (dsimp only; walk1)))
section
variable {prog : Program} {w : World} {A : Around} {E : Value → Shared → Prop} {s : Shared} {env : Env} {h₀ : Heap} {g : PM} {m : Str → Option Value}
local macro_rules | `(tactic| walk_at "eval Name") => `(tactic| first
  | (refine nm_loc (by assumption) (by first | assumption | exact rfl) ?_)
  | (refine nm_loc (Gn.F (by assumption)) (by first | assumption | exact rfl) ?_)
  | (refine nm_glob (Gn.F (by assumption)) (by k_is) ?_)
  | (refine nm_built (Gn.F (by assumption)) (by k_is) (by boot_by_name) ?_)
  | (refine nm_glob (by assumption) (by k_is) ?_)
  | (refine nm_built (by assumption) (by k_is) (by boot_by_name) ?_))
local macro_rules | `(tactic| walk_at "callWith ref") => `(tactic| first
  | (refine callWith_K0 (Gd.K (Fx.gd (by assumption))) (by k_is) ?_)
  | (refine callWith_K (Gd.K (Fx.gd (by assumption))) (by k_is) ?_)
  | (refine callWith_K0 (Gd.K (Gn.gd (by assumption))) (by k_is) ?_)
  | (refine callWith_K (Gd.K (Gn.gd (by assumption))) (by k_is) ?_))
local macro_rules | `(tactic| walk_at "And") => `(tactic| first
  | ((with_reducible show Frag.In _ _ ∧ _); refine ⟨Gd.K (Fx.gd (by assumption)), ?_⟩; try dsimp only [List.nil_append, List.cons_append])
  | ((with_reducible show Frag.In _ _ ∧ _); refine ⟨Gd.K (Gn.gd (by assumption)), ?_⟩; try dsimp only [List.nil_append, List.cons_append]))
local macro_rules | `(tactic| walk_at "room") => `(tactic| (simp only [over_u, over_d, overL_u, overL_d, overB_u, overB_d, Around.deeper, Around.in1, Around.mark]; omega))
local macro_rules | `(tactic| walk_at "nat") => `(tactic| first | omega | (show @Ne Nat _ _; omega) | (show @LE.le Nat _ _ _; omega) | (show @LT.lt Nat _ _ _; omega) | (show @Eq Nat _ _ → False; omega))

theorem entry_proto_is : entryFor table "proto.is" = some Builtin.«proto.is» := entryFor_of_tree (by kernel_rfl)
/-- the contract of `is` on two items -/
def SameIt (w : World) (g : PM) (a b : Value) (p : Prop) : Prop := ∀ (prog : Program) (A : Around) (E : Value → Shared → Prop) (s : Shared) (Q : Bool → Shared → Prop), Gd w s.heap → g.on s.heap →
  (∀ k s', Grow s s' → (k = true → p) → Q k s') → wpAny (model prog w) A (isSame a b) Q E s
theorem same_int {p q : Int} {t u : Tok} (ht : t ≠ 0) (hu : u ≠ 0) (hne : t ≠ u) (sm : p = q → smallInt p = true) : SameIt w g (.int p t) (.int q u) (p = q) := by
  intro prog A E s Q G on q'
  show wpAny _ _ (if (p == q && smallInt p) = true then isSame.cachedInt t u else isSame.created (p == q) t u) _ _ _
  have e1 : (t == 0) = false := by simpa using ht
  have e2 : (u == 0) = false := by simpa using hu
  have e3 : (t == u) = false := by simpa using hne
  by_cases e : p = q
  · have sm' := sm e
    subst e
    rw [if_pos (by simp [sm'])]
    unfold isSame.cachedInt
    rw [if_neg (by simp [e1, e2])]
    exact wpAny_bind (wpAny_rule (wpAny_pure (q' true s .refl fun _ => rfl)))
  · rw [if_neg (by simp [e])]
    unfold isSame.created
    rw [if_neg (by simp [e1, e2]), if_neg (by simp [e3]), if_pos (by simp [e])]
    exact wpAny_pure (q' false s .refl fun z => by cases z)
theorem same_var {x : Addr} {q : Int} {u : Tok} : SameIt w g (.ref x) (.int q u) False := by
  intro prog A E s Q G on q'
  show wpAny _ _ (pure (Value.ref x == Value.int q u)) _ _ _
  exact wpAny_pure (q' false s .refl fun z => by cases z)

theorem same_item {p q : Value} {P : Prop} (S : SameIt w g p q P) {Q : Value → Shared → Prop} (G : Gd w s.heap) (on : g.on s.heap)
    (h : ∀ k s', Grow s s' → (k = true → P) → Q (.bool k) s') : wpAny (model prog w) A (runValue (.builtin "proto.is" ⟨[p, q], []⟩)) Q E s := by
  unfold runValue
  refine wpAny_bind (wpAny_run (codeAny_builtin entry_proto_is ?_))
  unfold Builtin.«proto.is»
  refine wpAny_bind (S _ _ _ _ _ G on fun k s' Gr hk => ?_)
  exact wpAny_pure (wpAny_pure (h k s' Gr hk))

/-- `is` of two pairs -/
theorem same_pair {u v : Addr} {x1 x2 y1 y2 : Value} {n n' : Nat} {P1 P2 : Prop} (hu : g u = some { cls := .type "tuple", data := .seq #[x1, x2] n }) (hv : g v = some { cls := .type "tuple", data := .seq #[y1, y2] n' })
    (S1 : SameIt w g x1 y1 P1) (S2 : SameIt w g x2 y2 P2) (ne : u ≠ v) (hb1 : ∀ a b, ¬ (x1 = .ref a ∧ y1 = .ref b)) (hb2 : ∀ a b, ¬ (x2 = .ref a ∧ y2 = .ref b)) :
    SameOK w g (.ref u) (.ref v) (P1 ∧ P2) := by
  intro prog A E s Q h1 h2 G on q
  unfold isSame
  dsimp only
  rw [if_neg (by simpa using ne)]
  refine wpAny_bind (wpAny_load (on _ _ hu) (wpAny_bind (wpAny_load (on _ _ hv) ?_)))
  have fin : ∀ s', Grow s s' → Q false s' := fun s' Gr => q false s' Gr fun z => by cases z
  have em : ∀ {p q' : Value} {A' : Around} {E' : Value → Shared → Prop} {s' : Shared} {Q' : Bool → Shared → Prop}, (∀ a b, ¬ (p = .ref a ∧ q' = .ref b)) → Q' true s' → wpAny (model prog w) A' (emptiesJoinedAsOfOld w.params p q') Q' E' s' := by
    intro p q' A' E' s' Q' hb q
    unfold emptiesJoinedAsOfOld
    cases p <;> cases q' <;> first | exact wpAny_pure q | exact absurd ⟨rfl, rfl⟩ (hb _ _)
  split
  · rename_i xs _ ys _ _ _ e3 e4
    cases e3
    cases e4
    rw [if_neg (by simp)]
    unfold sameTuple
    refine wpAny_bind (wpAny_askSetting ?_)
    dsimp only
    split
    · exact wpAny_pure (fin _ .refl)
    · split
      · exact wpAny_pure (fin _ .refl)
      · refine wpAny_bind (wpAny_holding ?_)
        have rest : ∀ (k : Bool) (s' : Shared), Grow s s' → (k = true → P1 ∧ P2) → wpAny (model prog w) A (if k = true then do rule "is.world.tuple-shared"; return true else return false) Q E s' := by
          intro k s' Gr hk
          cases k with
          | false => exact wpAny_pure (fin _ Gr)
          | true => exact wpAny_bind (wpAny_rule (wpAny_pure (q true s' Gr hk)))
        unfold sameItems
        rw [if_neg (by simp)]
        simp only [List.zip_cons_cons, List.zip_nil_right, List.forIn_cons, List.forIn_nil]
        have it : ∀ {x y : Value} {P : Prop} {E' : Value → Shared → Prop} {s' : Shared} {Q' : ForInStep (Option Bool × Unit) → Shared → Prop}, SameIt w g x y P → (∀ a b, ¬ (x = .ref a ∧ y = .ref b)) → Gd w s'.heap → g.on s'.heap →
            (∀ s'', Grow s' s'' → Q' (ForInStep.done (some false, ())) s'') → (∀ s'', Grow s' s'' → P → Q' (ForInStep.yield (none, ())) s'') → wpAny (model prog w) A (do
              let d ← runValue (Code.builtin "proto.is" { pos := [x, y] })
              match d with
                | Value.bool true => do
                  let s ← ask
                  if (!joinedAsOfOld s.params x y) = true then pure (ForInStep.done (some false, ()))
                    else do
                      let l ← emptiesJoinedAsOfOld s.params x y
                      if (!l) = true then pure (ForInStep.done (some false, ()))
                        else pure (ForInStep.yield (none, ()))
                | _ => pure (ForInStep.done (some false, ()))) Q' E' s' := by
          intro x y P E' s' Q' S hb G' on' q1 q2
          refine wpAny_bind (same_item S G' on' fun k s'' Gr hk => ?_)
          cases k with
          | false => exact wpAny_pure (q1 _ Gr)
          | true =>
            refine wpAny_bind (wpAny_askSetting ?_)
            dsimp only
            split
            · exact wpAny_pure (q1 _ Gr)
            · exact wpAny_bind (em hb (by rw [if_neg (by decide)]; exact wpAny_pure (q2 _ Gr (hk rfl))))
        refine wpAny_bind (wpAny_bind (it S1 hb1 G on (fun s1 Gr1 => ?_) fun s1 Gr1 p1 => ?_))
        · exact wpAny_pure (wpAny_pure (rest false _ Gr1 fun z => by cases z))
        · refine wpAny_bind (it S2 hb2 (G.keeps Gr1.keep) (on.keeps Gr1.keep) (fun s2 Gr2 => ?_) fun s2 Gr2 p2 => ?_)
          · exact wpAny_pure (wpAny_pure (rest false _ (Gr1.trans Gr2) fun z => by cases z))
          · exact wpAny_pure (wpAny_pure (rest true _ (Gr1.trans Gr2) fun _ => ⟨p1, p2⟩))
  · exact wpAny_pure (fin _ .refl)
end

end Mine
end
section
open PySem PySem.W PyProof.Rows PySem.Calls
open PySem.W.X (SegX wake_any)
set_option Elab.async false
set_option maxRecDepth 100000
set_option maxHeartbeats 8000000
namespace Mine
set_option pp.maxSteps 600
theorem fill29 : (fun (_ : OpenLaw) (_ : Params → Frag) => True) PySem.Challenge.rw_fe0181_02 hd2.heap_39 := by
  k_fill; trivial
local macro_rules | `(tactic| walk_at "no such word 0") => `(tactic| fail)
local macro_rules | `(tactic| walk_at "eval Name") => `(tactic| first
  | (refine nm_loc (by assumption) (by first | with_reducible assumption | assumption | exact rfl) ?_)
  | (refine nm_glob (by assumption) (by k_is) ?_)
  | (refine nm_built (by assumption) (by k_is) (by boot_by_name) ?_))
local macro_rules | `(tactic| walk_at "callWith ref") => `(tactic| first
  | (refine callWith_K0 (Gd.K (Fx.gd (by assumption))) (by k_is) ?_)
  | (refine callWith_K (Gd.K (Fx.gd (by assumption))) (by k_is) ?_))
local macro_rules | `(tactic| walk_at "And") => `(tactic| ((with_reducible show Frag.In _ _ ∧ _); refine ⟨Gd.K (Fx.gd (by assumption)), ?_⟩; try dsimp only [List.nil_append, List.cons_append]))
local macro_rules | `(tactic| walk_at "room") => `(tactic| (simp only [Around.deeper, Around.in1, Around.mark]; omega))
local macro_rules | `(tactic| walk_at "go") => `(tactic| repeat' (first | (k_unfold; (try dsimp only)) | walk1 | (dsimp only; walk1)))
section
variable {prog : Program} {w : World} {A : Around} {E : Value → Shared → Prop} {s : Shared} {env : Env} {h₀ : Heap} {g : PM} {m : Str → Option Value}
local macro_rules | `(tactic| walk_at "eval Name") => `(tactic| first
  | (refine nm_loc (by assumption) (by first | assumption | exact rfl) ?_)
  | (refine nm_loc (Gn.F (by assumption)) (by first | assumption | exact rfl) ?_)
  | (refine nm_glob (Gn.F (by assumption)) (by k_is) ?_)
  | (refine nm_built (Gn.F (by assumption)) (by k_is) (by boot_by_name) ?_)
  | (refine nm_glob (by assumption) (by k_is) ?_)
  | (refine nm_built (by assumption) (by k_is) (by boot_by_name) ?_))
local macro_rules | `(tactic| walk_at "callWith ref") => `(tactic| first
  | (refine callWith_K0 (Gd.K (Fx.gd (by assumption))) (by k_is) ?_)
  | (refine callWith_K (Gd.K (Fx.gd (by assumption))) (by k_is) ?_)
  | (refine callWith_K0 (Gd.K (Gn.gd (by assumption))) (by k_is) ?_)
  | (refine callWith_K (Gd.K (Gn.gd (by assumption))) (by k_is) ?_))
local macro_rules | `(tactic| walk_at "And") => `(tactic| first
  | ((with_reducible show Frag.In _ _ ∧ _); refine ⟨Gd.K (Fx.gd (by assumption)), ?_⟩; try dsimp only [List.nil_append, List.cons_append])
  | ((with_reducible show Frag.In _ _ ∧ _); refine ⟨Gd.K (Gn.gd (by assumption)), ?_⟩; try dsimp only [List.nil_append, List.cons_append]))
local macro_rules | `(tactic| walk_at "room") => `(tactic| (simp only [over_u, over_d, overL_u, overL_d, overB_u, overB_d, Around.deeper, Around.in1, Around.mark]; omega))
local macro_rules | `(tactic| walk_at "nat") => `(tactic| first | omega | (show @Ne Nat _ _; omega) | (show @LE.le Nat _ _ _; omega) | (show @LT.lt Nat _ _ _; omega) | (show @Eq Nat _ _ → False; omega))

/-- two values that compare equal -/
def EqT (w : World) (g : PM) (c : Nat) (x y : Value) : Prop := ∀ (prog : Program) (A : Around) (E : Value → Shared → Prop) (s : Shared) (Q : Bool → Shared → Prop), A.units + c < cLine → A.depth + c < recursionLimit → Gd w s.heap → g.on s.heap →
  (∀ s', Grow s s' → Q true s') → wpAny (model prog w) A (eqBool x y) Q E s

open AutoSeq1 (wpAny_loadPart')
open MeetsSeq MeetsSeq2 MeetsSeq3 SeqRoads2
theorem eq_loop {l b : Addr} {xs ys : List Value} {ol ob : Obj} {n n' c : Nat} (hl : g l = some ol) (hlc : ol.cls = .type "list") (hld : ol.data = .seq xs.toArray n) (hb : g b = some ob) (hbc : ob.cls = .type "list") (hbd : ob.data = .seq ys.toArray n') (hlen : xs.length = ys.length)
    (eq : ∀ (i : Nat) x y, xs[i]? = some x → ys[i]? = some y → EqT w g c x y) (k : Nat) : ∀ {A : Around} {s : Shared} {R : Result → Shared → Prop} (i : Nat), A.units + c + 1 < cLine → A.depth + c < recursionLimit → Gd w s.heap → g.on s.heap → xs.length - i = k → (∀ s', Grow s s' → R (.ok (.ret (.bool true))) s') →
      codeAny (model prog w) A (.builtin "list.__eq__.loop" ⟨[.ref l, .ref b, rawInt i, rawInt 2], []⟩) R s := by
  obtain ⟨c1, d1, dt1, sl1⟩ := ol
  obtain ⟨c2, d2, dt2, sl2⟩ := ob
  dsimp only at hlc hld hbc hbd
  subst hlc hld hbc hbd
  induction k with
  | zero =>
    intro A s R i hu hr G on hk h
    obtain ⟨hp, gg, d, tk, os⟩ := s
    have hl' := on _ _ hl
    have hb' := on _ _ hb
    refine codeAny_builtin entry_eq_loop ?_
    rw [Around.under_plainId plain_eq_loop _]
    have hi1 : xs.toArray[((i : Nat) : Int).toNat]? = none := by simp; omega
    have hi2 : ys.toArray[((i : Nat) : Int).toNat]? = none := by simp; omega
    wp_walk using wpAny_loadPart' hl', wpAny_loadPart' hb'
    rw [hi1, hi2]
    wp_walk using wpAny_loadPart' hl', wpAny_loadPart' hb'
    show R (.ok (.ret (.bool (xs.toArray.size == ys.toArray.size)))) _
    rw [show (xs.toArray.size == ys.toArray.size) = true by simp [hlen]]
    exact h _ .refl
  | succ k ih =>
    intro A s R i hu hr G on hk h
    obtain ⟨hp, gg, d, tk, os⟩ := s
    have hl' := on _ _ hl
    have hb' := on _ _ hb
    refine codeAny_builtin entry_eq_loop ?_
    rw [Around.under_plainId plain_eq_loop _]
    have hlt : i < xs.length := by omega
    have hlt2 : i < ys.length := by omega
    have hi1 : xs.toArray[((i : Nat) : Int).toNat]? = some xs[i] := by simp [hlt]
    have hi2 : ys.toArray[((i : Nat) : Int).toNat]? = some ys[i] := by simp [hlt2]
    have hc : ((i : Int) + 1) = ((i + 1 : Nat) : Int) := by push_cast; rfl
    wp_walk using wpAny_loadPart' hl', wpAny_loadPart' hb'
    rw [hi1, hi2]
    refine wpAny_bind (eq i _ _ (by simp [hlt]) (by simp [hlt2]) prog A.in1 _ _ _ (by simp only [Around.in1]; omega) (by simp only [Around.in1]; omega) G on fun s' Gr => ?_)
    rw [if_pos rfl, hc]
    exact wpAny_pure ⟨plainId_quiet plain_eq_loop _, ih (i + 1) hu hr (G.keeps Gr.keep) (on.keeps Gr.keep) (by omega) fun s'' Gr' => h s'' (Gr.trans Gr')⟩

theorem rc_list {l b : Addr} {xs ys : List Value} {c : Nat} {Q : Value → Shared → Prop} (Ll : LstAt g l xs) (Lb : LstAt g b ys) (hlen : xs.length = ys.length) (eq : ∀ (i : Nat) x y, xs[i]? = some x → ys[i]? = some y → EqT w g c x y)
    (hu : A.units + c + 10 < cLine) (hr : A.depth + c < recursionLimit) (G : Gd w s.heap) (on : g.on s.heap) (h : ∀ s', Grow s s' → Q (.bool true) s') : wpAny (model prog w) A (richCompare .Eq (.ref l) (.ref b)) Q E s := by
  obtain ⟨ol, hl, hlc, n, hld⟩ := Ll
  obtain ⟨ob, hb, hbc, n', hbd⟩ := Lb
  have ha : s.TypeIs (.ref l) "list" := ⟨ol, on _ _ hl, hlc⟩
  have hb' : s.TypeIs (.ref b) "list" := ⟨ob, on _ _ hb, hbc⟩
  refine wpAny_richCompare_same_room ha hb' PySem.F.slot_list_eq (wpAny_call (codeAny_call_builtin PySem.F.slot_list_eq.plain PySem.F.entry_list_eq (PySem.F.slot_list_eq.check _ _ _ _ _ _ _ _ ha (PySem.F.args_list_eq_2 _ _) ?_))) (by omega)
  have L := @eq_loop prog w g l b xs ys ol ob n n' c hl hlc hld hb hbc hbd hlen eq (xs.length - 0) A
  have hl' := on _ _ hl
  have hbb := on _ _ hb
  obtain ⟨c1, d1, dt1, sl1⟩ := ol
  obtain ⟨c2, d2, dt2, sl2⟩ := ob
  dsimp only at hlc hld hbc hbd
  subst hlc hld hbc hbd
  obtain ⟨hp, gg, d, tk, os⟩ := s
  have f3 := AutoSeq1.sub_list_list
  have hne : ¬ (xs.toArray.size != ys.toArray.size) = true := by simp [hlen]
  wp_walk using wpAny_loadPart' hl', wpAny_loadPart' hbb
  refine ⟨plainId_quiet plain_eq_loop _, ?_⟩
  exact L 0 (by omega) (by omega) G on rfl fun s' Gr => ⟨by simp, h s' Gr⟩
theorem eqT_list {l b : Addr} {xs ys : List Value} {c : Nat} (Ll : LstAt g l xs) (Lb : LstAt g b ys) (hlen : xs.length = ys.length) (eq : ∀ (i : Nat) x y, xs[i]? = some x → ys[i]? = some y → EqT w g c x y) : EqT w g (c + 20) (.ref l) (.ref b) := by
  intro prog A E s Q hu hr G on h
  unfold eqBool
  refine wpAny_holding ?_
  split
  · exact wpAny_bind (wpAny_rule (wpAny_pure (h s .refl)))
  · refine wpAny_bind (rc_list Ll Lb hlen eq (by omega) (by omega) G on fun s' Gr => ?_)
    exact wpAny_truthy_bool (h s' Gr)
theorem eqT_plain {u : Tm} {x y : Value} (hp : u.plain = true) (R : Rep g u x) (R' : Rep g u y) : EqT w g 100 x y := by
  intro prog A E s Q hu hr G on h
  have key : wpAny (model prog w) A (richCompare .Eq x y) (fun v s' => wpAny (model prog w) A (truthOfDropped v) Q E s') E s := by
    refine eq_plain hu (by omega) G on hp hp R R' fun s' Gr => ?_
    simp only [decide_true]
    exact wpAny_truthy_bool (h s' Gr)
  unfold eqBool
  refine wpAny_holding ?_
  split
  · exact wpAny_bind (wpAny_rule (wpAny_pure (h s .refl)))
  · split
    · rename_i e
      cases u with
      | int n => obtain ⟨t, rfl⟩ := R.int_is; cases e
      | var k => obtain ⟨a, rfl, _⟩ := R.var_is; cases e
      | nil _ => cases hp
      | cons _ _ => cases hp
    · exact wpAny_bind key
end

end Mine
end
section
open PySem PySem.W PyProof.Rows PySem.Calls
open PySem.W.X (SegX wake_any)
set_option Elab.async false
set_option maxRecDepth 100000
set_option maxHeartbeats 8000000
namespace Mine
set_option pp.maxSteps 600
theorem fill30 : (fun (_ : OpenLaw) (_ : Params → Frag) => True) PySem.Challenge.rw_fe0181_02 hd2.heap_39 := by
  k_fill; trivial
local macro_rules | `(tactic| walk_at "eval Name") => `(tactic| first
  | (refine nm_loc (by assumption) (by first | with_reducible assumption | assumption | exact rfl) ?_)
  | (refine nm_glob (by assumption) (by k_is) ?_)
  | (refine nm_built (by assumption) (by k_is) (by boot_by_name) ?_))
local macro_rules | `(tactic| walk_at "callWith ref") => `(tactic| first
  | (refine callWith_K0 (Gd.K (Fx.gd (by assumption))) (by k_is) ?_)
  | (refine callWith_K (Gd.K (Fx.gd (by assumption))) (by k_is) ?_))
local macro_rules | `(tactic| walk_at "And") => `(tactic| ((with_reducible show Frag.In _ _ ∧ _); refine ⟨Gd.K (Fx.gd (by assumption)), ?_⟩; try dsimp only [List.nil_append, List.cons_append]))
local macro_rules | `(tactic| walk_at "room") => `(tactic| (simp only [Around.deeper, Around.in1, Around.mark]; omega))
local macro_rules | `(tactic| walk_at "go") => `(tactic| repeat' (first | (k_unfold; (try dsimp only)) | walk1 | (dsimp only; walk1)))
section
variable {prog : Program} {w : World} {A : Around} {E : Value → Shared → Prop} {s : Shared} {env : Env} {h₀ : Heap} {g : PM} {m : Str → Option Value}
local macro_rules | `(tactic| walk_at "eval Name") => `(tactic| first
  | (refine nm_loc (by assumption) (by first | assumption | exact rfl) ?_)
  | (refine nm_loc (Gn.F (by assumption)) (by first | assumption | exact rfl) ?_)
  | (refine nm_glob (Gn.F (by assumption)) (by k_is) ?_)
  | (refine nm_built (Gn.F (by assumption)) (by k_is) (by boot_by_name) ?_)
  | (refine nm_glob (by assumption) (by k_is) ?_)
  | (refine nm_built (by assumption) (by k_is) (by boot_by_name) ?_))
local macro_rules | `(tactic| walk_at "callWith ref") => `(tactic| first
  | (refine callWith_K0 (Gd.K (Fx.gd (by assumption))) (by k_is) ?_)
  | (refine callWith_K (Gd.K (Fx.gd (by assumption))) (by k_is) ?_)
  | (refine callWith_K0 (Gd.K (Gn.gd (by assumption))) (by k_is) ?_)
  | (refine callWith_K (Gd.K (Gn.gd (by assumption))) (by k_is) ?_))
local macro_rules | `(tactic| walk_at "And") => `(tactic| first
  | ((with_reducible show Frag.In _ _ ∧ _); refine ⟨Gd.K (Fx.gd (by assumption)), ?_⟩; try dsimp only [List.nil_append, List.cons_append])
  | ((with_reducible show Frag.In _ _ ∧ _); refine ⟨Gd.K (Gn.gd (by assumption)), ?_⟩; try dsimp only [List.nil_append, List.cons_append]))
local macro_rules | `(tactic| walk_at "room") => `(tactic| (simp only [over_u, over_d, overL_u, overL_d, overB_u, overB_d, Around.deeper, Around.in1, Around.mark]; omega))
local macro_rules | `(tactic| walk_at "nat") => `(tactic| first | omega | (show @Ne Nat _ _; omega) | (show @LE.le Nat _ _ _; omega) | (show @LT.lt Nat _ _ _; omega) | (show @Eq Nat _ _ → False; omega))

theorem for_src {target : Expr} {body : List Stmt} {I : Addr} {fp : List Addr} {n : Nat} {P : Nat → Value → Prop} {St : Nat → Heap → Prop} {R : Result → Shared → Prop} (J : Nat → Shared → Prop) (S : Src prog w A I fp n P St)
    (hJ : ∀ i s h' tk, J i s → (∀ b o, b ≠ I → s.heap.get? b = some o → h'.get? b = some o) → s.toks ≤ tk → J i { s with heap := h', toks := tk })
    (turn : ∀ i v (s : Shared), i < n → P i v → St (i + 1) s.heap → J i s → wpAny (model prog w) A (assign target env v) (fun _ s2 => wpAny (model prog w) A (execs body env) (fun f s4 => match f with
      | .next | .cont => St (i + 1) s4.heap ∧ J (i + 1) s4
      | .brk => R (.ok .next) s4
      | .ret v => R (.ok (.ret v)) s4) (fun _ _ => False) s2) (fun _ _ => False) s)
    (done : ∀ s, J n s → R (.ok .next) s) (h0 : St 0 s.heap) (j0 : J 0 s) (ht : ∀ v, letOwnedTupleGo target (.ref I) v = pure () := by intro _; rfl) :
    codeAny (model prog w) A (.forLoop target (.ref I) body [] env) R s := by
  refine loop_indC (Inv := fun k s => ∃ i, i ≤ n ∧ k = n - i ∧ St i s.heap ∧ J i s) ?_ n s ⟨0, Nat.zero_le _, rfl, h0, j0⟩
  rintro k s ih ⟨i, hi, rfl, st, j⟩
  refine codeAny_for1 ?_
  by_cases hlt : i < n
  · refine S.item i _ _ _ hlt st fun v h' tk hP st' k le => ?_
    dsimp only
    refine wpAny_of_eq (ht v) ?_
    refine wpAny_mono (turn i v _ hlt hP st' (hJ _ _ _ _ j k le)) (fun _ s2 h2 => wpAny_mono h2 (fun f s4 h4 => ?_) fun _ _ e => e) fun _ _ e => e
    cases f with
    | next => exact ih _ _ (by omega) ⟨i + 1, hlt, rfl, h4.1, h4.2⟩
    | cont => exact ih _ _ (by omega) ⟨i + 1, hlt, rfl, h4.1, h4.2⟩
    | brk => exact h4
    | ret v => exact h4
  · obtain rfl : i = n := Nat.le_antisymm hi (Nat.not_lt.mp hlt)
    refine S.done _ _ _ st fun h' tk k le => ?_
    dsimp only
    exact wpAny_execs_nil (done _ (hJ _ _ _ _ j k le))

/-- what is asked, question by question -/
def fndF (rec : Sub → Option (List Sub)) (N : Nat) (σ : Sub) (q : Tm) : List Tm → List Sub → Option (List Sub)
  | [], acc => some acc
  | f :: fs, acc => match uni N σ q f with
    | none => none
    | some none => fndF rec N σ q fs acc
    | some (some σ') => match rec σ' with
      | none => none
      | some rs => fndF rec N σ q fs (acc ++ rs)
def fnd (N : Nat) (fs : List Tm) : List Tm → Sub → Option (List Sub)
  | [], σ => some [σ]
  | q :: qs, σ => fndF (fnd N fs qs) N σ q fs []
theorem fndF_len {rec : Sub → Option (List Sub)} {N : Nat} {σ : Sub} {q : Tm} : ∀ {fs : List Tm} {acc rs : List Sub}, fndF rec N σ q fs acc = some rs → acc.length ≤ rs.length
  | [], acc, rs, h => by simp [fndF] at h; rw [h]; exact Nat.le_refl _
  | f :: fs, acc, rs, h => by
    unfold fndF at h
    split at h
    · cases h
    · exact fndF_len h
    · split at h
      · cases h
      · have := fndF_len h
        rw [List.length_append] at this; omega
def FOK (w : World) (g : PM) (N : Nat) (t : Tm) (v : Value) : List Tm → List Value → Prop
  | [], [] => True
  | t' :: ts, v' :: vs => Rep g t' v' ∧ (∀ σ r, uni N σ t t' = some r → SameOK w g v v' (r = some σ)) ∧ FOK w g N t v ts vs
  | _, _ => False
def QOK (w : World) (g : PM) (N : Nat) (ft : List Tm) (fv : List Value) : List Tm → List Value → Prop
  | [], [] => True
  | t :: ts, v :: vs => Rep g t v ∧ FOK w g N t v ft fv ∧ QOK w g N ft fv ts vs
  | _, _ => False
def SubsAt (g : PM) : List Sub → List Value → Prop
  | [], [] => True
  | σ :: σs, v :: vs => SubAt g v σ ∧ SubsAt g σs vs
  | _, _ => False
theorem SameOK.le {g g' : PM} {a b : Value} {p : Prop} (S : SameOK w g a b p) (l : g.le g') : SameOK w g' a b p := fun prog A E s Q h1 h2 G on h => S prog A E s Q h1 h2 G (on.of_le l) h
theorem FOK.le {g g' : PM} (l : g.le g') {N : Nat} {t : Tm} {v : Value} : ∀ {ts : List Tm} {vs : List Value}, FOK w g N t v ts vs → FOK w g' N t v ts vs
  | [], [], _ => trivial
  | _ :: _, _ :: _, ⟨R, S, r⟩ => ⟨R.le l, fun σ r h => (S σ r h).le l, r.le l⟩
  | [], _ :: _, h => h.elim
  | _ :: _, [], h => h.elim
theorem QOK.le {g g' : PM} (l : g.le g') {N : Nat} {ft : List Tm} {fv : List Value} : ∀ {ts : List Tm} {vs : List Value}, QOK w g N ft fv ts vs → QOK w g' N ft fv ts vs
  | [], [], _ => trivial
  | _ :: _, _ :: _, ⟨R, S, r⟩ => ⟨R.le l, S.le l, r.le l⟩
  | [], _ :: _, h => h.elim
  | _ :: _, [], h => h.elim
theorem SubsAt.le {g g' : PM} (l : g.le g') : ∀ {σs : List Sub} {vs : List Value}, SubsAt g σs vs → SubsAt g' σs vs
  | [], [], _ => trivial
  | _ :: _, _ :: _, ⟨R, r⟩ => ⟨R.le l, r.le l⟩
  | [], _ :: _, h => h.elim
  | _ :: _, [], h => h.elim
theorem SubsAt.append {g : PM} : ∀ {σs ρs : List Sub} {vs us : List Value}, SubsAt g σs vs → SubsAt g ρs us → SubsAt g (σs ++ ρs) (vs ++ us)
  | [], _, [], _, _, h => h
  | _ :: _, _, _ :: _, _, ⟨R, r⟩, h => ⟨R, r.append h⟩
  | [], _, _ :: _, _, h, _ => h.elim
  | _ :: _, _, [], _, h, _ => h.elim
theorem SubsAt.len {g : PM} : ∀ {σs : List Sub} {vs : List Value}, SubsAt g σs vs → vs.length = σs.length
  | [], [], _ => rfl
  | _ :: _, _ :: _, ⟨_, r⟩ => by simp [r.len]
  | [], _ :: _, h => h.elim
  | _ :: _, [], h => h.elim
theorem FOK.len {g : PM} {N : Nat} {t : Tm} {v : Value} : ∀ {ts : List Tm} {vs : List Value}, FOK w g N t v ts vs → vs.length = ts.length
  | [], [], _ => rfl
  | _ :: _, _ :: _, ⟨_, _, r⟩ => by simp [r.len]
  | [], _ :: _, h => h.elim
  | _ :: _, [], h => h.elim
theorem FOK.at {g : PM} {N : Nat} {t : Tm} {v : Value} : ∀ {ts : List Tm} {vs : List Value} {i : Nat} {v' : Value}, FOK w g N t v ts vs → vs[i]? = some v' → ∃ t' r, ts.drop i = t' :: r ∧ ts.drop (i + 1) = r ∧ Rep g t' v' ∧ (∀ σ r, uni N σ t t' = some r → SameOK w g v v' (r = some σ))
  | _ :: _, _ :: _, 0, _, ⟨R, S, _⟩, e => by
    simp only [List.getElem?_cons_zero, Option.some.injEq] at e
    subst e
    exact ⟨_, _, rfl, rfl, R, S⟩
  | _ :: _, _ :: _, i + 1, _, ⟨_, _, r⟩, e => by
    obtain ⟨t', r', e1, e2, e3, e4⟩ := r.at (i := i) (by simpa using e)
    exact ⟨t', r', by simpa using e1, by simpa using e2, e3, e4⟩
  | [], [], _, _, _, e => by simp at e
  | [], _ :: _, _, _, h, _ => h.elim
  | _ :: _, [], _, _, h, _ => h.elim
end

end Mine
end
section
open PySem PySem.W PyProof.Rows PySem.Calls
open PySem.W.X (SegX wake_any)
set_option Elab.async false
set_option maxRecDepth 100000
set_option maxHeartbeats 8000000
namespace Mine
set_option pp.maxSteps 600
theorem fill31 : (fun (_ : OpenLaw) (_ : Params → Frag) => True) PySem.Challenge.rw_fe0181_02 hd2.heap_39 := by
  k_fill; trivial
local macro_rules | `(tactic| walk_at "no such word 0") => `(tactic| fail)
local macro_rules | `(tactic| walk_at "eval Name") => `(tactic| first
  | (refine nm_loc (by assumption) (by first | with_reducible assumption | assumption | exact rfl) ?_)
  | (refine nm_glob (by assumption) (by k_is) ?_)
  | (refine nm_built (by assumption) (by k_is) (by boot_by_name) ?_))
local macro_rules | `(tactic| walk_at "callWith ref") => `(tactic| first
  | (refine callWith_K0 (Gd.K (Fx.gd (by assumption))) (by k_is) ?_)
  | (refine callWith_K (Gd.K (Fx.gd (by assumption))) (by k_is) ?_))
local macro_rules | `(tactic| walk_at "And") => `(tactic| ((with_reducible show Frag.In _ _ ∧ _); refine ⟨Gd.K (Fx.gd (by assumption)), ?_⟩; try dsimp only [List.nil_append, List.cons_append]))
local macro_rules | `(tactic| walk_at "room") => `(tactic| (simp only [Around.deeper, Around.in1, Around.mark]; omega))
local macro_rules | `(tactic| walk_at "go") => `(tactic| repeat' (first | (k_unfold; (try dsimp only)) | walk1 | (dsimp only; walk1)))
section
variable {prog : Program} {w : World} {A : Around} {E : Value → Shared → Prop} {s : Shared} {env : Env} {h₀ : Heap} {g : PM} {m : Str → Option Value}
local macro_rules | `(tactic| walk_at "eval Name") => `(tactic| first
  | (refine nm_loc (by assumption) (by first | assumption | exact rfl) ?_)
  | (refine nm_loc (Gn.F (by assumption)) (by first | assumption | exact rfl) ?_)
  | (refine nm_glob (Gn.F (by assumption)) (by k_is) ?_)
  | (refine nm_built (Gn.F (by assumption)) (by k_is) (by boot_by_name) ?_)
  | (refine nm_glob (by assumption) (by k_is) ?_)
  | (refine nm_built (by assumption) (by k_is) (by boot_by_name) ?_))
local macro_rules | `(tactic| walk_at "callWith ref") => `(tactic| first
  | (refine callWith_K0 (Gd.K (Fx.gd (by assumption))) (by k_is) ?_)
  | (refine callWith_K (Gd.K (Fx.gd (by assumption))) (by k_is) ?_)
  | (refine callWith_K0 (Gd.K (Gn.gd (by assumption))) (by k_is) ?_)
  | (refine callWith_K (Gd.K (Gn.gd (by assumption))) (by k_is) ?_))
local macro_rules | `(tactic| walk_at "And") => `(tactic| first
  | ((with_reducible show Frag.In _ _ ∧ _); refine ⟨Gd.K (Fx.gd (by assumption)), ?_⟩; try dsimp only [List.nil_append, List.cons_append])
  | ((with_reducible show Frag.In _ _ ∧ _); refine ⟨Gd.K (Gn.gd (by assumption)), ?_⟩; try dsimp only [List.nil_append, List.cons_append]))
local macro_rules | `(tactic| walk_at "room") => `(tactic| (simp only [over_u, over_d, overL_u, overL_d, overB_u, overB_d, Around.deeper, Around.in1, Around.mark]; omega))
local macro_rules | `(tactic| walk_at "nat") => `(tactic| first | omega | (show @Ne Nat _ _; omega) | (show @LE.le Nat _ _ _; omega) | (show @LT.lt Nat _ _ _; omega) | (show @Eq Nat _ _ → False; omega))

theorem rc_lens {l b : Addr} {xs ys : List Value} {Q : Value → Shared → Prop} (Ll : LstAt g l xs) (Lb : LstAt g b ys) (hne : xs.length ≠ ys.length) (hu : A.units < cLine) (on : g.on s.heap) (h : Q (.bool false) s) : wpAny (model prog w) A (richCompare .Eq (.ref l) (.ref b)) Q E s := by
  obtain ⟨⟨c1, d1, dt1, sl1⟩, hl, hlc, n, hld⟩ := Ll
  obtain ⟨⟨c2, d2, dt2, sl2⟩, hb, hbc, n', hbd⟩ := Lb
  dsimp only at hlc hld hbc hbd
  subst hlc hld hbc hbd
  have ha : s.TypeIs (.ref l) "list" := ⟨_, on _ _ hl, rfl⟩
  have hb' : s.TypeIs (.ref b) "list" := ⟨_, on _ _ hb, rfl⟩
  exact wpAny_richCompare_same_room ha hb' PySem.F.slot_list_eq (call_meets PySem.F.slot_list_eq ha PySem.F.entry_list_eq (PySem.F.args_list_eq_2 _ _) (SeqAt.list_eq_lengthsAt l b xs.toArray ys.toArray n n' d1 d2 sl1 sl2 (by simp [hne])) ⟨on _ _ hl, on _ _ hb, by simp, h⟩) hu


theorem Src.listL (hh : A.handled = none) (I ax : Addr) (hne : ax ≠ I) (its : List Value) : Src prog w A I [I, ax] its.length (fun i v => its[i]? = some v) (fun i h => h.IsListIter I ax i ∧ h.IsList ax its.toArray) := by
  have := Src.list (prog := prog) (w := w) hh I ax hne its.toArray
  simpa using this
theorem Src.tupleL (hh : A.handled = none) (I ax : Addr) (hne : ax ≠ I) (its : List Value) : Src prog w A I [I, ax] its.length (fun i v => its[i]? = some v) (fun i h => h.IsTupleIter I ax i ∧ h.IsTuple ax its.toArray) := by
  have := Src.tuple (prog := prog) (w := w) hh I ax hne its.toArray
  simpa using this

open AutoSeq1 (wpAny_loadPart')
theorem sub_bool_dict : isSubtype (.type "bool") (.type "dict") = pure false := by rw [isSubtype_type]; kernel_rfl
theorem sub_int_dict : isSubtype (.type "int") (.type "dict") = pure false := by rw [isSubtype_type]; kernel_rfl
theorem dict_ne_bool (l : Addr) (es : Array DictEntry) (n : Nat) (dd : Option Addr) (sl : Array (Option Value)) (b : Bool) :
    Meets (Builtin.«dict.__ne__» ⟨[.ref l, .bool b], []⟩) (fun _ R s => s.heap.get? l = some { cls := .type "dict", dict := dd, data := .dict es n, slots := sl } ∧ R (.ok (.ret .notImplemented)) s) :=
  .of_wp fun prog w A R s h => by obtain ⟨hp, g, d, tk, os⟩ := s; obtain ⟨hl, h⟩ := h; have f1 := sub_bool_dict; wp_walk using wpAny_loadPart' hl; exact ⟨_, rfl, h⟩
theorem bool_ne_dict (l : Addr) (es : Array DictEntry) (n : Nat) (dd : Option Addr) (sl : Array (Option Value)) (b : Bool) :
    Meets (Builtin.«int.__ne__» ⟨[.bool b, .ref l], []⟩) (fun _ R s => s.heap.get? l = some { cls := .type "dict", dict := dd, data := .dict es n, slots := sl } ∧ R (.ok (.ret .notImplemented)) s) :=
  .of_wp fun prog w A R s h => by obtain ⟨hp, g, d, tk, os⟩ := s; obtain ⟨hl, h⟩ := h; wp_walk using wpAny_loadPart' hl, wpAny_load hl; exact ⟨_, rfl, h⟩
theorem told_ne {vs : Value} {σ : Sub} {Q : Value → Shared → Prop} (S : SubAt g vs σ) (hu : A.units < cLine) (on : g.on s.heap) (h : Q (.bool true) s) : wpAny (model prog w) A (compareOp .NotEq vs (.bool false)) Q E s := by
  obtain ⟨d, xs, rfl, ⟨⟨n, hd⟩, _, _, _⟩, _⟩ := S
  show wpAny _ _ (richCompare .NotEq _ _) _ _ _
  have ha : s.TypeIs (.ref d) "dict" := ⟨_, on _ _ hd, rfl⟩
  have hb : s.TypeIs (.bool false) "bool" := rfl
  exact SeqAt.rc_ne_decline_or (k := false) ha hb (by decide) (by rw [isSubtype_type]; kernel_rfl) PySem.F.slot_dict_ne PySem.F.slot_bool_ne_refl (fun Q' q => call_meets PySem.F.slot_dict_ne ha PySem.F.entry_dict_ne (PySem.F.args_dict_ne_2 _ _) (dict_ne_bool d _ _ _ _ false) ⟨on _ _ hd, q⟩)
    (fun Q' q => call_meets PySem.F.slot_bool_ne_refl hb PySem.F.entry_int_ne (PySem.F.args_int_ne_2 _ _) (bool_ne_dict d _ _ _ _ false) ⟨on _ _ hd, q⟩) (fun Q' q => wpAny_pure q) (.inr hu) h
theorem add_lst {l b : Addr} {xs ys : List Value} {Q : Value → Shared → Prop} (Ll : LstAt g l xs) (Lb : LstAt g b ys) (on : g.on s.heap) (hz : xs.length + ys.length ≤ 100000)
    (h : Q (.ref s.heap.objs.size) { s with heap := s.heap.push { cls := .type "list", data := .seq (xs ++ ys).toArray } }) : wpAny (model prog w) A (binaryOp .Add (.ref l) (.ref b)) Q E s := by
  obtain ⟨⟨c1, d1, dt1, sl1⟩, hl, hlc, n, hld⟩ := Ll
  obtain ⟨⟨c2, d2, dt2, sl2⟩, hb, hbc, n', hbd⟩ := Lb
  dsimp only at hlc hld hbc hbd
  subst hlc hld hbc hbd
  have e : xs.toArray ++ ys.toArray = (xs ++ ys).toArray := by simp
  refine concat_meets ⟨_, on _ _ hl, rfl⟩ ⟨_, on _ _ hb, rfl⟩ noFill_list_add seq_list_add PySem.F.slot_list_add PySem.F.entry_list_add (PySem.F.args_list_add_2 _ _) (list_addW l b xs.toArray ys.toArray n n' d1 d2 sl1 sl2 (by simp only [List.size_toArray]; rw [sizeLine_eq]; omega)) ⟨on _ _ hl, on _ _ hb, ?_⟩
  rw [e]
  exact h
theorem slice_fx {base : Heap} {L l : Addr} {value slice : Expr} {xs r : List Value} {vl vu : Value} {lo hi : Option Int} {Q : Value → Shared → Prop} (F : Fx w base g L s.heap m) (Ll : LstAt g l xs) (pl : IsPart vl lo) (pu : IsPart vu hi) (hr : slicePick xs.toArray lo hi none = r.toArray) (hz : xs.length ≤ 100000)
    (h : ∀ g' h' D, Fx w base g' L h' m → (∀ b o, s.heap.get? b = some o → h'.get? b = some o) → Ext s.heap.objs.size g g' → s.heap.objs.size ≤ h'.objs.size → LstAt g' D r → Q (.ref D) { s with heap := h' })
    (hs : subscripted slice false (.ref l) (.ref s.heap.objs.size) = operate [.ref s.heap.objs.size, .ref l] (getItem (.ref l) (.ref s.heap.objs.size)) := by with_unfolding_all rfl)
    (ht : ∀ r, letTemporaryGo value (.ref l) r = pure () := by intro _; with_unfolding_all rfl) :
    wpAny (model prog w) A (subscriptTail value slice (.ref l) (.ref s.heap.objs.size)) Q E { s with heap := s.heap.push { cls := .type "slice", data := .fields #[vl, vu, .none] } } := by
  refine slice_listK (Ll.is F.on) pl pu ?_ hs ht (hsz := by rw [List.size_toArray, sizeLine_eq]; omega)
  rw [hr]
  have F1 := F.push { cls := .type "slice", data := .fields #[vl, vu, .none] }
  have F2 := F1.push { cls := .type "list", data := .seq r.toArray }
  have X1 := Ext.ins (o := { cls := .type "slice", data := .fields #[vl, vu, .none] }) (Nat.le_refl s.heap.objs.size) F.none_at
  have X2 := Ext.ins (o := { cls := .type "list", data := .seq r.toArray }) (show s.heap.objs.size ≤ (s.heap.push { cls := .type "slice", data := .fields #[vl, vu, .none] }).objs.size by rw [Heap.size_push]; exact Nat.le_succ _) F1.none_at
  refine h _ _ _ F2 (fun b o e => Heap.get?_push_of_some _ (Heap.get?_push_of_some _ e)) (X1.trans X2 (Nat.le_refl _)) (by rw [Heap.size_push, Heap.size_push]; omega) ⟨{ cls := .type "list", data := .seq r.toArray }, ?_, rfl, _, rfl⟩
  rw [Heap.size_push]
  exact PM.ins_self _ _ _
theorem found_call {N : Nat} {ft : List Tm} {fv : List Value} (hN : N + 2 ≤ 3000) (hfv : fv.length ≤ 100) : ∀ (qt : List Tm) {A : Around} {s : Shared} {g : PM} {qv : List Value} {σ : Sub} {rs : List Sub} {aq af : Addr} {vs : Value} {base : Heap} {outer : List Env} {R : Result → Shared → Prop}, qv.length ≤ 100 →
    A.units + 5100 + 100 * qt.length < cLine → A.depth + 110 + 10 * qt.length < recursionLimit → Up w base g A outer s.heap → (∀ env ∈ outer, ∀ L, env.frame = some L → L < s.heap.objs.size) → LstAt g aq qv → LstAt g af fv → QOK w g N ft fv qt qv → SubAt g vs σ →
    fnd N ft qt σ = some rs → rs.length ≤ 1000 → (∀ g' s' D ys, LstAt g' D ys → SubsAt g' rs ys → Tn False base g g' s s' → R (.ok (.ret (.ref D))) s') → codeAny (model prog w) A (.call (.ref 290) ⟨[.ref aq, .ref af, vs], []⟩) R s
  | [], A, s, g, qv, σ, rs, aq, af, vs, base, outer, R, hqv, hu, hroom, U, hfl, Lq, Lf, QO, S, hr, hrs, h => by
    refine enterB (binds := [("questions", .ref aq), ("facts", .ref af), ("s", vs)]) U (by k_is) (by k_is) rfl (by omega) (BindsTo.of_eq rfl) (by decide) (locs rfl) (fun h₁ F kk hfr => ?_)
    k_fold
    have Gr1 : Grow s ⟨h₁, s.gens, s.drawn, s.toks + 3, s.os⟩ := ⟨kk, fun _ _ e => e, id, Nat.le_of_lt F.ns.lt, rfl⟩
    repeat walk1
    refine wpAny_newObj_type ?_
    have F1 := F.push { cls := .type "list", data := .seq ([] : List Value).toArray }
    have le1 : g.le (g.ins h₁.objs.size { cls := .type "list", data := .seq ([] : List Value).toArray }) := (Ext.ins (k := 0) (Nat.zero_le _) F.none_at).le
    have X1 : Ext s.heap.objs.size g (g.ins h₁.objs.size { cls := .type "list", data := .seq ([] : List Value).toArray }) := Ext.ins (Nat.le_of_lt F.ns.lt) F.none_at
    have kp1 : ∀ b o, h₁.get? b = some o → (h₁.push { cls := .type "list", data := .seq ([] : List Value).toArray }).get? b = some o := fun b o e => Heap.get?_push_of_some _ e
    have Ln : LstAt (g.ins h₁.objs.size { cls := .type "list", data := .seq ([] : List Value).toArray }) h₁.objs.size [] := ⟨_, PM.ins_self _ _ _, rfl, _, rfl⟩
    have ql : qv = [] := by cases qv with
      | nil => rfl
      | cons _ _ => exact QO.elim
    subst ql
    obtain rfl : rs = [σ] := by simpa [fnd] using hr.symm
    repeat walk1
    show wpAny _ _ (richCompare .Eq _ _) _ _ _
    refine rc_list (c := 1) (Lq.le le1) Ln rfl (fun i x y hx _ => by simp at hx) ?_ ?_ F1.gd F1.on (fun s2 Gr2 => ?_)
    · walk_at "room"
    · walk_at "room"
    have F2 := F1.after0 Gr2
    repeat walk1
    refine wpAny_newObj_type ?_
    have F3 := F2.push { cls := .type "list", data := .seq ([vs] : List Value).toArray }
    have le3 := (Ext.ins (k := 0) (o := { cls := .type "list", data := .seq ([vs] : List Value).toArray }) (Nat.zero_le _) F2.none_at).le
    have kp3 : ∀ b o, s2.heap.get? b = some o → (s2.heap.push { cls := .type "list", data := .seq ([vs] : List Value).toArray }).get? b = some o := fun b o e => Heap.get?_push_of_some _ e
    have Gz : Grow s s2 := Gr1.trans (Grow.trans (s' := { heap := h₁.push { cls := .type "list", data := .seq ([] : List Value).toArray }, gens := s.gens, drawn := s.drawn, toks := s.toks + 3, os := s.os }) ⟨kp1, fun _ _ e => e, id, by rw [Heap.size_push]; exact Nat.le_succ _, rfl⟩ ⟨Gr2.keep, Gr2.gens, Gr2.bare, Gr2.size, Gr2.os⟩)
    repeat walk1
    exact h _ _ _ [vs] ⟨_, PM.ins_self _ _ _, rfl, _, rfl⟩ ⟨S.le (le1.trans le3), trivial⟩ (Tn.grow (Gz.trans (Grow.trans (s' := { s2 with heap := s2.heap.push { cls := .type "list", data := .seq ([vs] : List Value).toArray } }) ⟨kp3, fun _ _ e => e, id, by rw [Heap.size_push]; exact Nat.le_succ _, rfl⟩ .refl)) (X1.trans (Ext.ins (Nat.le_refl _) F2.none_at) Gz.size) F3.on U.stays fun z => z.elim)
  | q :: qt, A, s, g, qv, σ, rs, aq, af, vs, base, outer, R, hqv, hu, hroom, U, hfl, Lq, Lf, QO, S, hr, hrs, h => by
    refine enterB (binds := [("questions", .ref aq), ("facts", .ref af), ("s", vs)]) U (by k_is) (by k_is) rfl (by omega) (BindsTo.of_eq rfl) (by decide) (locs rfl) (fun h₁ F kk hfr => ?_)
    k_fold
    have Gr1 : Grow s ⟨h₁, s.gens, s.drawn, s.toks + 3, s.os⟩ := ⟨kk, fun _ _ e => e, id, Nat.le_of_lt F.ns.lt, rfl⟩
    repeat walk1
    refine wpAny_newObj_type ?_
    have F1 := F.push { cls := .type "list", data := .seq ([] : List Value).toArray }
    have le1 : g.le (g.ins h₁.objs.size { cls := .type "list", data := .seq ([] : List Value).toArray }) := (Ext.ins (k := 0) (Nat.zero_le _) F.none_at).le
    have X1 : Ext s.heap.objs.size g (g.ins h₁.objs.size { cls := .type "list", data := .seq ([] : List Value).toArray }) := Ext.ins (Nat.le_of_lt F.ns.lt) F.none_at
    have kp1 : ∀ b o, h₁.get? b = some o → (h₁.push { cls := .type "list", data := .seq ([] : List Value).toArray }).get? b = some o := fun b o e => Heap.get?_push_of_some _ e
    have Ln : LstAt (g.ins h₁.objs.size { cls := .type "list", data := .seq ([] : List Value).toArray }) h₁.objs.size [] := ⟨_, PM.ins_self _ _ _, rfl, _, rfl⟩
    obtain ⟨v0, qv', rfl⟩ : ∃ v0 qv', qv = v0 :: qv' := by cases qv with
      | nil => exact QO.elim
      | cons a b => exact ⟨a, b, rfl⟩
    obtain ⟨Rq, FO, QO'⟩ := QO
    repeat walk1
    show wpAny _ _ (richCompare .Eq _ _) _ _ _
    refine rc_lens (Lq.le le1) Ln (by simp) ?_ F1.on ?_
    · walk_at "room"
    repeat walk1
    refine wpAny_newObj_type ?_
    generalize g.ins h₁.objs.size { cls := .type "list", data := .seq ([] : List Value).toArray } = g1 at F1 le1 X1 Ln
    have F2 := F1.push { cls := .type "list", data := .seq ([] : List Value).toArray }
    have le2 := (Ext.ins (k := 0) (o := { cls := .type "list", data := .seq ([] : List Value).toArray }) (Nat.zero_le _) F1.none_at).le
    have X2 := X1.trans (Ext.ins (o := { cls := .type "list", data := .seq ([] : List Value).toArray }) (Nat.le_refl _) F1.none_at) (Nat.le_of_lt F1.ns.lt)
    have kp2 : ∀ b o, h₁.get? b = some o → ((h₁.push { cls := .type "list", data := .seq ([] : List Value).toArray }).push { cls := .type "list", data := .seq ([] : List Value).toArray }).get? b = some o := fun b o e => Heap.get?_push_of_some _ (Heap.get?_push_of_some _ e)
    have L2 : LstAt (g1.ins (h₁.push { cls := .type "list", data := .seq ([] : List Value).toArray }).objs.size { cls := .type "list", data := .seq ([] : List Value).toArray }) (h₁.push { cls := .type "list", data := .seq ([] : List Value).toArray }).objs.size [] := ⟨_, PM.ins_self _ _ _, rfl, _, rfl⟩
    have sz2 : h₁.objs.size ≤ ((h₁.push { cls := .type "list", data := .seq ([] : List Value).toArray }).push { cls := .type "list", data := .seq ([] : List Value).toArray }).objs.size := by rw [Heap.size_push, Heap.size_push]; omega
    revert F2 le2 X2 kp2 L2 sz2
    generalize g1.ins (h₁.push { cls := .type "list", data := .seq ([] : List Value).toArray }).objs.size { cls := .type "list", data := .seq ([] : List Value).toArray } = g2
    generalize (h₁.push { cls := .type "list", data := .seq ([] : List Value).toArray }).objs.size = d2
    generalize (h₁.push { cls := .type "list", data := .seq ([] : List Value).toArray }).push { cls := .type "list", data := .seq ([] : List Value).toArray } = h2
    intro F2 le2 X2 kp2 L2 sz2
    repeat walk1
    refine st_loc F2 (fun h3 F3 sb3 => ?_)
    have k3 : ∀ b o, s.heap.get? b = some o → h3.get? b = some o := fun b o e => sb3.extBut b o (Nat.ne_of_lt (Heap.lt_size e)) (kp2 _ _ (kk _ _ e))
    have sz3 : h₁.objs.size ≤ h3.objs.size := by rw [sb3.1]; exact sz2
    have lL : s.heap.objs.size < h₁.objs.size := F.ns.lt
    repeat walk1
    refine wpAny_For ?_
    repeat walk1
    have T3 : Tn False base g g2 s ⟨h3, s.gens, s.drawn, s.toks + 3 + 1, s.os⟩ := ⟨⟨fun b o _ _ e => ⟨o.slots, k3 b o e⟩, fun _ _ _ e => e, id, Nat.le_trans (Nat.le_of_lt lL) sz3, Nat.le_refl _, rfl⟩, X2, F3.on, F3.keep, fun z => z.elim⟩
    have leg2 : g.le g2 := le1.trans le2
    have bL : base.objs.size ≤ h3.objs.size := Nat.le_of_lt F3.lt
    refine iter_list (tm := False) ⟨h3, s.gens, s.drawn, s.toks + 3 + 1, s.os⟩ F3 (Tn.refl F3.on F3.keep) (Lf.le leg2) F3.ns.lt bL (fun I s4 F4 T4 st4 ne4 fr4 gI4 => ?_)
    have hh : ∀ env, (A.deeper env).handled = none := fun _ => U.hd
    have T34 := T3.trans T4
    obtain ⟨frI1, frI2, frI3⟩ := fr4
    have gaf : ∃ o, g af = some o := let ⟨o, e, _⟩ := Lf; ⟨o, e⟩
    have afL : af ≠ s.heap.objs.size := fun e => by obtain ⟨o, q⟩ := gaf; rw [e, F.off] at q; cases q
    have FOl : fv.length = ft.length := FO.len
    refine for_src (P := fun i v => fv[i]? = some v) (n := fv.length) (J := fun i s' => ∃ g' m' rsa ys Da, Fx w base g' s.heap.objs.size s'.heap m' ∧ Tn False base g g' s s' ∧ g2.le g' ∧ LstAt g' Da ys ∧ SubsAt g' rsa ys ∧ fndF (fnd N ft qt) N σ q (ft.drop i) rsa = some rs ∧
        m' "questions" = some (.ref aq) ∧ m' "facts" = some (.ref af) ∧ m' "s" = some vs ∧ m' "found" = some (.ref Da) ∧ g' I = none) (Src.listL (hh _) I af ne4 fv) ?_ ?_ ?_ st4
        ⟨g2, _, [], [], d2, F4, T34, .refl, L2, trivial, by simpa [fnd] using hr, rfl, rfl, rfl, rfl, gI4⟩
    · rintro i s5 h' tk ⟨g', m', rsa, ys, Da, F5, T5, l5, La, Sa, hf, mq, mf, ms, mo, gI⟩ k le
      have IL : I ≠ s.heap.objs.size := frI2
      have F6 := F5.but k IL gI frI3
      have Is : s.heap.objs.size ≤ I := Nat.le_trans (Nat.le_trans (Nat.le_of_lt lL) sz3) frI1
      exact ⟨g', m', rsa, ys, Da, F6, T5.but k Is gI frI3 (Nat.le_of_lt F6.ns.lt) le, l5, La, Sa, hf, mq, mf, ms, mo, gI⟩
    · intro i v s5 hi hP st5 ⟨g5, m5, rsa, ys, Da, F5, T5, l5, La, Sa, hf, mq, mf, ms, mo, gI⟩
      refine wpAny_assign_Name ?_
      refine st_loc F5 (fun h6 F6 sb6 => ?_)
      have le5 : g.le g5 := leg2.trans l5
      obtain ⟨t', fr', e1, e2, Rf, sok⟩ := (FO.le le5).at hP
      rw [e1] at hf
      unfold fndF at hf
      cases hu' : uni N σ q t' with
      | none => rw [hu'] at hf; cases hf
      | some r =>
      rw [hu'] at hf
      have k6 : ∀ b o, b ≠ s.heap.objs.size → s5.heap.get? b = some o → h6.get? b = some o := fun b o ne e => sb6.extBut b o ne e
      have T6 : Tn False base g g5 s ⟨h6, s5.gens, s5.drawn, s5.toks + 1 + 1, s5.os⟩ := T5.but k6 (Nat.le_refl _) (by have := F5.off; exact this) F5.above (by rw [sb6.1]; exact T5.kp.size) (by omega)
      have up : ∀ (x : Str), x ≠ "fact" → (fun y => if y = Str.ofString "fact" then some v else m5 y) x = m5 x := fun x hx => by simp [hx]
      have mq6 := (up "questions" (by decide)).trans mq
      have mf6 := (up "facts" (by decide)).trans mf
      have ms6 := (up "s" (by decide)).trans ms
      have mo6 := (up "found" (by decide)).trans mo
      have mv6 : (fun y => if y = Str.ofString "fact" then some v else m5 y) "fact" = some v := by simp
      revert F6 mq6 mf6 ms6 mo6 mv6
      generalize (fun y => if y = Str.ofString "fact" then some v else m5 y) = m6
      intro F6 mq6 mf6 ms6 mo6 mv6
      have hlq := (Lq.le le5).is F6.on
      repeat walk1
      have l6 : s.heap.objs.size < h6.objs.size := F6.ns.lt
      have hfl6 : ∀ (e : Env), ∀ env' ∈ e :: outer, ∀ L', e.frame = some s.heap.objs.size → env'.frame = some L' → L' < h6.objs.size := fun e env' he L' hf hL' => by
        rcases List.mem_cons.mp he with rfl | he
        · rw [hf] at hL'; cases hL'; exact l6
        · exact Nat.lt_trans (hfl _ he _ hL') l6
      refine wpAny_call (unify_call (n := N) (r := r) ?_ ?_ (U.deeper hfl F6 (Nat.le_refl _) rfl (by intro q; cases q) T6.kp.sl T6.ext T6.kp.size) (fun env' he L' hL' => hfl6 _ env' he L' rfl hL') hu' (Rq.le le5) Rf (S.le le5) hN (sok σ r hu') fun g7 s7 ans an K7 X7 on7 st7 => ?_)
      · walk_at "room"
      · walk_at "room"
      have T67 : Tn False base g g7 s s7 := T6.trans ⟨K7, X7, on7, st7, fun z => z.elim⟩
      have F7 : Fx w base g7 s.heap.objs.size s7.heap m6 := F6.tn (s := ⟨h6, s5.gens, s5.drawn, s5.toks + 1 + 1, s5.os⟩) (s' := s7) (tm := False) ⟨K7, X7, on7, st7, fun z => z.elim⟩
      have le7 : g5.le g7 := X7.le
      have le27 : g2.le g7 := l5.trans le7
      have gI7 : g7 I = none := by
        cases q : g7 I with
        | none => rfl
        | some o =>
          have IL5 : I < s5.heap.objs.size := by obtain ⟨⟨o, e, _⟩, _⟩ := st5; exact Heap.lt_size e
          exact (X7.new _ _ q).elim (fun e => by rw [gI] at e; cases e) fun e => absurd (show I < h6.objs.size by rw [sb6.1]; exact IL5) (Nat.not_lt.mpr e)
      have stf : ∀ {h' : Heap} {g' : PM}, (∃ o, h'.get? I = some o ∧ o.cls = .type "list_iterator" ∧ o.data = .fields #[.ref af, .int ((i + 1 : Nat) : Int) 0]) → g2.le g' → g'.on h' → (h'.IsListIter I af (i + 1) ∧ h'.IsList af fv.toArray) := fun a l o => ⟨a, (Lf.le (leg2.trans l)).is o⟩
      have it7 : ∃ o, s7.heap.get? I = some o ∧ o.cls = .type "list_iterator" ∧ o.data = .fields #[.ref af, .int ((i + 1 : Nat) : Int) 0] := by
        obtain ⟨⟨o, e, a, b⟩, _⟩ := st5
        have e6 := k6 _ _ frI2 e
        obtain ⟨sl, e7⟩ := K7.sl _ _ (Heap.lt_size e6) id e6
        exact ⟨_, e7, a, b⟩
      dsimp only
      refine st_loc F7 (fun h8 F8 sb8 => ?_)
      have k8 : ∀ b o, b ≠ s.heap.objs.size → s7.heap.get? b = some o → h8.get? b = some o := fun b o ne e => sb8.extBut b o ne e
      have it8 : ∃ o, h8.get? I = some o ∧ o.cls = .type "list_iterator" ∧ o.data = .fields #[.ref af, .int ((i + 1 : Nat) : Int) 0] := let ⟨o, e, r⟩ := it7; ⟨o, k8 _ _ frI2 e, r⟩
      have T8 : ∀ tk, s7.toks ≤ tk → Tn False base g g7 s ⟨h8, s7.gens, s7.drawn, tk, s7.os⟩ := fun tk le => T67.but k8 (Nat.le_refl _) F7.off F7.above (by rw [sb8.1]; exact T67.kp.size) le
      have up8 : ∀ (x : Str), x ≠ "told" → (fun y => if y = Str.ofString "told" then some ans else m6 y) x = m6 x := fun x hx => by simp [hx]
      have mq8 := (up8 "questions" (by decide)).trans mq6
      have mf8 := (up8 "facts" (by decide)).trans mf6
      have ms8 := (up8 "s" (by decide)).trans ms6
      have mo8 := (up8 "found" (by decide)).trans mo6
      have mt8 : (fun y => if y = Str.ofString "told" then some ans else m6 y) "told" = some ans := by simp
      revert F8 mq8 mf8 ms8 mo8 mt8
      generalize (fun y => if y = Str.ofString "told" then some ans else m6 y) = m8
      intro F8 mq8 mf8 ms8 mo8 mt8
      cases r with
      | none =>
        obtain rfl : ans = .bool false := an
        repeat walk1
        · exact (stf it8 le27 F8.on).1
        · exact (stf it8 le27 F8.on).2
        · exact ⟨g7, m8, rsa, ys, Da, F8, T8 _ (by omega), le27, La.le le7, Sa.le le7, by rw [e2]; exact hf, mq8, mf8, ms8, mo8, gI7⟩
      | some σ' =>
        cases hrec : fnd N ft qt σ' with
        | none => simp only [hrec] at hf; cases hf
        | some rs' =>
        simp only [hrec] at hf
        repeat walk1
        refine told_ne an ?_ F8.on ?_
        · walk_at "room"
        repeat walk1
        refine slice_fx (r := qv') F8 (Lq.le (le5.trans le7)) (.int 1 _) .none (by have := slicePick_from (v0 :: qv').toArray 1 (by simp); simpa using this) (by simp only [List.length_cons] at hqv ⊢; omega) (fun g9 h9 D9 F9 k9 X9 z9 L9 => ?_)
        have T9 : Tn False base g g9 s ⟨h9, s7.gens, s7.drawn, s7.toks + 1 + 1, s7.os⟩ := (T8 _ (by omega)).trans (s' := ⟨h8, s7.gens, s7.drawn, s7.toks + 1, s7.os⟩) (Tn.grow ⟨k9, fun _ _ e => e, id, z9, rfl⟩ X9 F9.on F8.keep fun z => z.elim)
        have l9 : s.heap.objs.size < h9.objs.size := F9.ns.lt
        have hfl9 : ∀ (e : Env), ∀ env' ∈ e :: outer, ∀ L', e.frame = some s.heap.objs.size → env'.frame = some L' → L' < h9.objs.size := fun e env' he L' hf hL' => by
          rcases List.mem_cons.mp he with rfl | he
          · rw [hf] at hL'; cases hL'; exact l9
          · exact Nat.lt_trans (hfl _ he _ hL') l9
        have le9 : g.le g9 := le5.trans (le7.trans X9.le)
        have hlen := fndF_len hf
        have hlen2 : rs'.length ≤ 1000 ∧ rsa.length ≤ 1000 := by rw [List.length_append] at hlen; omega
        repeat walk1
        refine wpAny_call (found_call hN hfv qt (by simp only [List.length_cons] at hqv; omega) ?_ ?_ (U.deeper hfl F9 (Nat.le_refl _) rfl (by intro q; cases q) T9.kp.sl T9.ext T9.kp.size) (fun env' he L' hL' => hfl9 _ env' he L' rfl hL') L9 (Lf.le le9) (QO'.le le9) (an.le X9.le) hrec hlen2.1 fun g10 s10 D10 ys10 L10 S10 T10 => ?_)
        · simp only [List.length_cons] at hu ⊢; walk_at "room"
        · simp only [List.length_cons] at hroom ⊢; walk_at "room"
        have T19 := T9.trans T10
        have F10 := F9.tn T10
        have le10 : g7.le g10 := X9.le.trans T10.ext.le
        dsimp only
        repeat walk1
        refine add_lst (La.le (le7.trans le10)) L10 F10.on (by rw [Sa.len, S10.len]; omega) ?_
        have F11 := F10.push { cls := .type "list", data := .seq (ys ++ ys10).toArray }
        have X11 := Ext.ins (o := { cls := .type "list", data := .seq (ys ++ ys10).toArray }) (Nat.le_refl s10.heap.objs.size) F10.none_at
        have k11 : ∀ b o, s10.heap.get? b = some o → (s10.heap.push { cls := .type "list", data := .seq (ys ++ ys10).toArray }).get? b = some o := fun b o e => Heap.get?_push_of_some _ e
        have T11 : Tn False base g _ s ⟨s10.heap.push { cls := .type "list", data := .seq (ys ++ ys10).toArray }, s10.gens, s10.drawn, s10.toks, s10.os⟩ := T19.trans (Tn.grow ⟨k11, fun _ _ e => e, id, by rw [Heap.size_push]; exact Nat.le_succ _, rfl⟩ X11 F11.on F10.keep fun z => z.elim)
        have L11 : LstAt (g10.ins s10.heap.objs.size { cls := .type "list", data := .seq (ys ++ ys10).toArray }) s10.heap.objs.size (ys ++ ys10) := ⟨_, PM.ins_self _ _ _, rfl, _, rfl⟩
        have le11 := X11.le
        have I8 : I < h8.objs.size := by obtain ⟨o, e, _⟩ := it8; exact Heap.lt_size e
        have gI9 : g9 I = none := by
          cases q : g9 I with
          | none => rfl
          | some o => exact (X9.new _ _ q).elim (fun e => by rw [gI7] at e; cases e) fun e => absurd I8 (Nat.not_lt.mpr e)
        have gI10 : g10 I = none := by
          cases q : g10 I with
          | none => rfl
          | some o => exact (T10.ext.new _ _ q).elim (fun e => by rw [gI9] at e; cases e) fun e => absurd (Nat.lt_of_lt_of_le I8 z9) (Nat.not_lt.mpr e)
        have gI11 : (g10.ins s10.heap.objs.size { cls := .type "list", data := .seq (ys ++ ys10).toArray }) I = none := (PM.ins_ne _ _ (Nat.ne_of_lt (Nat.lt_of_lt_of_le (Nat.lt_of_lt_of_le I8 z9) T10.kp.size))).trans gI10
        revert F11 T11 L11 le11 gI11
        generalize g10.ins s10.heap.objs.size { cls := .type "list", data := .seq (ys ++ ys10).toArray } = g11
        have it11 : ∃ o, (s10.heap.push { cls := .type "list", data := .seq (ys ++ ys10).toArray }).get? I = some o ∧ o.cls = .type "list_iterator" ∧ o.data = .fields #[.ref af, .int ((i + 1 : Nat) : Int) 0] := by
          obtain ⟨o, e, a, b⟩ := it8
          obtain ⟨sl, e10⟩ := T10.kp.sl I o (Heap.lt_size (k9 _ _ e)) id (k9 _ _ e)
          exact ⟨_, k11 _ _ e10, a, b⟩
        revert it11
        generalize s10.heap.push { cls := .type "list", data := .seq (ys ++ ys10).toArray } = h11
        intro it11 F11 T11 L11 le11 gI11
        repeat walk1
        refine st_loc F11 (fun h12 F12 sb12 => ?_)
        have k12 : ∀ b o, b ≠ s.heap.objs.size → h11.get? b = some o → h12.get? b = some o := fun b o ne e => sb12.extBut b o ne e
        have it12 : ∃ o, h12.get? I = some o ∧ o.cls = .type "list_iterator" ∧ o.data = .fields #[.ref af, .int ((i + 1 : Nat) : Int) 0] := let ⟨o, e, r⟩ := it11; ⟨o, k12 _ _ frI2 e, r⟩
        have T12 : ∀ tk, s10.toks ≤ tk → Tn False base g g11 s ⟨h12, s10.gens, s10.drawn, tk, s10.os⟩ := fun tk le => T11.but k12 (Nat.le_refl _) F11.off F11.above (by rw [sb12.1]; exact T11.kp.size) le
        have up12 : ∀ (x : Str), x ≠ "found" → (fun y => if y = Str.ofString "found" then some (Value.ref s10.heap.objs.size) else m8 y) x = m8 x := fun x hx => by simp [hx]
        have mq12 := (up12 "questions" (by decide)).trans mq8
        have mf12 := (up12 "facts" (by decide)).trans mf8
        have ms12 := (up12 "s" (by decide)).trans ms8
        have mo12 : (fun y => if y = Str.ofString "found" then some (Value.ref s10.heap.objs.size) else m8 y) "found" = some (.ref s10.heap.objs.size) := by simp
        revert F12 mq12 mf12 ms12 mo12
        generalize (fun y => if y = Str.ofString "found" then some (Value.ref s10.heap.objs.size) else m8 y) = m12
        intro F12 mq12 mf12 ms12 mo12
        have lez := le27.trans (le10.trans le11)
        repeat walk1
        · exact (stf it12 lez F12.on).1
        · exact (stf it12 lez F12.on).2
        · exact ⟨g11, m12, rsa ++ rs', ys ++ ys10, s10.heap.objs.size, F12, T12 _ (Nat.le_succ _), lez, L11, SubsAt.append (Sa.le (le7.trans (le10.trans le11))) (S10.le le11), by rw [e2]; exact hf, mq12, mf12, ms12, mo12, gI11⟩
    · rintro s5 ⟨g5, m5, rsa, ys, Da, F5, T5, l5, La, Sa, hf, mq, mf, ms, mo, gI⟩
      obtain rfl : rsa = rs := by
        rw [FOl, List.drop_length] at hf
        simpa [fndF] using hf
      repeat walk1
      exact h g5 s5 Da ys La Sa T5
end

end Mine
end
section
open PySem PySem.W PyProof.Rows PySem.Calls
open PySem.W.X (SegX wake_any)
set_option Elab.async false
set_option maxRecDepth 100000
set_option maxHeartbeats 8000000
namespace Mine
set_option pp.maxSteps 600
theorem fill32 : (fun (_ : OpenLaw) (_ : Params → Frag) => True) PySem.Challenge.rw_fe0181_02 hd2.heap_39 := by
  k_fill; trivial
local macro_rules | `(tactic| walk_at "eval Name") => `(tactic| first
  | (refine nm_loc (by assumption) (by first | with_reducible assumption | assumption | exact rfl) ?_)
  | (refine nm_glob (by assumption) (by k_is) ?_)
  | (refine nm_built (by assumption) (by k_is) (by boot_by_name) ?_))
local macro_rules | `(tactic| walk_at "callWith ref") => `(tactic| first
  | (refine callWith_K0 (Gd.K (Fx.gd (by assumption))) (by k_is) ?_)
  | (refine callWith_K (Gd.K (Fx.gd (by assumption))) (by k_is) ?_))
local macro_rules | `(tactic| walk_at "And") => `(tactic| ((with_reducible show Frag.In _ _ ∧ _); refine ⟨Gd.K (Fx.gd (by assumption)), ?_⟩; try dsimp only [List.nil_append, List.cons_append]))
local macro_rules | `(tactic| walk_at "room") => `(tactic| (simp only [Around.deeper, Around.in1, Around.mark]; omega))
local macro_rules | `(tactic| walk_at "go") => `(tactic| repeat' (first | (k_unfold; (try dsimp only)) | walk1 | (dsimp only; walk1)))
section
variable {prog : Program} {w : World} {A : Around} {E : Value → Shared → Prop} {s : Shared} {env : Env} {h₀ : Heap} {g : PM} {m : Str → Option Value}
local macro_rules | `(tactic| walk_at "eval Name") => `(tactic| first
  | (refine nm_loc (by assumption) (by first | assumption | exact rfl) ?_)
  | (refine nm_loc (Gn.F (by assumption)) (by first | assumption | exact rfl) ?_)
  | (refine nm_glob (Gn.F (by assumption)) (by k_is) ?_)
  | (refine nm_built (Gn.F (by assumption)) (by k_is) (by boot_by_name) ?_)
  | (refine nm_glob (by assumption) (by k_is) ?_)
  | (refine nm_built (by assumption) (by k_is) (by boot_by_name) ?_))
local macro_rules | `(tactic| walk_at "callWith ref") => `(tactic| first
  | (refine callWith_K0 (Gd.K (Fx.gd (by assumption))) (by k_is) ?_)
  | (refine callWith_K (Gd.K (Fx.gd (by assumption))) (by k_is) ?_)
  | (refine callWith_K0 (Gd.K (Gn.gd (by assumption))) (by k_is) ?_)
  | (refine callWith_K (Gd.K (Gn.gd (by assumption))) (by k_is) ?_))
local macro_rules | `(tactic| walk_at "And") => `(tactic| first
  | ((with_reducible show Frag.In _ _ ∧ _); refine ⟨Gd.K (Fx.gd (by assumption)), ?_⟩; try dsimp only [List.nil_append, List.cons_append])
  | ((with_reducible show Frag.In _ _ ∧ _); refine ⟨Gd.K (Gn.gd (by assumption)), ?_⟩; try dsimp only [List.nil_append, List.cons_append]))
local macro_rules | `(tactic| walk_at "room") => `(tactic| (simp only [over_u, over_d, overL_u, overL_d, overB_u, overB_d, Around.deeper, Around.in1, Around.mark]; omega))
local macro_rules | `(tactic| walk_at "nat") => `(tactic| first | omega | (show @Ne Nat _ _; omega) | (show @LE.le Nat _ _ _; omega) | (show @LT.lt Nat _ _ _; omega) | (show @Eq Nat _ _ → False; omega))

theorem for_zip {c : Ctor} {z TI TO i1 i2 l1 l2 lo : Addr} {xs ys : List Value} {elts : List Expr} {x1 : _} {pos : Pos} {body : List Stmt} {R : Result → Shared → Prop} (hh : A.handled = none) (hc : c = .tup ∨ c = .lst) (J : Nat → Shared → Prop)
    (hn : (assignEach elts env).length = 2) (hstar : (assignEach elts env).findIdx? (·.1) = none) (hlen : xs.length = ys.length) (n1 : l1 ∉ [z, TI, TO, i1, i2]) (n2 : l2 ∉ [z, TI, TO, i1, i2])
    (sq : ∀ i s, J i s → SqAt c s.heap l1 xs.toArray ∧ SqAt c s.heap l2 ys.toArray)
    (hJ : ∀ i s h' tk, J i s → (∀ b o, b ∉ [z, TI, TO, i1, i2] → s.heap.get? b = some o → h'.get? b = some o) → s.heap.objs.size ≤ h'.objs.size → J i { s with heap := h', toks := tk })
    (turn : ∀ i x y (s : Shared), xs[i]? = some x → ys[i]? = some y → ZipS c s.heap lo z TI TO i1 i2 l1 l2 (i + 1) .none → J i s → wpAny (model prog w) A (assignInOrder ((assignEach elts env).map (·.2)) [x, y]) (fun _ s2 => wpAny (model prog w) A (execs body env) (fun f s4 => match f with
      | .next | .cont => ZipS c s4.heap lo z TI TO i1 i2 l1 l2 (i + 1) .none ∧ J (i + 1) s4
      | .brk => R (.ok .next) s4
      | .ret v => R (.ok (.ret v)) s4) (fun _ _ => False) s2) (fun _ _ => False) s)
    (done : ∀ s, J xs.length s → R (.ok .next) s) (Z0 : ZipS c s.heap lo z TI TO i1 i2 l1 l2 0 .none) (j0 : J 0 s) :
    codeAny (model prog w) A (.forLoop (.Tuple elts x1 pos) (.ref z) body [] env) R s := by
  refine loop_indC (Inv := fun k s => ∃ i, i ≤ xs.length ∧ k = xs.length - i ∧ ZipS c s.heap lo z TI TO i1 i2 l1 l2 i .none ∧ J i s) ?_ xs.length s ⟨0, Nat.zero_le _, rfl, Z0, j0⟩
  rintro k s ih ⟨i, hi, rfl, Z, j⟩
  refine codeAny_for1 ?_
  obtain ⟨q1, q2⟩ := sq i s j
  by_cases hlt : i < xs.length
  · have hx : xs.toArray[i]? = some xs[i] := by simp [hlt]
    have hy : ys.toArray[i]? = some (ys[i]'(by omega)) := by simp
    refine zip_item hc Z q1 q2 n1 n2 hx hy (fun h6 T Z6 HT lT k6 sz6 => ?_)
    dsimp only
    refine zip_go Z6 (fun h7 Z7 sb7 => ?_)
    have k7 : ∀ b o, b ∉ [z, TI, TO, i1, i2] → s.heap.get? b = some o → h7.get? b = some o := fun b o nb q => (sb7.2 b (fun e => nb (by simp [e]))).trans (k6 b o nb q)
    have zlt : z < s.heap.objs.size := Z.fz.lt
    have HT7 := HT.but sb7 (Nat.ne_of_gt (Nat.lt_of_lt_of_le zlt lT))
    refine asg_pair hh HT7 hn hstar (fun h8 k8 => ?_)
    have sz8 : s.heap.objs.size ≤ h8.objs.size := Nat.le_of_lt (Nat.lt_of_le_of_lt lT (let ⟨_, e, _⟩ := HT7; Heap.lt_size (k8 _ _ e)))
    refine wpAny_mono (turn i _ _ ⟨h8, s.gens, s.drawn, s.toks, s.os⟩ (by simp [hlt]) (by simp) (Z7.at fun b _ o q => ⟨o.slots, k8 b o q⟩) (hJ i s h8 s.toks j (fun b o nb q => k8 b o (k7 b o nb q)) sz8)) (fun _ s2 h2 => wpAny_mono h2 (fun f s4 h4 => ?_) fun _ _ e => e) fun _ _ e => e
    cases f with
    | next => exact ih _ _ (by omega) ⟨i + 1, hlt, rfl, h4.1, h4.2⟩
    | cont => exact ih _ _ (by omega) ⟨i + 1, hlt, rfl, h4.1, h4.2⟩
    | brk => exact h4
    | ret v => exact h4
  · obtain rfl : i = xs.length := Nat.le_antisymm hi (Nat.not_lt.mp hlt)
    refine zip_end (ys := #[]) hh hc Z q1 n1 (by simp) (fun h6 k6 sz6 => ?_)
    dsimp only
    exact wpAny_execs_nil (done _ (hJ _ s h6 s.toks j k6 sz6))
end

end Mine
end
section
open PySem PySem.W PyProof.Rows PySem.Calls
open PySem.W.X (SegX wake_any)
set_option Elab.async false
set_option maxRecDepth 100000
set_option maxHeartbeats 8000000
namespace Mine
set_option pp.maxSteps 600
theorem fill33 : (fun (_ : OpenLaw) (_ : Params → Frag) => True) PySem.Challenge.rw_fe0181_02 hd2.heap_39 := by
  k_fill; trivial
local macro_rules | `(tactic| walk_at "eval Name") => `(tactic| first
  | (refine nm_loc (by assumption) (by first | with_reducible assumption | assumption | exact rfl) ?_)
  | (refine nm_glob (by assumption) (by k_is) ?_)
  | (refine nm_built (by assumption) (by k_is) (by boot_by_name) ?_))
local macro_rules | `(tactic| walk_at "callWith ref") => `(tactic| first
  | (refine callWith_K0 (Gd.K (Fx.gd (by assumption))) (by k_is) ?_)
  | (refine callWith_K (Gd.K (Fx.gd (by assumption))) (by k_is) ?_))
local macro_rules | `(tactic| walk_at "And") => `(tactic| ((with_reducible show Frag.In _ _ ∧ _); refine ⟨Gd.K (Fx.gd (by assumption)), ?_⟩; try dsimp only [List.nil_append, List.cons_append]))
local macro_rules | `(tactic| walk_at "room") => `(tactic| (simp only [Around.deeper, Around.in1, Around.mark]; omega))
local macro_rules | `(tactic| walk_at "go") => `(tactic| repeat' (first | (k_unfold; (try dsimp only)) | walk1 | (dsimp only; walk1)))
section
variable {prog : Program} {w : World} {A : Around} {E : Value → Shared → Prop} {s : Shared} {env : Env} {h₀ : Heap} {g : PM} {m : Str → Option Value}
local macro_rules | `(tactic| walk_at "eval Name") => `(tactic| first
  | (refine nm_loc (by assumption) (by first | with_reducible assumption | assumption | exact rfl) ?_)
  | (refine nm_loc (Gn.F (by assumption)) (by first | with_reducible assumption | assumption | exact rfl) ?_)
  | (refine nm_glob (Gn.F (by assumption)) (by k_is) ?_)
  | (refine nm_built (Gn.F (by assumption)) (by k_is) (by boot_by_name) ?_)
  | (refine nm_glob (by assumption) (by k_is) ?_)
  | (refine nm_built (by assumption) (by k_is) (by boot_by_name) ?_))
local macro_rules | `(tactic| walk_at "callWith ref") => `(tactic| first
  | (refine callWith_K0 (Gd.K (Fx.gd (by assumption))) (by k_is) ?_)
  | (refine callWith_K (Gd.K (Fx.gd (by assumption))) (by k_is) ?_)
  | (refine callWith_K0 (Gd.K (Gn.gd (by assumption))) (by k_is) ?_)
  | (refine callWith_K (Gd.K (Gn.gd (by assumption))) (by k_is) ?_))
local macro_rules | `(tactic| walk_at "And") => `(tactic| first
  | ((with_reducible show Frag.In _ _ ∧ _); refine ⟨Gd.K (Fx.gd (by assumption)), ?_⟩; try dsimp only [List.nil_append, List.cons_append])
  | ((with_reducible show Frag.In _ _ ∧ _); refine ⟨Gd.K (Gn.gd (by assumption)), ?_⟩; try dsimp only [List.nil_append, List.cons_append]))
local macro_rules | `(tactic| walk_at "room") => `(tactic| (simp only [over_u, over_d, overL_u, overL_d, overB_u, overB_d, Around.deeper, Around.in1, Around.mark]; omega))
local macro_rules | `(tactic| walk_at "nat") => `(tactic| first | omega | (show @Ne Nat _ _; omega) | (show @LE.le Nat _ _ _; omega) | (show @LT.lt Nat _ _ _; omega) | (show @Eq Nat _ _ → False; omega))

local macro_rules | `(tactic| walk_at "ph") => `(tactic| ((repeat walk1); all_goals (try dsimp only); all_goals (try (exfalso; omega))))
def putV (V : List (Option Int)) (p n : Int) : Option (List (Option Int)) :=
  if 2 < p ∧ p - 3 ≠ n then none else if p < 3 ∧ V.getD p.toNat none ≠ none ∧ V.getD p.toNat none ≠ some n then none else if p < 3 then some (V.set p.toNat (some n)) else some V
def putP (V : List (Option Int)) (a f : Int × Int) : Option (List (Option Int)) := match putV V a.1 f.1 with
  | none => none
  | some V' => putV V' a.2 f.2
def putR : List (Int × Int) → List (Int × Int) → List (Option Int) → Option (List (Option Int))
  | a :: as, f :: fs, V => match putP V a f with
    | none => none
    | some V' => putR as fs V'
  | _, _, V => some V
/-- a pair of numbers -/
def PairAt (g : PM) (v : Value) (a : Int × Int) : Prop := ∃ t n ta tb, v = .ref t ∧ g t = some { cls := .type "tuple", data := .seq #[.int a.1 ta, .int a.2 tb] n }
def PairsAt (g : PM) : List Value → List (Int × Int) → Prop
  | [], [] => True
  | v :: vs, a :: as => PairAt g v a ∧ PairsAt g vs as
  | _, _ => False
def VRep : List (Option Int) → List Value → Prop
  | [], [] => True
  | none :: V, v :: vs => v = .none ∧ VRep V vs
  | some n :: V, v :: vs => (∃ t, v = .int n t) ∧ VRep V vs
  | _, _ => False
def VL (h : Heap) (D : Addr) (V : List (Option Int)) : Prop := ∃ o vs n, h.get? D = some o ∧ o.cls = .type "list" ∧ o.data = .seq vs.toArray n ∧ VRep V vs ∧ V.length = 3
theorem PairAt.le {g g' : PM} (l : g.le g') {v : Value} {a : Int × Int} (P : PairAt g v a) : PairAt g' v a := let ⟨t, n, ta, tb, e, h⟩ := P; ⟨t, n, ta, tb, e, l _ _ h⟩
theorem PairsAt.le {g g' : PM} (l : g.le g') : ∀ {vs : List Value} {as : List (Int × Int)}, PairsAt g vs as → PairsAt g' vs as
  | [], [], _ => trivial
  | _ :: _, _ :: _, ⟨R, r⟩ => ⟨R.le l, r.le l⟩
  | [], _ :: _, h => h.elim
  | _ :: _, [], h => h.elim
theorem PairsAt.len {g : PM} : ∀ {vs : List Value} {as : List (Int × Int)}, PairsAt g vs as → vs.length = as.length
  | [], [], _ => rfl
  | _ :: _, _ :: _, ⟨_, r⟩ => by simp [r.len]
  | [], _ :: _, h => h.elim
  | _ :: _, [], h => h.elim
theorem PairsAt.at {g : PM} : ∀ {vs : List Value} {as : List (Int × Int)} {i : Nat} {v : Value}, PairsAt g vs as → vs[i]? = some v → ∃ a r, as.drop i = a :: r ∧ as.drop (i + 1) = r ∧ PairAt g v a
  | _ :: _, _ :: _, 0, _, ⟨R, _⟩, e => by
    simp only [List.getElem?_cons_zero, Option.some.injEq] at e
    subst e
    exact ⟨_, _, rfl, rfl, R⟩
  | _ :: _, _ :: _, i + 1, _, ⟨_, r⟩, e => by
    obtain ⟨t', r', e1, e2, e3⟩ := r.at (i := i) (by simpa using e)
    exact ⟨t', r', by simpa using e1, by simpa using e2, e3⟩
  | [], [], _, _, _, e => by simp at e
  | [], _ :: _, _, _, h, _ => h.elim
  | _ :: _, [], _, _, h, _ => h.elim

theorem Fx.butS {L : Addr} {h h' : Heap} {zs : List Addr} (F : Fx w h₀ g L h m) (k : ∀ b o, b ∉ zs → h.get? b = some o → h'.get? b = some o) (hz : ∀ b ∈ zs, b ≠ L ∧ g b = none ∧ h₀.objs.size ≤ b) : Fx w h₀ g L h' m :=
  ⟨F.ns.at' (fun o e => k _ o (fun q => (hz _ q).1 rfl) e), fun a o e => k a o (fun q => by rw [(hz _ q).2.1] at e; cases e) (F.on a o e), F.off, fun a o e => k a o (fun q => Nat.lt_irrefl _ (Nat.lt_of_lt_of_le (Heap.lt_size e) (hz _ q).2.2)) (F.keep a o e), F.above, F.gd₀⟩
theorem VL.at {h h' : Heap} {D : Addr} {V : List (Option Int)} (x : VL h D V) (k : ∀ o, h.get? D = some o → h'.get? D = some o) : VL h' D V := let ⟨o, vs, n, e, r⟩ := x; ⟨o, vs, n, k _ e, r⟩
theorem putR_drop {as fs : List (Int × Int)} {V : List (Option Int)} {a f : Int × Int} {ra rf : List (Int × Int)} {i : Nat} (e1 : as.drop i = a :: ra) (e2 : fs.drop i = f :: rf) : putR (as.drop i) (fs.drop i) V = match putP V a f with | none => none | some V' => putR ra rf V' := by rw [e1, e2]; rfl
def remV (a f : Int × Int) : Nat → List (Option Int) → Option (List (Option Int))
  | 0, V => putP V a f
  | 1, V => putV V a.2 f.2
  | _, V => some V
theorem VRep.len : ∀ {V : List (Option Int)} {vs : List Value}, VRep V vs → vs.length = V.length
  | [], [], _ => rfl
  | none :: V, v :: vs, h => by simp [VRep.len h.2]
  | some n :: V, v :: vs, h => by simp [VRep.len h.2]
  | [], _ :: _, h => h.elim
  | none :: _, [], h => h.elim
  | some _ :: _, [], h => h.elim
theorem VRep.at : ∀ {V : List (Option Int)} {vs : List Value} {i : Nat}, VRep V vs → i < V.length → ∃ v, vs[i]? = some v ∧ match V.getD i none with | none => v = .none | some n => ∃ t, v = .int n t
  | none :: V, v :: vs, 0, h, _ => ⟨v, rfl, h.1⟩
  | some n :: V, v :: vs, 0, h, _ => ⟨v, rfl, h.1⟩
  | none :: V, v :: vs, i + 1, h, l => by
    obtain ⟨v', e, r⟩ := VRep.at (i := i) h.2 (by simpa using l)
    exact ⟨v', by simpa using e, by simpa using r⟩
  | some _ :: V, v :: vs, i + 1, h, l => by
    obtain ⟨v', e, r⟩ := VRep.at (i := i) h.2 (by simpa using l)
    exact ⟨v', by simpa using e, by simpa using r⟩
  | [], _, _, _, l => by simp at l
  | none :: _, [], _, h, _ => h.elim
  | some _ :: _, [], _, h, _ => h.elim
theorem VRep.set {n : Int} {t : Tok} : ∀ {V : List (Option Int)} {vs : List Value} {i : Nat}, VRep V vs → VRep (V.set i (some n)) (vs.set i (.int n t))
  | [], [], _, _ => trivial
  | none :: V, v :: vs, 0, h => ⟨⟨t, rfl⟩, h.2⟩
  | some _ :: V, v :: vs, 0, h => ⟨⟨t, rfl⟩, h.2⟩
  | none :: V, v :: vs, i + 1, h => ⟨h.1, VRep.set h.2⟩
  | some _ :: V, v :: vs, i + 1, h => ⟨h.1, VRep.set h.2⟩
  | [], _ :: _, _, h => h.elim
  | none :: _, [], _, h => h.elim
  | some _ :: _, [], _, h => h.elim
theorem values_call {aa ar : Addr} {av rv : List Value} {as fs : List (Int × Int)} {R : Result → Shared → Prop} (hu : A.units + 200 < cLine) (hroom : A.depth + 10 < recursionLimit) (hh : A.handled = none) (G : Gd w s.heap) (on : g.on s.heap) (La : LstAt g aa av) (Lr : LstAt g ar rv) (Pa : PairsAt g av as) (Pr : PairsAt g rv fs)
    (hl : as.length = fs.length) (hp : ∀ a ∈ as, 0 ≤ a.1 ∧ a.1 < 6 ∧ 0 ≤ a.2 ∧ a.2 < 6)
    (h : ∀ s' rv, Grow s s' → (match putR as fs [none, none, none] with | none => rv = .none | some V => ∃ D vs o n, rv = .ref D ∧ s.heap.objs.size ≤ D ∧ s'.heap.get? D = some o ∧ o.cls = .type "list" ∧ o.data = .seq vs.toArray n ∧ VRep V vs) → R (.ok (.ret rv)) s') :
    codeAny (model prog w) A (.call (.ref 297) ⟨[.ref aa, .ref ar], []⟩) R s := by
  refine enterN (binds := [("asked", .ref aa), ("row", .ref ar)]) G (by k_is) (by k_is) rfl (by omega) (BindsTo.of_eq rfl) (by decide) (locs rfl) on (fun h₁ F => ?_)
  k_fold
  repeat walk1
  refine wpAny_newObj_type ?_
  have F1 := F.push' { cls := .type "list", data := .seq ([.none, .none, .none] : List Value).toArray }
  have V1 : VL (h₁.push { cls := .type "list", data := .seq ([.none, .none, .none] : List Value).toArray }) h₁.objs.size [none, none, none] := ⟨_, _, _, Heap.get?_push_size _ rfl, rfl, rfl, ⟨rfl, rfl, rfl, trivial⟩, rfl⟩
  have gD : g h₁.objs.size = none := F.none_at
  have lD : s.heap.objs.size < h₁.objs.size := F.ns.lt
  revert F1 V1
  generalize h₁.push { cls := .type "list", data := .seq ([.none, .none, .none] : List Value).toArray } = h2
  generalize h₁.objs.size = D at gD lD
  intro F1 V1
  clear F
  repeat walk1
  refine st_loc F1 (fun h3 F3 sb3 => ?_)
  have V3 : VL h3 D [none, none, none] := by
    obtain ⟨o, vs, n, e, r⟩ := V1
    exact ⟨o, vs, n, sb3.extBut _ _ (Nat.ne_of_gt lD) e, r⟩
  clear F1 V1
  repeat walk1
  refine wpAny_For ?_
  repeat walk1
  refine zip_call (c := .lst) (.inr rfl) ((La.is F3.on)) ((Lr.is F3.on)) (fun h4 zz TI TO i1 i2 ZS sz4 k4 => ?_)
  have F4 := F3.ext (h' := h4) k4
  refine zip_iter ZS ?_
  have lo3 : ∀ b ∈ [zz, TI, TO, i1, i2], h3.objs.size ≤ b := ZS.low
  have L3 : s.heap.objs.size < h3.objs.size := F3.ns.lt
  have D3 : D < h3.objs.size := by obtain ⟨_, _, _, e, _⟩ := V3; exact Heap.lt_size e
  have zs3 : ∀ b ∈ [zz, TI, TO, i1, i2], b ≠ s.heap.objs.size ∧ g b = none ∧ s.heap.objs.size ≤ b := fun b hb => ⟨Nat.ne_of_gt (Nat.lt_of_lt_of_le L3 (lo3 b hb)), PM.none_of F3.on (lo3 b hb), Nat.le_trans (Nat.le_of_lt L3) (lo3 b hb)⟩
  have zD : D ∉ [zz, TI, TO, i1, i2] := fun q => Nat.lt_irrefl _ (Nat.lt_of_lt_of_le D3 (lo3 D q))
  have gz : ∀ {a : Addr} {ys : List Value}, LstAt g a ys → a ∉ [zz, TI, TO, i1, i2] := fun l q => by obtain ⟨o, e, _⟩ := l; rw [(zs3 _ q).2.1] at e; cases e
  have hlen : av.length = rv.length := by rw [Pa.len, Pr.len, hl]
  refine for_zip (c := .lst) (xs := av) (ys := rv) (l1 := aa) (l2 := ar) (lo := h3.objs.size) hh (.inr rfl) (fun i s' => ∃ m' V, Fx w s.heap g s.heap.objs.size s'.heap m' ∧ VL s'.heap D V ∧ m' "values" = some (.ref D) ∧ s'.gens = s.gens ∧ s'.os = s.os ∧
      putR (as.drop i) (fs.drop i) V = putR as fs [none, none, none]) rfl rfl hlen (gz La) (gz Lr) ?_ ?_ ?_ ?_ ZS ⟨_, [none, none, none], F4, V3.at fun o e => k4 _ _ e, rfl, rfl, rfl, rfl⟩
  · rintro i s5 ⟨m5, V, F5, _⟩
    exact ⟨La.is F5.on, Lr.is F5.on⟩
  · rintro i s5 h' tk ⟨m5, V, F5, V5, mv, eg, eo, hp5⟩ k sz
    exact ⟨m5, V, F5.butS k zs3, V5.at fun o e => k _ _ zD e, mv, eg, eo, hp5⟩
  · rintro i x y s5 hx hy Z5 ⟨m5, V, F5, V5, mv, eg, eo, hp5⟩
    obtain ⟨a, ra, ea, ea', Pa5⟩ := Pa.at hx
    obtain ⟨f, rf, ef, ef', Pf5⟩ := Pr.at hy
    rw [putR_drop ea ef] at hp5
    obtain ⟨tp, np, tp1, tp2, rfl, hpt⟩ := Pa5
    obtain ⟨tf, nf, tf1, tf2, rfl, hft⟩ := Pf5
    have hp6 := hp a (by have := List.mem_of_mem_drop (ea ▸ List.mem_cons_self : a ∈ as.drop i); exact this)
    repeat walk1
    refine st_loc F5 (fun h6 F6 sb6 => ?_)
    have kL6 : ∀ b o, b ≠ s.heap.objs.size → s5.heap.get? b = some o → h6.get? b = some o := fun b o ne e => sb6.extBut b o ne e
    repeat walk1
    refine st_loc F6 (fun h7 F7 sb7 => ?_)
    have kL7 : ∀ b o, b ≠ s.heap.objs.size → s5.heap.get? b = some o → h7.get? b = some o := fun b o ne e => sb7.extBut b o ne (kL6 b o ne e)
    have Z7 := Z5.at (h' := h7) fun b hb o e => ⟨o.slots, kL7 b o (zs3 b hb).1 e⟩
    have V7 := V5.at (h' := h7) fun o e => kL7 _ _ (Nat.ne_of_gt lD) e
    clear F6 sb6 sb7 kL6
    have mv7 : (fun y => if y = Str.ofString "fact" then some (Value.ref tf) else (fun y => if y = Str.ofString "parts" then some (Value.ref tp) else m5 y) y) "values" = some (.ref D) := (if_neg (by decide)).trans ((if_neg (by decide)).trans mv)
    have mp7 : (fun y => if y = Str.ofString "fact" then some (Value.ref tf) else (fun y => if y = Str.ofString "parts" then some (Value.ref tp) else m5 y) y) "parts" = some (.ref tp) := (if_neg (by decide)).trans (if_pos rfl)
    have mf7 : (fun y => if y = Str.ofString "fact" then some (Value.ref tf) else (fun y => if y = Str.ofString "parts" then some (Value.ref tp) else m5 y) y) "fact" = some (.ref tf) := if_pos rfl
    revert F7 mv7 mp7 mf7
    generalize (fun y => if y = Str.ofString "fact" then some (Value.ref tf) else (fun y => if y = Str.ofString "parts" then some (Value.ref tp) else m5 y) y) = m7
    intro F7 mv7 mp7 mf7
    repeat walk1
    refine wpAny_For ?_
    repeat walk1
    have sqp : SqAt .tup h7 tp #[.int a.1 tp1, .int a.2 tp2] := ⟨_, F7.on _ _ hpt, rfl, _, rfl⟩
    have sqf : SqAt .tup h7 tf #[.int f.1 tf1, .int f.2 tf2] := ⟨_, F7.on _ _ hft, rfl, _, rfl⟩
    refine zip_call (c := .tup) (.inl rfl) sqp sqf (fun h8 z2 TI2 TO2 j1 j2 ZS2 sz8 k8 => ?_)
    have F8 := F7.ext (h' := h8) k8
    refine zip_iter ZS2 ?_
    have L7 : s.heap.objs.size < h7.objs.size := F7.ns.lt
    have lo7 : ∀ b ∈ [z2, TI2, TO2, j1, j2], h7.objs.size ≤ b := ZS2.low
    have D7 : D < h7.objs.size := by obtain ⟨_, _, _, e, _⟩ := V7; exact Heap.lt_size e
    have zs7 : ∀ b ∈ [z2, TI2, TO2, j1, j2], b ≠ s.heap.objs.size ∧ g b = none ∧ s.heap.objs.size ≤ b := fun b hb => ⟨Nat.ne_of_gt (Nat.lt_of_lt_of_le L7 (lo7 b hb)), PM.none_of F7.on (lo7 b hb), Nat.le_trans (Nat.le_of_lt L7) (lo7 b hb)⟩
    have zD7 : D ∉ [z2, TI2, TO2, j1, j2] := fun q => Nat.lt_irrefl _ (Nat.lt_of_lt_of_le D7 (lo7 D q))
    have gz7 : ∀ {a : Addr} {o : Obj}, g a = some o → a ∉ [z2, TI2, TO2, j1, j2] := fun e q => by rw [(zs7 _ q).2.1] at e; cases e
    have zlt7 : ∀ b ∈ [zz, TI, TO, i1, i2], b < h7.objs.size := fun b hb => by
      simp only [List.mem_cons, List.not_mem_nil, or_false] at hb
      rcases hb with rfl | rfl | rfl | rfl | rfl
      · exact Z7.fz.lt
      · exact Z7.fTI.lt
      · obtain ⟨_, _, x⟩ := Z7.fTO; exact x.lt
      · exact Z7.f1.lt
      · exact Z7.f2.lt
    have zz7 : ∀ b ∈ [zz, TI, TO, i1, i2], b ∉ [z2, TI2, TO2, j1, j2] := fun b hb q => Nat.lt_irrefl _ (Nat.lt_of_lt_of_le (zlt7 b hb) (lo7 b q))
    have none_fin : ∀ (s9 : Shared), (∀ b o, s.heap.get? b = some o → s9.heap.get? b = some o) → s.heap.objs.size ≤ s9.heap.objs.size → s9.gens = s.gens → s9.os = s.os → putP V a f = none → R (.ok (.ret .none)) s9 := fun s9 k sz eg eo hn => by
      refine h s9 .none ⟨k, by rw [eg]; exact fun _ _ e => e, by rw [eg]; exact id, sz, eo⟩ ?_
      rw [hn] at hp5
      rw [← hp5]
    refine for_zip (c := .tup) (xs := [.int a.1 tp1, .int a.2 tp2]) (ys := [.int f.1 tf1, .int f.2 tf2]) (l1 := tp) (l2 := tf) (lo := h7.objs.size) hh (.inl rfl) (fun k s' => ∃ m' V', Fx w s.heap g s.heap.objs.size s'.heap m' ∧ VL s'.heap D V' ∧ m' "values" = some (.ref D) ∧ s'.gens = s.gens ∧ s'.os = s.os ∧
      ZipS .lst s'.heap h3.objs.size zz TI TO i1 i2 aa ar (i + 1) .none ∧ remV a f k V' = putP V a f) rfl rfl rfl (gz7 hpt) (gz7 hft) ?_ ?_ ?_ ?_ ZS2 ⟨_, V, F8, V7.at fun o e => k8 _ _ e, mv7, eg, eo, Z7.at fun b hb o e => ⟨o.slots, k8 _ _ e⟩, rfl⟩
    · rintro k s9 ⟨m9, V9, F9, _⟩
      exact ⟨⟨_, F9.on _ _ hpt, rfl, _, rfl⟩, ⟨_, F9.on _ _ hft, rfl, _, rfl⟩⟩
    · rintro k s9 h' tk ⟨m9, V9, F9, V9', mv9, eg9, eo9, Z9, hr9⟩ kk sz
      exact ⟨m9, V9, F9.butS kk zs7, V9'.at fun o e => kk _ _ zD7 e, mv9, eg9, eo9, Z9.at fun b hb o e => ⟨o.slots, kk _ _ (zz7 b hb) e⟩, hr9⟩
    · rintro k x y s9 hx hy Z9 ⟨m9, V9, F9, V9', mv9, eg9, eo9, Zo, hr9⟩
      obtain ⟨p, n, tp', tn', rfl, rfl, hp0, hp5', hrem⟩ : ∃ p n tp' tn', x = Value.int p tp' ∧ y = Value.int n tn' ∧ 0 ≤ p ∧ p < 6 ∧ (remV a f k V9 = match putV V9 p n with | none => none | some V'' => remV a f (k + 1) V'') := by
        rcases k with _ | _ | k
        · simp at hx hy
          exact ⟨a.1, f.1, tp1, tf1, hx.symm, hy.symm, hp6.1, hp6.2.1, rfl⟩
        · simp at hx hy
          exact ⟨a.2, f.2, tp2, tf2, hx.symm, hy.symm, hp6.2.2.1, hp6.2.2.2, by simp only [remV]; cases putV V9 a.2 f.2 <;> rfl⟩
        · simp at hx
      repeat walk1
      refine st_loc F9 (fun h10 F10 sb10 => ?_)
      have k10 : ∀ b o, b ≠ s.heap.objs.size → s9.heap.get? b = some o → h10.get? b = some o := fun b o ne e => sb10.extBut b o ne e
      repeat walk1
      refine st_loc F10 (fun h11 F11 sb11 => ?_)
      have k11 : ∀ b o, b ≠ s.heap.objs.size → s9.heap.get? b = some o → h11.get? b = some o := fun b o ne e => sb11.extBut b o ne (k10 b o ne e)
      have Z11 := Z9.at (h' := h11) fun b hb o e => ⟨o.slots, k11 b o (zs7 b hb).1 e⟩
      have Zo11 := Zo.at (h' := h11) fun b hb o e => ⟨o.slots, k11 b o (zs3 b hb).1 e⟩
      have V11 := V9'.at (h' := h11) fun o e => k11 _ _ (Nat.ne_of_gt lD) e
      clear F10 sb10 sb11 k10 Z9 Zo V9'
      have mv11 : (fun y => if y = Str.ofString "number" then some (Value.int n tn') else (fun y => if y = Str.ofString "part" then some (Value.int p tp') else m9 y) y) "values" = some (.ref D) := (if_neg (by decide)).trans ((if_neg (by decide)).trans mv9)
      have mp11 : (fun y => if y = Str.ofString "number" then some (Value.int n tn') else (fun y => if y = Str.ofString "part" then some (Value.int p tp') else m9 y) y) "part" = some (Value.int p tp') := (if_neg (by decide)).trans (if_pos rfl)
      have mn11 : (fun y => if y = Str.ofString "number" then some (Value.int n tn') else (fun y => if y = Str.ofString "part" then some (Value.int p tp') else m9 y) y) "number" = some (Value.int n tn') := if_pos rfl
      revert F11 mv11 mp11 mn11
      generalize (fun y => if y = Str.ofString "number" then some (Value.int n tn') else (fun y => if y = Str.ofString "part" then some (Value.int p tp') else m9 y) y) = m11
      intro F11 mv11 mp11 mn11
      rw [hrem] at hr9
      by_cases hp3 : 2 < p
      · by_cases hpn : p - 3 = n
        · have hput : putV V9 p n = some V9 := by
            unfold putV
            rw [if_neg (by rintro ⟨_, q⟩; exact q hpn), if_neg (by rintro ⟨q, _⟩; omega), if_neg (by omega)]
          rw [hput] at hr9
          walk_at "ph"
          walk_at "ph"
          walk_at "ph"
          walk_at "ph"
          all_goals first | exact Z11 | exact ⟨m11, V9, F11, V11, mv11, eg9, eo9, Zo11, hr9⟩
        · have hput : putV V9 p n = none := by
            unfold putV
            rw [if_pos ⟨hp3, hpn⟩]
          rw [hput] at hr9
          walk_at "ph"
          walk_at "ph"
          walk_at "ph"
          all_goals exact none_fin _ F11.keep (Nat.le_of_lt F11.ns.lt) eg9 eo9 hr9.symm
      · obtain ⟨o, vs, nn, eD, hDc, hDd, hVR, hV3⟩ := V11
        have hi : p.toNat < V9.length := by rw [hV3]; omega
        obtain ⟨v, hv, hvm⟩ := hVR.at hi
        cases hg : V9.getD p.toNat none with
        | none =>
          rw [hg] at hvm
          obtain rfl : v = .none := hvm
          have hput : putV V9 p n = some (V9.set p.toNat (some n)) := by
            unfold putV
            rw [if_neg (by rintro ⟨q, _⟩; omega), if_neg (by rintro ⟨_, q, _⟩; exact q hg), if_pos (by omega)]
          rw [hput] at hr9
          walk_at "ph"
          walk_at "ph"
          refine sub_list (l := D) ⟨o, eD, hDc⟩ ?_
          refine wpAny_getItem_list (x := .none) ⟨o, eD, hDc, nn, hDd⟩ hp0 (by omega) (by simpa using hv) ?_
          walk_at "ph"
          walk_at "ph"
          refine wpAny_setItem_list ⟨o, eD, hDc, nn, hDd⟩ hp0 (by omega) (by rw [List.size_toArray, hVR.len]; omega) (fun h12 hl12 sb12 => ?_)
          have k12 : ∀ b o, b ≠ D → h11.get? b = some o → h12.get? b = some o := fun b o ne e => sb12.extBut b o ne e
          have F12 := F11.but k12 (Nat.ne_of_gt lD) gD (Nat.le_of_lt lD)
          have Z12 := Z11.at (h' := h12) fun b hb o e => ⟨o.slots, k12 b o (fun q => zD7 (q ▸ hb)) e⟩
          have Zo12 := Zo11.at (h' := h12) fun b hb o e => ⟨o.slots, k12 b o (fun q => zD (q ▸ hb)) e⟩
          have V12 : VL h12 D (V9.set p.toNat (some n)) := by
            obtain ⟨o', e', c1, n', c2⟩ := hl12
            exact ⟨o', vs.set p.toNat (.int n tn'), n', e', c1, by rw [c2]; simp, hVR.set, by rw [List.length_set]; exact hV3⟩
          walk_at "ph"
          walk_at "ph"
          all_goals first | exact Z12 | exact ⟨m11, _, F12, V12, mv11, eg9, eo9, Zo12, hr9⟩
        | some n0 =>
          rw [hg] at hvm
          obtain ⟨tv, rfl⟩ := hvm
          by_cases hnn : n0 = n
          · have hput : putV V9 p n = some (V9.set p.toNat (some n)) := by
              unfold putV
              rw [if_neg (by rintro ⟨q, _⟩; omega), if_neg (by rintro ⟨_, _, q⟩; exact q (by rw [hg, hnn])), if_pos (by omega)]
            rw [hput] at hr9
            walk_at "ph"
            walk_at "ph"
            refine sub_list (l := D) ⟨o, eD, hDc⟩ ?_
            refine wpAny_getItem_list (x := .int n0 tv) ⟨o, eD, hDc, nn, hDd⟩ hp0 (by omega) (by simpa using hv) ?_
            walk_at "ph"
            walk_at "ph"
            refine sub_list (l := D) ⟨o, eD, hDc⟩ ?_
            refine wpAny_getItem_list (x := .int n0 tv) ⟨o, eD, hDc, nn, hDd⟩ hp0 (by omega) (by simpa using hv) ?_
            walk_at "ph"
            walk_at "ph"
            walk_at "ph"
            refine wpAny_setItem_list ⟨o, eD, hDc, nn, hDd⟩ hp0 (by omega) (by rw [List.size_toArray, hVR.len]; omega) (fun h12 hl12 sb12 => ?_)
            have k12 : ∀ b o, b ≠ D → h11.get? b = some o → h12.get? b = some o := fun b o ne e => sb12.extBut b o ne e
            have F12 := F11.but k12 (Nat.ne_of_gt lD) gD (Nat.le_of_lt lD)
            have Z12 := Z11.at (h' := h12) fun b hb o e => ⟨o.slots, k12 b o (fun q => zD7 (q ▸ hb)) e⟩
            have Zo12 := Zo11.at (h' := h12) fun b hb o e => ⟨o.slots, k12 b o (fun q => zD (q ▸ hb)) e⟩
            have V12 : VL h12 D (V9.set p.toNat (some n)) := by
              obtain ⟨o', e', c1, n', c2⟩ := hl12
              exact ⟨o', vs.set p.toNat (.int n tn'), n', e', c1, by rw [c2]; simp, hVR.set, by rw [List.length_set]; exact hV3⟩
            walk_at "ph"
            walk_at "ph"
            all_goals first | exact Z12 | exact ⟨m11, _, F12, V12, mv11, eg9, eo9, Zo12, hr9⟩
          · have hput : putV V9 p n = none := by
              unfold putV
              rw [if_neg (by rintro ⟨q, _⟩; omega), if_pos ⟨by omega, by rw [hg]; simp, by rw [hg]; simpa using hnn⟩]
            rw [hput] at hr9
            walk_at "ph"
            walk_at "ph"
            refine sub_list (l := D) ⟨o, eD, hDc⟩ ?_
            refine wpAny_getItem_list (x := .int n0 tv) ⟨o, eD, hDc, nn, hDd⟩ hp0 (by omega) (by simpa using hv) ?_
            walk_at "ph"
            walk_at "ph"
            refine sub_list (l := D) ⟨o, eD, hDc⟩ ?_
            refine wpAny_getItem_list (x := .int n0 tv) ⟨o, eD, hDc, nn, hDd⟩ hp0 (by omega) (by simpa using hv) ?_
            walk_at "ph"
            walk_at "ph"
            all_goals exact none_fin _ F11.keep (Nat.le_of_lt F11.ns.lt) eg9 eo9 hr9.symm
    · rintro s9 ⟨m9, V9, F9, V9', mv9, eg9, eo9, Zo, hr9⟩
      have hr10 : putP V a f = some V9 := hr9.symm
      rw [hr10] at hp5
      repeat walk1
      · exact Zo
      · exact ⟨m9, V9, F9, V9', mv9, eg9, eo9, by rw [ea', ef']; exact hp5⟩
  · rintro s5 ⟨m5, V, F5, V5, mv, eg, eo, hp5⟩
    repeat walk1
    have ed : as.drop av.length = [] := by rw [Pa.len, List.drop_length]
    rw [ed] at hp5
    have hp6 : putR as fs [none, none, none] = some V := by rw [← hp5]; unfold putR; rfl
    obtain ⟨o, vs, n, e, c1, c2, c3, _⟩ := V5
    refine h s5 (.ref D) ⟨F5.keep, by rw [eg]; exact fun _ _ e => e, by rw [eg]; exact id, Nat.le_of_lt F5.ns.lt, eo⟩ ?_
    rw [hp6]
    exact ⟨D, vs, o, n, rfl, Nat.le_of_lt lD, e, c1, c2, c3⟩
end

end Mine
end
section
open PySem PySem.W PyProof.Rows PySem.Calls
open PySem.W.X (SegX wake_any)
set_option Elab.async false
set_option maxRecDepth 100000
set_option maxHeartbeats 8000000
namespace Mine
set_option pp.maxSteps 600
theorem fill34 : (fun (_ : OpenLaw) (_ : Params → Frag) => True) PySem.Challenge.rw_fe0181_02 hd2.heap_39 := by
  k_fill; trivial
local macro_rules | `(tactic| walk_at "no such word 0") => `(tactic| fail)
local macro_rules | `(tactic| walk_at "eval Name") => `(tactic| first
  | (refine nm_loc (by assumption) (by first | with_reducible assumption | assumption | exact rfl) ?_)
  | (refine nm_glob (by assumption) (by k_is) ?_)
  | (refine nm_built (by assumption) (by k_is) (by boot_by_name) ?_))
local macro_rules | `(tactic| walk_at "callWith ref") => `(tactic| first
  | (refine callWith_K0 (Gd.K (Fx.gd (by assumption))) (by k_is) ?_)
  | (refine callWith_K (Gd.K (Fx.gd (by assumption))) (by k_is) ?_))
local macro_rules | `(tactic| walk_at "And") => `(tactic| ((with_reducible show Frag.In _ _ ∧ _); refine ⟨Gd.K (Fx.gd (by assumption)), ?_⟩; try dsimp only [List.nil_append, List.cons_append]))
local macro_rules | `(tactic| walk_at "room") => `(tactic| (simp only [Around.deeper, Around.in1, Around.mark]; omega))
local macro_rules | `(tactic| walk_at "go") => `(tactic| repeat' (first | (k_unfold; (try dsimp only)) | walk1 | (dsimp only; walk1)))
section
variable {prog : Program} {w : World} {A : Around} {E : Value → Shared → Prop} {s : Shared} {env : Env} {h₀ : Heap} {g : PM} {m : Str → Option Value}
local macro_rules | `(tactic| walk_at "eval Name") => `(tactic| first
  | (refine nm_loc (by assumption) (by first | with_reducible assumption | assumption | exact rfl) ?_)
  | (refine nm_loc (Gn.F (by assumption)) (by first | with_reducible assumption | assumption | exact rfl) ?_)
  | (refine nm_glob (Gn.F (by assumption)) (by k_is) ?_)
  | (refine nm_built (Gn.F (by assumption)) (by k_is) (by boot_by_name) ?_)
  | (refine nm_glob (by assumption) (by k_is) ?_)
  | (refine nm_built (by assumption) (by k_is) (by boot_by_name) ?_))
local macro_rules | `(tactic| walk_at "callWith ref") => `(tactic| first
  | (refine callWith_K0 (Gd.K (Fx.gd (by assumption))) (by k_is) ?_)
  | (refine callWith_K (Gd.K (Fx.gd (by assumption))) (by k_is) ?_)
  | (refine callWith_K0 (Gd.K (Gn.gd (by assumption))) (by k_is) ?_)
  | (refine callWith_K (Gd.K (Gn.gd (by assumption))) (by k_is) ?_))
local macro_rules | `(tactic| walk_at "And") => `(tactic| first
  | ((with_reducible show Frag.In _ _ ∧ _); refine ⟨Gd.K (Fx.gd (by assumption)), ?_⟩; try dsimp only [List.nil_append, List.cons_append])
  | ((with_reducible show Frag.In _ _ ∧ _); refine ⟨Gd.K (Gn.gd (by assumption)), ?_⟩; try dsimp only [List.nil_append, List.cons_append]))
local macro_rules | `(tactic| walk_at "room") => `(tactic| (simp only [over_u, over_d, overL_u, overL_d, overB_u, overB_d, Around.deeper, Around.in1, Around.mark]; omega))
local macro_rules | `(tactic| walk_at "nat") => `(tactic| first | omega | (show @Ne Nat _ _; omega) | (show @LE.le Nat _ _ _; omega) | (show @LT.lt Nat _ _ _; omega) | (show @Eq Nat _ _ → False; omega))

local macro_rules | `(tactic| walk_at "eval Name") => `(tactic| first
  | (refine nm_loc (by assumption) (by first | with_reducible assumption | assumption | exact rfl) ?_)
  | (refine nm_rdL (by assumption) ?_ rfl rfl)
  | (refine nm_globG (Fx.gd (by assumption)) (by k_is) ?_ rfl rfl rfl)
  | (refine nm_builtG (Fx.gd (by assumption)) (by k_is) (by boot_by_name) ?_ rfl rfl rfl rfl))
/-- the record of the law's def, as the head states it -/
def defOf {q : Program} {loose : List Str} {XP : (Str → Option Value) → Heap → Prop} {YP : World → Heap → Prop} {r : RowW} {d : DefRec} {kwd : List (Str × Expr)} {run : Value → List Value → Sem Value} {P : Prop} (_ : WalkO q loose XP YP r d kwd run → P) : DefRec := d
def lawD : DefRec := defOf hd2
abbrev lawE (L fa : Addr) (cd : Value) : Env := envOfC "law" lawD.scope L fa cd

def FactAt (g : PM) (t : Nat) (v : Value) (a : Int × Int) : Prop := ∃ tp n ta tb, v = .ref tp ∧ g tp = some { cls := .type "tuple", data := .seq #[.int a.1 ta, .int a.2 tb] n } ∧ 0 < ta ∧ ta < t ∧ 0 < tb ∧ tb < t
def FactsAt (g : PM) (t : Nat) : List Value → List (Int × Int) → Prop
  | [], [] => True
  | v :: vs, a :: as => FactAt g t v a ∧ FactsAt g t vs as
  | _, _ => False
theorem FactAt.le {g g' : PM} {t t' : Nat} {v : Value} {a : Int × Int} (F : FactAt g t v a) (l : g.le g') (h : t ≤ t') : FactAt g' t' v a :=
  let ⟨tp, n, ta, tb, e, q, h1, h2, h3, h4⟩ := F; ⟨tp, n, ta, tb, e, l _ _ q, h1, Nat.lt_of_lt_of_le h2 h, h3, Nat.lt_of_lt_of_le h4 h⟩
theorem FactsAt.le {g g' : PM} {t t' : Nat} (l : g.le g') (h : t ≤ t') : ∀ {vs : List Value} {as : List (Int × Int)}, FactsAt g t vs as → FactsAt g' t' vs as
  | [], [], _ => trivial
  | _ :: _, _ :: _, ⟨a, b⟩ => ⟨a.le l h, FactsAt.le l h b⟩
  | [], _ :: _, q => q.elim
  | _ :: _, [], q => q.elim
theorem FactsAt.snoc {g : PM} {t : Nat} {v : Value} {a : Int × Int} (F : FactAt g t v a) : ∀ {vs : List Value} {as : List (Int × Int)}, FactsAt g t vs as → FactsAt g t (vs ++ [v]) (as ++ [a])
  | [], [], _ => ⟨F, trivial⟩
  | _ :: _, _ :: _, ⟨a, b⟩ => ⟨a, FactsAt.snoc F b⟩
  | [], _ :: _, q => q.elim
  | _ :: _, [], q => q.elim
theorem FactsAt.pairs {g : PM} {t : Nat} : ∀ {vs : List Value} {as : List (Int × Int)}, FactsAt g t vs as → PairsAt g vs as
  | [], [], _ => trivial
  | _ :: _, _ :: _, ⟨⟨tp, n, ta, tb, e, q, _⟩, b⟩ => ⟨⟨tp, n, ta, tb, e, q⟩, b.pairs⟩
  | [], _ :: _, q => q.elim
  | _ :: _, [], q => q.elim


def CellAt (g : PM) (c : Addr) (v : Value) : Prop := ∃ o, g c = some o ∧ o.data = .cell (some v)
theorem CellAt.le {g g' : PM} {c : Addr} {v : Value} (x : CellAt g c v) (l : g.le g') : CellAt g' c v := let ⟨o, h, r⟩ := x; ⟨o, l _ _ h, r⟩
theorem CellAt.is {g : PM} {h : Heap} {c : Addr} {v : Value} (x : CellAt g c v) (on : g.on h) : h.IsCell c (some v) := let ⟨o, e, r⟩ := x; ⟨o, on _ _ e, r⟩
/-- freeze an object -/
theorem Fx.freeze {L b0 : Addr} {h : Heap} {o : Obj} (F : Fx w h₀ g L h m) (e : h.get? b0 = some o) (ne : b0 ≠ L) : Fx w h₀ (g.ins b0 o) L h m :=
  F.wid (fun b x q => by
    unfold PM.ins at q
    by_cases z : b = b0
    · rw [if_pos z] at q; cases q; rw [z]; exact e
    · rw [if_neg z] at q; exact F.on _ _ q) ((PM.ins_ne _ _ (Ne.symm ne)).trans F.off)
abbrev pr (d n : Int) : Int × Int := (n.fmod d, (n.fdiv d).fmod d)

/-- store a list in a cell of the law -/
theorem st_cell {base : Heap} {L c : Addr} {x : Str} {v : Value} {vo : Option Value} {Q : Unit → Shared → Prop} (F : Fx w base g L s.heap m) (hc : env.cells.lookup x = some c) (hv : s.heap.IsCell c vo) (ne : c ≠ L) (gc : g c = none) (bc : base.objs.size ≤ c)
    (h : ∀ g' h', Fx w base g' L h' m → g.le g' → CellAt g' c v → (∀ b, b ≠ c → g' b = g b) → (∀ b o, b ≠ c → s.heap.get? b = some o → h'.get? b = some o) → Q () { s with heap := h' })
    (hl : env.kindOf x = some .cell := by rfl) (hk : env.scope.kind = .function := by rfl) : wpAny (model prog w) A (storeName env x v) Q E s := by
  refine wpAny_storeName_cell hk hl hc hv (fun h' ⟨o, e, d⟩ sb => ?_)
  have k : ∀ b o, b ≠ c → s.heap.get? b = some o → h'.get? b = some o := fun b o ne e => sb.extBut b o ne e
  have F1 := (F.but k ne gc bc).freeze e ne
  exact h _ _ F1 (Ext.ins (k := 0) (Nat.zero_le _) gc).le ⟨o, PM.ins_self _ _ _, d⟩ (fun b hb => PM.ins_ne _ _ hb) k

theorem law_s2 {base : Heap} {L fa D0 : Addr} {cd : Value} {ws : List Value} {ns : List Int} {g0 : PM} {Q : Flow → Shared → Prop} (F0 : Fx w base g0 L s.heap m) (L0 : LstAt g0 D0 ws) (hm : m "numbers" = some (.ref D0)) (hI : IntsAre ws ns) (hn : ns.length = 6)
    (c1 : s.heap.IsCell (L + 1) none) (g01 : g0 (L + 1) = none) (hbL : base.objs.size = L)
    (hrest : ∀ g' s' Df fv t, Fx w base g' L s'.heap m → g0.le g' → CellAt g' (L + 1) (.ref Df) → LstAt g' Df fv → FactsAt g' t fv ((ns.take 3).map (pr 3)) → t ≤ s'.toks → s.toks ≤ s'.toks → (∀ b, b < s.heap.objs.size → b ≠ L + 1 → g' b = g0 b) → (∀ b o, b < s.heap.objs.size → b ≠ L + 1 → s.heap.get? b = some o → ∃ sl, s'.heap.get? b = some { o with slots := sl }) →
      s'.os = s.os → (AllBare s.gens → AllBare s'.gens) → wpAny (model prog w) (callerA.deeper (lawE L fa cd)) (execs (lawD.body.drop 2) (lawE L fa cd)) Q E s') :
    wpAny (model prog w) (callerA.deeper (lawE L fa cd)) (execs (lawD.body.drop 1) (lawE L fa cd)) Q E s := by
  have hh : (callerA.deeper (lawE L fa cd)).handled = none := rfl
  have nL : L + 1 ≠ L := Nat.succ_ne_self L
  unfold lawD defOf
  dsimp only [List.drop]
  iterate 2 walk1
  refine lc_eval (tm := True) (g := g0) (base := base) (L := L) (m := m) (cl := []) hh rfl (by decide) rfl (by decide) rfl ?_
  repeat walk1
  refine slice_fx (r := ws.take 3) F0 L0 .none (.int 3 _) (by have := slicePick_upto' ws.toArray 3; simpa using this) (by have := hI.length; omega) (fun g1 h1 D1 F1 k1 X1 z1 L1 => ?_)
  have hI3 : IntsAre (ws.take 3) (ns.take 3) := hI.take 3
  refine ⟨g1, _, _, fun g t i ys => FactsAt g t ys (((ns.take 3).take i).map (pr 3)), Tn.grow ⟨k1, fun _ _ e => e, id, z1, rfl⟩ X1 F1.on F0.keep (fun _ => Nat.le_succ _), F1, SrcIs.list L1, ?_, F1.ns.lt, Nat.le_of_lt F1.lt, fun g t t' i ys h q => q.le .refl h, fun t => trivial, ?_, ?_⟩
  · have := hI.length
    rw [List.length_take, sizeLine_eq]; omega
  · intro C i v g' s' ys N hi hP hac F' T' rd
    obtain ⟨n, t, rfl, hnk⟩ := IntsAre.at hI3 i v hP
    refine wpAny_tests_nil ?_
    rw [if_pos rfl]
    repeat walk1
    refine wpAny_newTuple ?_
    have F2 := F'.push { cls := .type "tuple", data := .seq #[.int (n.fmod 3) (s'.toks + 1), .int ((n.fdiv 3).fmod 3) (s'.toks + 1 + 1 + 1 + 1 + 1)] }
    have X2 := Ext.ins (o := { cls := .type "tuple", data := .seq #[.int (n.fmod 3) (s'.toks + 1), .int ((n.fdiv 3).fmod 3) (s'.toks + 1 + 1 + 1 + 1 + 1)] }) (Nat.le_refl s'.heap.objs.size) F'.none_at
    refine ⟨_, Tn.grow ⟨fun b o e => Heap.get?_push_of_some _ e, fun _ _ e => e, id, by rw [Heap.size_push]; exact Nat.le_succ _, rfl⟩ X2 F2.on F'.keep (fun _ => by simp only [Nat.add_assoc]; exact Nat.le_add_right _ _), ?_⟩
    rw [List.take_add_one, hnk]
    simp only [Option.toList_some, List.map_append, List.map_cons, List.map_nil]
    show FactsAt _ (s'.toks + 6) _ _
    have hf : FactAt (g'.ins s'.heap.objs.size { cls := .type "tuple", data := .seq #[.int (n.fmod 3) (s'.toks + 1), .int ((n.fdiv 3).fmod 3) (s'.toks + 1 + 1 + 1 + 1 + 1)] }) (s'.toks + 6) (.ref s'.heap.objs.size) (pr 3 n) :=
      ⟨s'.heap.objs.size, _, s'.toks + 1, s'.toks + 1 + 1 + 1 + 1 + 1, rfl, PM.ins_self _ _ _, Nat.succ_pos _, (by show s'.toks + 1 < s'.toks + 6; omega), Nat.succ_pos _, Nat.lt_succ_self _⟩
    exact FactsAt.snoc hf (hac.le X2.le (by show s'.toks ≤ s'.toks + 6; omega))
  · intro g2 ys s2 D2 o2' hac yl F2 T2 le2 L2 _
    have l1 : L + 1 < s.heap.objs.size := c1.lt
    have e2 : (g2.ins D2 o2') (L + 1) = none := by
      cases q : (g2.ins D2 o2') (L + 1) with
      | none => rfl
      | some o => exact (T2.ext.new _ _ q).elim (fun e => by rw [g01] at e; cases e) fun e => absurd l1 (Nat.not_lt.mpr e)
    refine st_cell (c := L + 1) F2 rfl (cell_slk c1 T2.kp.sl l1) nL e2 (by omega) (fun g3 h3 F3 le3 C3 eq3 k3 => ?_)
    have len3 : (ws.take 3).length = 3 := by have := hI.length; rw [List.length_take]; omega
    rw [len3] at hac
    have hac' : FactsAt g2 s2.toks ys ((ns.take 3).map (pr 3)) := by
      have : (ns.take 3).take 3 = ns.take 3 := by rw [List.take_take]; simp
      rw [this] at hac; exact hac
    refine hrest g3 _ D2 ys s2.toks F3 (T2.ext.le.trans le3) C3 (L2.le le3) (hac'.le (le2.trans le3) (Nat.le_refl _)) (Nat.le_refl _) (T2.tok trivial) (fun b hb ne => ?_) (fun b o hb ne e => ?_) T2.kp.os T2.kp.bare
    · rw [eq3 b ne]
      cases q : (g2.ins D2 o2') b with
      | none =>
        cases q' : g0 b with
        | none => rfl
        | some o => rw [T2.ext.le _ _ q'] at q; cases q
      | some o => exact (T2.ext.new _ _ q).elim (fun e => e.symm) fun e => absurd hb (Nat.not_lt.mpr e)
    · obtain ⟨sl, e'⟩ := T2.kp.sl b o hb id e
      exact ⟨sl, k3 _ _ ne e'⟩
theorem law_s3 {base : Heap} {L fa D0 : Addr} {cd : Value} {ws : List Value} {ns : List Int} {g0 : PM} {Q : Flow → Shared → Prop} (F0 : Fx w base g0 L s.heap m) (L0 : LstAt g0 D0 ws) (hm : m "numbers" = some (.ref D0)) (hI : IntsAre ws ns) (hn : ns.length = 6)
    (c1 : s.heap.IsCell (L + 2) none) (g01 : g0 (L + 2) = none) (hbL : base.objs.size = L)
    (hrest : ∀ g' s' Df fv t, Fx w base g' L s'.heap m → g0.le g' → CellAt g' (L + 2) (.ref Df) → LstAt g' Df fv → FactsAt g' t fv ((ns.drop 3).map (pr 6)) → t ≤ s'.toks → s.toks ≤ s'.toks → (∀ b, b < s.heap.objs.size → b ≠ L + 2 → g' b = g0 b) → (∀ b o, b < s.heap.objs.size → b ≠ L + 2 → s.heap.get? b = some o → ∃ sl, s'.heap.get? b = some { o with slots := sl }) →
      s'.os = s.os → (AllBare s.gens → AllBare s'.gens) → wpAny (model prog w) (callerA.deeper (lawE L fa cd)) (execs (lawD.body.drop 3) (lawE L fa cd)) Q E s') :
    wpAny (model prog w) (callerA.deeper (lawE L fa cd)) (execs (lawD.body.drop 2) (lawE L fa cd)) Q E s := by
  have hh : (callerA.deeper (lawE L fa cd)).handled = none := rfl
  have nL : L + 2 ≠ L := by show @Ne Nat _ _; omega
  unfold lawD defOf
  dsimp only [List.drop]
  iterate 2 walk1
  refine lc_eval (tm := True) (g := g0) (base := base) (L := L) (m := m) (cl := []) hh rfl (by decide) rfl (by decide) rfl ?_
  repeat walk1
  refine slice_fx (r := ws.drop 3) F0 L0 (.int 3 _) .none (by have := slicePick_from' ws.toArray 3; simpa using this) (by have := hI.length; omega) (fun g1 h1 D1 F1 k1 X1 z1 L1 => ?_)
  have hI3 : IntsAre (ws.drop 3) (ns.drop 3) := hI.drop 3
  refine ⟨g1, _, _, fun g t i ys => FactsAt g t ys (((ns.drop 3).take i).map (pr 6)), Tn.grow ⟨k1, fun _ _ e => e, id, z1, rfl⟩ X1 F1.on F0.keep (fun _ => Nat.le_succ _), F1, SrcIs.list L1, ?_, F1.ns.lt, Nat.le_of_lt F1.lt, fun g t t' i ys h q => q.le .refl h, fun t => trivial, ?_, ?_⟩
  · have := hI.length
    rw [List.length_drop, sizeLine_eq]; omega
  · intro C i v g' s' ys N hi hP hac F' T' rd
    obtain ⟨n, t, rfl, hnk⟩ := IntsAre.at hI3 i v hP
    refine wpAny_tests_nil ?_
    rw [if_pos rfl]
    repeat walk1
    refine wpAny_newTuple ?_
    have F2 := F'.push { cls := .type "tuple", data := .seq #[.int (n.fmod 6) (s'.toks + 1), .int ((n.fdiv 6).fmod 6) (s'.toks + 1 + 1 + 1 + 1 + 1)] }
    have X2 := Ext.ins (o := { cls := .type "tuple", data := .seq #[.int (n.fmod 6) (s'.toks + 1), .int ((n.fdiv 6).fmod 6) (s'.toks + 1 + 1 + 1 + 1 + 1)] }) (Nat.le_refl s'.heap.objs.size) F'.none_at
    refine ⟨_, Tn.grow ⟨fun b o e => Heap.get?_push_of_some _ e, fun _ _ e => e, id, by rw [Heap.size_push]; exact Nat.le_succ _, rfl⟩ X2 F2.on F'.keep (fun _ => by simp only [Nat.add_assoc]; exact Nat.le_add_right _ _), ?_⟩
    rw [List.take_add_one, hnk]
    simp only [Option.toList_some, List.map_append, List.map_cons, List.map_nil]
    show FactsAt _ (s'.toks + 6) _ _
    have hf : FactAt (g'.ins s'.heap.objs.size { cls := .type "tuple", data := .seq #[.int (n.fmod 6) (s'.toks + 1), .int ((n.fdiv 6).fmod 6) (s'.toks + 1 + 1 + 1 + 1 + 1)] }) (s'.toks + 6) (.ref s'.heap.objs.size) (pr 6 n) :=
      ⟨s'.heap.objs.size, _, s'.toks + 1, s'.toks + 1 + 1 + 1 + 1 + 1, rfl, PM.ins_self _ _ _, Nat.succ_pos _, (by show s'.toks + 1 < s'.toks + 6; omega), Nat.succ_pos _, Nat.lt_succ_self _⟩
    exact FactsAt.snoc hf (hac.le X2.le (by show s'.toks ≤ s'.toks + 6; omega))
  · intro g2 ys s2 D2 o2' hac yl F2 T2 le2 L2 _
    have l1 : L + 2 < s.heap.objs.size := c1.lt
    have e2 : (g2.ins D2 o2') (L + 2) = none := by
      cases q : (g2.ins D2 o2') (L + 2) with
      | none => rfl
      | some o => exact (T2.ext.new _ _ q).elim (fun e => by rw [g01] at e; cases e) fun e => absurd l1 (Nat.not_lt.mpr e)
    refine st_cell (c := L + 2) F2 rfl (cell_slk c1 T2.kp.sl l1) nL e2 (by omega) (fun g3 h3 F3 le3 C3 eq3 k3 => ?_)
    have len3 : (ws.drop 3).length = 3 := by have := hI.length; rw [List.length_drop]; omega
    rw [len3] at hac
    have hac' : FactsAt g2 s2.toks ys ((ns.drop 3).map (pr 6)) := by
      have : (ns.drop 3).take 3 = ns.drop 3 := List.take_of_length_le (by rw [List.length_drop]; omega)
      rw [this] at hac; exact hac
    refine hrest g3 _ D2 ys s2.toks F3 (T2.ext.le.trans le3) C3 (L2.le le3) (hac'.le (le2.trans le3) (Nat.le_refl _)) (Nat.le_refl _) (T2.tok trivial) (fun b hb ne => ?_) (fun b o hb ne e => ?_) T2.kp.os T2.kp.bare
    · rw [eq3 b ne]
      cases q : (g2.ins D2 o2') b with
      | none =>
        cases q' : g0 b with
        | none => rfl
        | some o => rw [T2.ext.le _ _ q'] at q; cases q
      | some o => exact (T2.ext.new _ _ q).elim (fun e => e.symm) fun e => absurd hb (Nat.not_lt.mpr e)
    · obtain ⟨sl, e'⟩ := T2.kp.sl b o hb id e
      exact ⟨sl, k3 _ _ ne e'⟩
end

end Mine
end
section
open PySem PySem.W PyProof.Rows PySem.Calls
open PySem.W.X (SegX wake_any)
set_option Elab.async false
set_option maxRecDepth 100000
set_option maxHeartbeats 8000000
namespace Mine
set_option pp.maxSteps 600
theorem fill35 : (fun (_ : OpenLaw) (_ : Params → Frag) => True) PySem.Challenge.rw_fe0181_02 hd2.heap_39 := by
  k_fill; trivial
local macro_rules | `(tactic| walk_at "eval Name") => `(tactic| first
  | (refine nm_loc (by assumption) (by first | with_reducible assumption | assumption | exact rfl) ?_)
  | (refine nm_glob (by assumption) (by k_is) ?_)
  | (refine nm_built (by assumption) (by k_is) (by boot_by_name) ?_))
local macro_rules | `(tactic| walk_at "callWith ref") => `(tactic| first
  | (refine callWith_K0 (Gd.K (Fx.gd (by assumption))) (by k_is) ?_)
  | (refine callWith_K (Gd.K (Fx.gd (by assumption))) (by k_is) ?_))
local macro_rules | `(tactic| walk_at "And") => `(tactic| ((with_reducible show Frag.In _ _ ∧ _); refine ⟨Gd.K (Fx.gd (by assumption)), ?_⟩; try dsimp only [List.nil_append, List.cons_append]))
local macro_rules | `(tactic| walk_at "room") => `(tactic| (simp only [Around.deeper, Around.in1, Around.mark]; omega))
local macro_rules | `(tactic| walk_at "go") => `(tactic| repeat' (first | (k_unfold; (try dsimp only)) | walk1 | (dsimp only; walk1)))
section
variable {prog : Program} {w : World} {A : Around} {E : Value → Shared → Prop} {s : Shared} {env : Env} {h₀ : Heap} {g : PM} {m : Str → Option Value}
local macro_rules | `(tactic| walk_at "eval Name") => `(tactic| first
  | (refine nm_loc (by assumption) (by first | with_reducible assumption | assumption | exact rfl) ?_)
  | (refine nm_loc (Gn.F (by assumption)) (by first | with_reducible assumption | assumption | exact rfl) ?_)
  | (refine nm_glob (Gn.F (by assumption)) (by k_is) ?_)
  | (refine nm_built (Gn.F (by assumption)) (by k_is) (by boot_by_name) ?_)
  | (refine nm_glob (by assumption) (by k_is) ?_)
  | (refine nm_built (by assumption) (by k_is) (by boot_by_name) ?_))
local macro_rules | `(tactic| walk_at "callWith ref") => `(tactic| first
  | (refine callWith_K0 (Gd.K (Fx.gd (by assumption))) (by k_is) ?_)
  | (refine callWith_K (Gd.K (Fx.gd (by assumption))) (by k_is) ?_)
  | (refine callWith_K0 (Gd.K (Gn.gd (by assumption))) (by k_is) ?_)
  | (refine callWith_K (Gd.K (Gn.gd (by assumption))) (by k_is) ?_))
local macro_rules | `(tactic| walk_at "And") => `(tactic| first
  | ((with_reducible show Frag.In _ _ ∧ _); refine ⟨Gd.K (Fx.gd (by assumption)), ?_⟩; try dsimp only [List.nil_append, List.cons_append])
  | ((with_reducible show Frag.In _ _ ∧ _); refine ⟨Gd.K (Gn.gd (by assumption)), ?_⟩; try dsimp only [List.nil_append, List.cons_append]))
local macro_rules | `(tactic| walk_at "room") => `(tactic| (simp only [over_u, over_d, overL_u, overL_d, overB_u, overB_d, Around.deeper, Around.in1, Around.mark]; omega))
local macro_rules | `(tactic| walk_at "nat") => `(tactic| first | omega | (show @Ne Nat _ _; omega) | (show @LE.le Nat _ _ _; omega) | (show @LT.lt Nat _ _ _; omega) | (show @Eq Nat _ _ → False; omega))

theorem nm_cellC {x : Str} {pos : Pos} {c : Addr} {v : Value} {Q : Value → Shared → Prop} (hc : env.cells.lookup x = some c) (hv : s.heap.IsCell c (some v)) (h : Q v s) (hl : env.kindOf x = some .cell := by rfl) (hk : env.scope.kind = .function := by rfl) (hd : (x == ("__debug__" : Str)) = false := by decide) :
    wpAny (model prog w) A (eval (.Name x pos) env) Q E s := wpAny_Name (wpAny_loadName_cell hk hl hc hv h) hd
local macro_rules | `(tactic| walk_at "eval Name") => `(tactic| first
  | (refine nm_loc (by assumption) (by first | with_reducible assumption | assumption | exact rfl) ?_)
  | (refine nm_rdL (by assumption) ?_ rfl rfl)
  | (refine nm_cellC rfl (by assumption) ?_)
  | (refine nm_globG (Fx.gd (by assumption)) (by k_is) ?_ rfl rfl rfl)
  | (refine nm_builtG (Fx.gd (by assumption)) (by k_is) (by boot_by_name) ?_ rfl rfl rfl rfl))
theorem lawA_u {env : Env} : (callerA.deeper env).units + 200 < cLine := by simp only [Around.deeper, callerA]; decide
theorem lawA_d {env : Env} : (callerA.deeper env).depth + 10 < recursionLimit := by show 1 + claimMargin + 1 + 10 < recursionLimit; decide
def Hid (P : Prop) : Prop := P
theorem Hid.intro {P : Prop} (h : P) : Hid P := h
theorem wpAny_hid {α : Type} {M : Model} {t : Sem α} {Q : α → Shared → Prop} (h : wpAny M A t (fun a s' => Hid (Q a s')) E s) : wpAny M A t Q E s := h
def tmP (p : Int) : Tm := if p < 3 then .var p else .int (p - 3)
/-- a part of a question: a variable, or a number made at or behind T -/
def QPart (g : PM) (T : Nat) (v : Value) (p : Int) : Prop := if p < 3 then Rep g (.var p) v else ∃ tk, v = .int (p - 3) tk ∧ T ≤ tk
def QParts (g : PM) (T : Nat) : List Value → List Int → Prop
  | [], [] => True
  | v :: vs, p :: ps => QPart g T v p ∧ QParts g T vs ps
  | _, _ => False
theorem QPart.le {g g' : PM} {T : Nat} {v : Value} {p : Int} (q : QPart g T v p) (l : g.le g') : QPart g' T v p := by
  unfold QPart at q ⊢
  by_cases h : p < 3
  · rw [if_pos h] at q ⊢
    exact q.le l
  · rw [if_neg h] at q ⊢
    exact q
theorem QParts.le {g g' : PM} {T : Nat} (l : g.le g') : ∀ {vs : List Value} {ps : List Int}, QParts g T vs ps → QParts g' T vs ps
  | [], [], _ => trivial
  | _ :: _, _ :: _, ⟨a, b⟩ => ⟨a.le l, QParts.le l b⟩
  | [], _ :: _, q => q.elim
  | _ :: _, [], q => q.elim
theorem QParts.snoc {g : PM} {T : Nat} {v : Value} {p : Int} (F : QPart g T v p) : ∀ {vs : List Value} {ps : List Int}, QParts g T vs ps → QParts g T (vs ++ [v]) (ps ++ [p])
  | [], [], _ => ⟨F, trivial⟩
  | _ :: _, _ :: _, ⟨a, b⟩ => ⟨a, QParts.snoc F b⟩
  | [], _ :: _, q => q.elim
  | _ :: _, [], q => q.elim
/-- a question -/
def QAt (g : PM) (T : Nat) (v : Value) (a : Int × Int) : Prop := ∃ tp n y1 y2, v = .ref tp ∧ g tp = some { cls := .type "tuple", data := .seq #[y1, y2] n } ∧ QPart g T y1 a.1 ∧ QPart g T y2 a.2
def QsAt (g : PM) (T : Nat) : List Value → List (Int × Int) → Prop
  | [], [] => True
  | v :: vs, a :: as => QAt g T v a ∧ QsAt g T vs as
  | _, _ => False
theorem QAt.le {g g' : PM} {T : Nat} {v : Value} {a : Int × Int} (q : QAt g T v a) (l : g.le g') : QAt g' T v a := let ⟨tp, n, y1, y2, e, h, q1, q2⟩ := q; ⟨tp, n, y1, y2, e, l _ _ h, q1.le l, q2.le l⟩
theorem QsAt.le {g g' : PM} {T : Nat} (l : g.le g') : ∀ {vs : List Value} {ps : List (Int × Int)}, QsAt g T vs ps → QsAt g' T vs ps
  | [], [], _ => trivial
  | _ :: _, _ :: _, ⟨a, b⟩ => ⟨a.le l, QsAt.le l b⟩
  | [], _ :: _, q => q.elim
  | _ :: _, [], q => q.elim
theorem QsAt.snoc {g : PM} {T : Nat} {v : Value} {p : Int × Int} (F : QAt g T v p) : ∀ {vs : List Value} {ps : List (Int × Int)}, QsAt g T vs ps → QsAt g T (vs ++ [v]) (ps ++ [p])
  | [], [], _ => ⟨F, trivial⟩
  | _ :: _, _ :: _, ⟨a, b⟩ => ⟨a, QsAt.snoc F b⟩
  | [], _ :: _, q => q.elim
  | _ :: _, [], q => q.elim

theorem law_s4 {base : Heap} {L fa Da : Addr} {cd : Value} {av : List Value} {as : List (Int × Int)} {g0 : PM} {t0 : Nat} {Q : Flow → Shared → Prop} (F0 : Fx w base g0 L s.heap m) (C2 : CellAt g0 (L + 2) (.ref Da)) (L0 : LstAt g0 Da av) (FA : FactsAt g0 t0 av as) (hl : as.length = 3) (hp : ∀ a ∈ as, 0 ≤ a.1 ∧ a.1 < 6 ∧ 0 ≤ a.2 ∧ a.2 < 6)
    (hrest : ∀ g' s' Dq qv, Fx w base g' L s'.heap (fun z => if z = "questions" then some (.ref Dq) else m z) → g0.le g' → LstAt g' Dq qv → QsAt g' s.toks qv as → s.toks ≤ s'.toks → s'.os = s.os → (AllBare s.gens → AllBare s'.gens) →
      wpAny (model prog w) (callerA.deeper (lawE L fa cd)) (execs (lawD.body.drop 4) (lawE L fa cd)) Q E s') :
    wpAny (model prog w) (callerA.deeper (lawE L fa cd)) (execs (lawD.body.drop 3) (lawE L fa cd)) Q E s := by
  have hh : (callerA.deeper (lawE L fa cd)).handled = none := rfl
  unfold lawD defOf
  dsimp only [List.drop]
  iterate 1 walk1
  refine lc_assign (tm := True) (g := g0) (base := base) (m := m) (cl := []) hh rfl rfl (by decide) rfl (by decide) rfl rfl rfl ?_
  refine nm_cellC rfl (C2.is F0.on) ?_
  refine ⟨g0, _, _, fun g t i ys => QsAt g s.toks ys (as.take i), Tn.refl F0.on F0.keep, F0, SrcIs.list L0, ?_, F0.ns.lt, Nat.le_of_lt F0.lt, fun g t t' i ys h q => q, fun t => trivial, ?_, ?_⟩
  · rw [FA.pairs.len, sizeLine_eq]; omega
  · intro C i v g' s' ys N hi hP hac' F' T' rd
    obtain ⟨a, ra, ea, ea', tp, np, ta, tb, rfl, hpt⟩ := FA.pairs.at hP
    have hpt' := T'.ext.le _ _ hpt
    have hp6 := hp a (by have := List.mem_of_mem_drop (ea ▸ List.mem_cons_self : a ∈ as.drop i); exact this)
    refine wpAny_tests_nil ?_
    rw [if_pos rfl]
    refine wpAny_hid ?_
    iterate 4 walk1
    refine lc_eval (tm := True) (g := g') (base := base) (L := L) (m := m) (cl := []) hh rfl (by decide) rfl (by decide) rfl ?_
    refine nm_rdL rd ?_ rfl rfl
    refine ⟨g', _, _, fun g t i ys => QParts g s.toks ys ([a.1, a.2].take i), Tn.refl F'.on F'.keep, F', SrcIs.tup (its := [.int a.1 ta, .int a.2 tb]) hpt' rfl rfl, (by rw [sizeLine_eq]; simp), F'.ns.lt, Nat.le_of_lt F'.lt, fun g t t' i ys h q => q, fun t => trivial, ?_, ?_⟩
    · intro C2 i2 v2 g2 s2 ys2 N2 hi2 hP2 hac2 F2 T2 rd2
      obtain ⟨p, tk, rfl, hp0, hp6', hnext⟩ : ∃ p tk, v2 = Value.int p tk ∧ 0 ≤ p ∧ p < 6 ∧ [a.1, a.2].take (i2 + 1) = [a.1, a.2].take i2 ++ [p] := by
        rcases i2 with _ | _ | i2
        · simp at hP2
          exact ⟨a.1, ta, hP2.symm, hp6.1, hp6.2.1, rfl⟩
        · simp at hP2
          exact ⟨a.2, tb, hP2.symm, hp6.2.2.1, hp6.2.2.2, rfl⟩
        · simp at hP2
      have tk2 : s.toks ≤ s2.toks := Nat.le_trans (T'.tok trivial) (T2.tok trivial)
      refine wpAny_tests_nil ?_
      rw [if_pos rfl]
      refine wpAny_hid ?_
      by_cases hp3 : p < 3
      · repeat walk1
        all_goals try (exfalso; omega)
        refine wpAny_call (var_make ?_ ?_ F2.gd F2.on fun s3 g3 x Gr3 tk3 X3 on3 V3 => ?_)
        · exact lawA_u
        · exact lawA_d
        show ∃ g'', _ ∧ QParts _ _ _ (List.take (i2 + 1) _)
        rw [hnext]
        have tk23 : s2.toks ≤ s3.toks := Nat.le_trans (by show s2.toks ≤ s2.toks + 1; omega) tk3
        have q3 : QPart g3 s.toks (.ref x) p := by
          unfold QPart
          rw [if_pos hp3]
          simp only [Rep]
          exact ⟨x, rfl, V3, hp0, by omega⟩
        exact ⟨g3, Tn.grow ⟨Gr3.keep, Gr3.gens, Gr3.bare, Gr3.size, Gr3.os⟩ X3 on3 F2.keep (fun _ => tk23), QParts.snoc q3 (hac2.le X3.le)⟩
      · repeat walk1
        all_goals try (exfalso; omega)
        repeat walk1
        show ∃ g'', _ ∧ QParts _ _ _ (List.take (i2 + 1) _)
        rw [hnext]
        have q3 : QPart g2 s.toks (.int (p - 3) (s2.toks + 1 + 1)) p := by
          unfold QPart
          rw [if_neg hp3]
          exact ⟨_, rfl, by show s.toks ≤ s2.toks + 2; omega⟩
        exact ⟨g2, Tn.grow ⟨fun _ _ e => e, fun _ _ e => e, id, Nat.le_refl _, rfl⟩ .refl F2.on F2.keep (fun _ => by show s2.toks ≤ s2.toks + 3; omega), QParts.snoc q3 hac2⟩
    · intro g2 ys s2 D2 o2' hac yl F2 T2 le2 L2 szD
      obtain ⟨y1, y2, rfl, qy1, qy2⟩ : ∃ y1 y2, ys = [y1, y2] ∧ QPart g2 s.toks y1 a.1 ∧ QPart g2 s.toks y2 a.2 := by
        have hac' : QParts g2 s.toks ys [a.1, a.2] := hac
        rcases ys with _ | ⟨y1, _ | ⟨y2, _ | ⟨y3, ys⟩⟩⟩
        · exact hac'.elim
        · exact hac'.2.elim
        · exact ⟨y1, y2, rfl, hac'.1, hac'.2.1⟩
        · exact hac'.2.2.elim
      repeat walk1
      refine call_tuple_list (L2.is F2.on) (fun h3 k3 => ?_) (hsz := by rw [sizeLine_eq]; simp)
      have F3 := (F2.ext (h' := h3) k3).push { cls := .type "tuple", data := .seq [y1, y2].toArray }
      have hD3 : D2 < h3.objs.size := by obtain ⟨o, e, _⟩ := L2; exact Heap.lt_size (k3 _ _ (F2.on _ _ e))
      have sz3 : s'.heap.objs.size ≤ h3.objs.size := Nat.le_of_lt (Nat.lt_of_le_of_lt szD hD3)
      have X3 := Ext.ins (o := { cls := .type "tuple", data := .seq [y1, y2].toArray }) sz3 (F2.ext (h' := h3) k3).none_at
      have kp3 : ∀ b o, h3.get? b = some o → (h3.push { cls := .type "tuple", data := .seq [y1, y2].toArray }).get? b = some o := fun b o e => Heap.get?_push_of_some _ e
      have le3 := le2.trans X3.le
      refine Hid.intro ⟨_, ⟨⟨fun b o hb nx e => ?_, T2.kp.gens, T2.kp.bare, by rw [Heap.size_push]; exact Nat.le_succ_of_le sz3, T2.kp.gsize, T2.kp.os⟩, T2.ext.trans X3 (Nat.le_refl _), F3.on, F3.keep, T2.tok⟩, ?_⟩
      · obtain ⟨sl, e'⟩ := T2.kp.sl b o hb nx e
        exact ⟨sl, kp3 _ _ (k3 _ _ e')⟩
      · have qa : QAt ((g2.ins D2 o2').ins h3.objs.size { cls := .type "tuple", data := .seq [y1, y2].toArray }) s.toks (.ref h3.objs.size) a := ⟨_, _, y1, y2, rfl, PM.ins_self _ _ _, qy1.le le3, qy2.le le3⟩
        have et : as.take (i + 1) = as.take i ++ [a] := by
          have : as[i]? = some a := by
            have := congrArg (fun l => l[0]?) ea
            simpa using this
          rw [List.take_add_one, this]; rfl
        show QsAt _ _ _ (as.take (i + 1))
        rw [et]
        exact QsAt.snoc qa (hac'.le (T2.ext.le.trans X3.le))
  · intro g' ys s3 D o hac yl F3 sz eos bare ext tok le L3
    have et : as.take av.length = as := List.take_of_length_le (by rw [FA.pairs.len]; omega)
    have hac' : QsAt g' s.toks ys (as.take av.length) := hac
    rw [et] at hac'
    exact hrest _ _ D ys F3 ext.le L3 (hac'.le le) (tok trivial) eos bare
end

end Mine
end
section
open PySem PySem.W PyProof.Rows PySem.Calls
open PySem.W.X (SegX wake_any)
set_option Elab.async false
set_option maxRecDepth 100000
set_option maxHeartbeats 8000000
namespace Mine
set_option pp.maxSteps 600
theorem fill36 : (fun (_ : OpenLaw) (_ : Params → Frag) => True) PySem.Challenge.rw_fe0181_02 hd2.heap_39 := by
  k_fill; trivial
local macro_rules | `(tactic| walk_at "eval Name") => `(tactic| first
  | (refine nm_loc (by assumption) (by first | with_reducible assumption | assumption | exact rfl) ?_)
  | (refine nm_glob (by assumption) (by k_is) ?_)
  | (refine nm_built (by assumption) (by k_is) (by boot_by_name) ?_))
local macro_rules | `(tactic| walk_at "callWith ref") => `(tactic| first
  | (refine callWith_K0 (Gd.K (Fx.gd (by assumption))) (by k_is) ?_)
  | (refine callWith_K (Gd.K (Fx.gd (by assumption))) (by k_is) ?_))
local macro_rules | `(tactic| walk_at "And") => `(tactic| ((with_reducible show Frag.In _ _ ∧ _); refine ⟨Gd.K (Fx.gd (by assumption)), ?_⟩; try dsimp only [List.nil_append, List.cons_append]))
local macro_rules | `(tactic| walk_at "room") => `(tactic| (simp only [Around.deeper, Around.in1, Around.mark]; omega))
local macro_rules | `(tactic| walk_at "go") => `(tactic| repeat' (first | (k_unfold; (try dsimp only)) | walk1 | (dsimp only; walk1)))
section
variable {prog : Program} {w : World} {A : Around} {E : Value → Shared → Prop} {s : Shared} {env : Env} {h₀ : Heap} {g : PM} {m : Str → Option Value}
local macro_rules | `(tactic| walk_at "eval Name") => `(tactic| first
  | (refine nm_loc (by assumption) (by first | with_reducible assumption | assumption | exact rfl) ?_)
  | (refine nm_loc (Gn.F (by assumption)) (by first | with_reducible assumption | assumption | exact rfl) ?_)
  | (refine nm_glob (Gn.F (by assumption)) (by k_is) ?_)
  | (refine nm_built (Gn.F (by assumption)) (by k_is) (by boot_by_name) ?_)
  | (refine nm_glob (by assumption) (by k_is) ?_)
  | (refine nm_built (by assumption) (by k_is) (by boot_by_name) ?_))
local macro_rules | `(tactic| walk_at "callWith ref") => `(tactic| first
  | (refine callWith_K0 (Gd.K (Fx.gd (by assumption))) (by k_is) ?_)
  | (refine callWith_K (Gd.K (Fx.gd (by assumption))) (by k_is) ?_)
  | (refine callWith_K0 (Gd.K (Gn.gd (by assumption))) (by k_is) ?_)
  | (refine callWith_K (Gd.K (Gn.gd (by assumption))) (by k_is) ?_))
local macro_rules | `(tactic| walk_at "And") => `(tactic| first
  | ((with_reducible show Frag.In _ _ ∧ _); refine ⟨Gd.K (Fx.gd (by assumption)), ?_⟩; try dsimp only [List.nil_append, List.cons_append])
  | ((with_reducible show Frag.In _ _ ∧ _); refine ⟨Gd.K (Gn.gd (by assumption)), ?_⟩; try dsimp only [List.nil_append, List.cons_append]))
local macro_rules | `(tactic| walk_at "room") => `(tactic| (simp only [over_u, over_d, overL_u, overL_d, overB_u, overB_d, Around.deeper, Around.in1, Around.mark]; omega))
local macro_rules | `(tactic| walk_at "nat") => `(tactic| first | omega | (show @Ne Nat _ _; omega) | (show @LE.le Nat _ _ _; omega) | (show @LT.lt Nat _ _ _; omega) | (show @Eq Nat _ _ → False; omega))

theorem new_env_cell {scope : Scope} {globals : Addr} {closure : List (Str × Addr)} {qual : Str} {n0 x n2 : Str} {Q : Env → Shared → Prop} (hsn : scope.names = [(n0, .local), (x, .cell), (n2, .globalImplicit)])
    (h : Q { scope := scope, locals := s.heap.objs.size, globals := globals, cells := (x, s.heap.objs.size + 1) :: closure, qual := qual, func := none, code := env.code, frame := env.frame, builtins := env.builtins } { s with heap := (s.heap.push { cls := .type "dict", data := .dict #[] }).push { cls := .type "cell", data := .cell none } }) :
    wpAny (model prog w) A (newFunctionEnv scope globals closure [] qual none .none (some env)) Q E s := by
  simp only [newFunctionEnv, hsn, Option.isSome_some, if_true]
  refine wpAny_bind (wpAny_alloc ?_)
  simp only [List.forIn_cons, List.forIn_nil, show (NameKind.local == NameKind.cell) = false from rfl, show (NameKind.cell == NameKind.cell) = true from rfl, show (NameKind.globalImplicit == NameKind.cell) = false from rfl, Bool.false_eq_true, if_false, if_true]
  refine wpAny_bind (wpAny_bind (wpAny_pure (wpAny_bind (wpAny_bind (wpAny_alloc (wpAny_pure (wpAny_bind (wpAny_pure (wpAny_pure ?_)))))))))
  refine wpAny_bind (wpAny_pure (wpAny_pure ?_))
  rw [Heap.size_push]
  exact h
theorem Tgt.cell {scope : Scope} {cl : List (Str × Addr)} {C c : Addr} {x n0 n2 : Str} {px : Pos} (hsn : scope.names = [(n0, .local), (x, .cell), (n2, .globalImplicit)]) (hx0 : (x == n0) = false) (hk : scope.kind = .function) (ne : @Ne Nat C c) :
    Tgt prog w A (compEnvC scope ((x, c) :: cl) C env) (.Name x px) c [C, c] (fun h => (∃ m', h.Ns C m') ∧ ∃ v, h.IsCell c v) (fun h v => h.IsCell c (some v)) where
  inT := .tail _ (.head _)
  asg := fun E Q v s hT h => by
    obtain ⟨⟨m', hn⟩, vo, hc⟩ := hT
    refine wpAny_assign_Name (wpAny_storeName_cell (c := c) (by simp [compEnvC, relabel, hk]) (by simp [compEnvC, relabel, Env.kindOf, hsn, List.lookup_cons, hx0]) (by simp [compEnvC, List.lookup_cons]) hc (fun h' hc' sb => h h' _ ⟨⟨m', hn.sameBut sb ne⟩, _, hc'⟩ hc' sb (Nat.le_refl _)))
  slk := fun h h' hT k => by
    obtain ⟨⟨m', o, es, ep, h1, h2, h3⟩, vo, o', e', d'⟩ := hT
    obtain ⟨sl, e⟩ := k C (.head _) o h1
    obtain ⟨sl', e2⟩ := k c (.tail _ (.head _)) o' e'
    exact ⟨⟨m', _, es, ep, e, h2, h3⟩, vo, _, e2, d'⟩
  lt := fun h hT b hb => by
    obtain ⟨⟨m', hn⟩, vo, hc⟩ := hT
    rcases List.mem_cons.mp hb with rfl | hb
    · exact hn.lt
    · rw [List.mem_singleton.mp hb]; exact hc.lt

/-- a comprehension with a cell for its variable, behind iter(..) -/
theorem comp_cell {tm : Prop} {base : Heap} {L I : Addr} {elt iter : Expr} {x : Str} {px : Pos} {ifs : List Expr} {scope : Scope} {cl : List (Str × Addr)} {pos : Pos} {fp : List Addr} {n : Nat} {P : Nat → Value → Prop} {St : Nat → Heap → Prop} {RR : Value → Addr → Result → Shared → Prop}
    (s0 : Shared) (Acc : PM → Nat → Nat → List Value → Prop) (mono : ∀ g t t' i ys, t ≤ t' → Acc g t i ys → Acc g t' i ys) (S : Src prog w A I fp n P St) (hsz : n ≤ sizeLine) {n0 n2 : Str} (hsn : scope.names = [(n0, .local), (x, .cell), (n2, .globalImplicit)]) (hx0 : (x == n0) = false) (hkind : scope.kind = .function)
    (F : Fx w base g L s.heap m) (T0 : Tn tm base g g s0 s) (hst : St 0 s.heap) (fI : s0.heap.objs.size ≤ I ∧ I ≠ L ∧ base.objs.size ≤ I) (gI : g I = none) (hL : L < s0.heap.objs.size) (hbase : base.objs.size ≤ s0.heap.objs.size) (hacc : ∀ t, Acc g t 0 [])
    (turn : ∀ C cc i v g' (s : Shared) ys (N : Value → Shared → Prop), i < n → P i v → Acc g' s.toks i ys → Fx w base g' L s.heap m → Tn tm base g g' s0 s → s.heap.IsCell cc (some v) →
      wpAny (model prog w) A (forIn ifs true fun c r => if r = true then do let ok ← isTrue c (compEnvC scope ((x, cc) :: cl) C env) (eval c (compEnvC scope ((x, cc) :: cl) C env)); pure (ForInStep.yield ok) else pure (ForInStep.yield r)) (fun ok s3 =>
        if ok = true then wpAny (model prog w) A (eval elt (compEnvC scope ((x, cc) :: cl) C env)) (fun y s4 => ∃ g'', Tn tm base g' g'' s s4 ∧ Acc g'' s4.toks (i + 1) (ys ++ [y])) N s3 else ∃ g'', Tn tm base g' g'' s s3 ∧ Acc g'' s3.toks (i + 1) ys) N s)
    (fin : ∀ g' ys (s : Shared) D C o, Acc g' s.toks n ys → ys.length ≤ n → Fx w base (g'.ins D o) L s.heap m → Tn tm base g (g'.ins D o) s0 s → o.cls = .type "list" → o.data = .seq ys.toArray ys.length → g' D = none → (∃ m', s.heap.Ns C m') → C ≠ L → C ≠ D → (g'.ins D o) C = none →
      s0.heap.objs.size ≤ C → base.objs.size ≤ C → s0.heap.objs.size ≤ D → RR (.ref D) C (.ok .next) s) :
    wpAny (model prog w) A (newList []) (fun acc s₃ => wpAny (model prog w) A (newFunctionEnv scope env.globals cl [] env.qual none .none (some env)) (fun cenv s₄ =>
      codeAny (model prog w) A (.compStart (.ListComp elt [⟨.Name x px, iter, ifs, 0⟩] scope pos) 0 (.ref I) acc { cenv with scope := relabel scope env }) (RR acc cenv.locals) s₄) E s₃) E s := by
  refine wpAny_newObj_type (new_env_cell hsn ?_)
  have sz : @LE.le Nat _ s0.heap.objs.size s.heap.objs.size := T0.kp.size
  have hL' : @LT.lt Nat _ L s0.heap.objs.size := hL
  have fI1 : @LE.le Nat _ s0.heap.objs.size I := fI.1
  have hbase' : @LE.le Nat _ base.objs.size s0.heap.objs.size := hbase
  dsimp only
  obtain ⟨D, hDe⟩ : ∃ D : Addr, D = s.heap.objs.size := ⟨_, rfl⟩
  obtain ⟨C, hCe⟩ : ∃ C : Addr, C = (s.heap.push { cls := .type "list", dict := none, data := .seq ([] : List Value).toArray }).objs.size := ⟨_, rfl⟩
  obtain ⟨c, hce⟩ : ∃ c : Addr, c = C + 1 := ⟨_, rfl⟩
  have hC' : @Eq Nat C (s.heap.objs.size + 1) := by rw [hCe, Heap.size_push]
  have hD' : @Eq Nat D s.heap.objs.size := hDe
  have hc' : @Eq Nat c (s.heap.objs.size + 2) := by rw [hce, hC']
  obtain ⟨h₁, hh1⟩ : ∃ h₁ : Heap, h₁ = ((s.heap.push { cls := .type "list", dict := none, data := .seq ([] : List Value).toArray }).push { cls := .type "dict", data := .dict #[] }).push { cls := .type "cell", data := .cell none } := ⟨_, rfl⟩
  have old : ∀ b o, s.heap.get? b = some o → h₁.get? b = some o := fun b o e => by rw [hh1]; exact Heap.get?_push_of_some _ (Heap.get?_push_of_some _ (Heap.get?_push_of_some _ e))
  have hacc1 : h₁.get? D = some { cls := .type "list", dict := none, data := .seq ([] : List Value).toArray } := by rw [hh1, hDe]; exact Heap.get?_push_of_some _ (Heap.get?_push_of_some _ (Heap.get?_push_size _ rfl))
  have hns₁ : h₁.Ns C (fun _ => none) := by
    have := Heap.Ns.new (s.heap.push { cls := .type "list", dict := none, data := .seq ([] : List Value).toArray }) (.type "dict")
    rw [hh1, hCe]
    exact this.keeps fun b o e => Heap.get?_push_of_some _ e
  have hcell₁ : h₁.IsCell c none := by
    refine ⟨{ cls := .type "cell", data := .cell none }, ?_, rfl⟩
    have e : c = ((s.heap.push { cls := .type "list", dict := none, data := .seq ([] : List Value).toArray }).push { cls := .type "dict", data := .dict #[] }).objs.size := by rw [Heap.size_push, Heap.size_push]; exact hc'
    rw [hh1, e]
    exact Heap.get?_push_size _ rfl
  rw [← hh1, ← hCe, ← hce, ← hDe]
  have gn0 : ∀ b, s.heap.objs.size ≤ b → g b = none := fun b hb => by
    cases q : g b with
    | none => rfl
    | some o => exact absurd (Heap.lt_size (F.on _ _ q)) (Nat.not_lt.mpr hb)
  have fpl := S.lt _ _ hst
  have Il : @LT.lt Nat _ I s.heap.objs.size := fpl _ S.inI
  have size1 : s.heap.objs.size ≤ h₁.objs.size := by
    have : @LT.lt Nat _ D h₁.objs.size := Heap.lt_size hacc1
    omega
  have Gr : Grow s ⟨h₁, s.gens, s.drawn, s.toks, s.os⟩ := ⟨old, fun _ _ e => e, id, size1, rfl⟩
  have on1 := F.on.keeps old
  have T1 : Tn tm base g g s0 ⟨h₁, s.gens, s.drawn, s.toks, s.os⟩ := T0.trans (Tn.grow Gr .refl on1 T0.stays fun _ => Nat.le_refl _)
  have fresh : ∀ b ∈ [I, D, C, c], s0.heap.objs.size ≤ b ∧ b ≠ L ∧ base.objs.size ≤ b := fun b hb => by
    rcases List.mem_cons.mp hb with rfl | hb
    · exact fI
    · rcases List.mem_cons.mp hb with rfl | hb
      · exact ⟨by walk_at "nat", by walk_at "nat", by walk_at "nat"⟩
      · rcases List.mem_cons.mp hb with rfl | hb
        · exact ⟨by walk_at "nat", by walk_at "nat", by walk_at "nat"⟩
        · rw [List.mem_singleton.mp hb]; exact ⟨by walk_at "nat", by walk_at "nat", by walk_at "nat"⟩
  refine comp_loop (cenv := compEnvC scope ((x, c) :: cl) C env) (g := g) (ts := [C, c]) s0 Acc mono S hsz (Tgt.cell hsn hx0 hkind (by walk_at "nat")) (fun hb => ?_) (fun hb => ?_) (fun hb => ?_) (fun hb => ?_) (by walk_at "nat") fresh
    (fun i v g' s ys N hi hP ac F' T' rd _ => turn C c i v g' s ys N hi hP ac F' T' rd) ?_ (F.ext old) T1 (S.slk _ _ _ hst fun b _ o e => ⟨o.slots, old b o e⟩) ⟨⟨_, hns₁⟩, ⟨_, hcell₁⟩⟩ (fun b hb => ?_) hacc1 rfl rfl (hacc _)
  · have q : @LT.lt Nat _ _ s.heap.objs.size := fpl _ hb
    revert q; walk_at "nat"
  · have q : @LT.lt Nat _ _ s.heap.objs.size := fpl _ hb
    revert q; walk_at "nat"
  · rcases List.mem_cons.mp hb with q | hb
    · have q : @Eq Nat _ _ := q
      omega
    · have q : @Eq Nat _ _ := List.mem_singleton.mp hb
      omega
  · rcases List.mem_cons.mp hb with q | hb
    · have q : @Eq Nat _ _ := q
      omega
    · have q : @Eq Nat _ _ := List.mem_singleton.mp hb
      omega
  · intro g' ys s' o ac yl F' T' hD hDc hDd hT gn
    have gD := gn _ (.tail _ (.head _))
    have gC := gn _ (.tail _ (.tail _ (.head _)))
    have on' : (g'.ins D o).on s'.heap := fun b x e => by
      unfold PM.ins at e
      by_cases q : b = D
      · rw [if_pos q] at e; cases e; rw [q]; exact hD
      · rw [if_neg q] at e; exact F'.on _ _ e
    have X1 : Ext s0.heap.objs.size g' (g'.ins D o) := Ext.ins (by walk_at "nat") gD
    have nDL : @Ne Nat L D := by omega
    have offL : (g'.ins D o) L = none := (PM.ins_ne _ _ nDL).trans F'.off
    have n1 : @Ne Nat C L := by omega
    have n2 : @Ne Nat C D := by omega
    have n3 : @LE.le Nat _ s0.heap.objs.size C := by omega
    have n4 : @LE.le Nat _ base.objs.size C := by omega
    exact fin g' ys s' D C o ac yl (F'.wid on' offL) ⟨T'.kp, T'.ext.trans X1 (Nat.le_refl _), on', T'.stays, T'.tok⟩ hDc hDd gD hT.1 n1 n2 ((PM.ins_ne _ _ n2).trans gC) n3 n4 (by walk_at "nat")
  · rcases List.mem_cons.mp hb with rfl | hb
    · exact gI
    · rcases List.mem_cons.mp hb with rfl | hb
      · exact gn0 _ (by walk_at "nat")
      · rcases List.mem_cons.mp hb with rfl | hb
        · exact gn0 _ (by walk_at "nat")
        · rw [List.mem_singleton.mp hb]; exact gn0 _ (by walk_at "nat")
def CTurnC (tm : Prop) (prog : Program) (w : World) (A : Around) (base : Heap) (L : Addr) (m : Str → Option Value) (env : Env) (elt : Expr) (x : Str) (ifs : List Expr) (scope : Scope) (cl : List (Str × Addr)) (g1 : PM) (s1 : Shared) (n : Nat) (P : Nat → Value → Prop) (Acc : PM → Nat → Nat → List Value → Prop) : Prop :=
  ∀ C cc i v g' (s : Shared) ys (N : Value → Shared → Prop), i < n → P i v → Acc g' s.toks i ys → Fx w base g' L s.heap m → Tn tm base g1 g' s1 s → s.heap.IsCell cc (some v) →
      wpAny (model prog w) A (forIn ifs true fun c r => if r = true then do let ok ← isTrue c (compEnvC scope ((x, cc) :: cl) C env) (eval c (compEnvC scope ((x, cc) :: cl) C env)); pure (ForInStep.yield ok) else pure (ForInStep.yield r)) (fun ok s3 =>
        if ok = true then wpAny (model prog w) A (eval elt (compEnvC scope ((x, cc) :: cl) C env)) (fun y s4 => ∃ g'', Tn tm base g' g'' s s4 ∧ Acc g'' s4.toks (i + 1) (ys ++ [y])) N s3 else ∃ g'', Tn tm base g' g'' s s3 ∧ Acc g'' s3.toks (i + 1) ys) N s

theorem lc_evalC {tm : Prop} {base : Heap} {L : Addr} {elt iter : Expr} {x : Str} {px : Pos} {ifs : List Expr} {scope : Scope} {cl : List (Str × Addr)} {pos : Pos} {Q : Value → Shared → Prop} (hh : A.handled = none)
    (hclos : closureFor scope env = pure cl) {n0 n2 : Str} (hsn : scope.names = [(n0, .local), (x, .cell), (n2, .globalImplicit)]) (hx0 : (x == n0) = false) (hkind : scope.kind = .function)
    (hnames : ∀ y ∈ scope.names, y.2 = .local → scope.names.lookup y.1 = some .local) 
    (h : wpAny (model prog w) A (eval iter env) (fun xv s1 => ∃ g1 n P Acc, Tn tm base g g1 s s1 ∧ Fx w base g1 L s1.heap m ∧ SrcIs g1 s1.heap xv n P ∧ n ≤ sizeLine ∧ L < s1.heap.objs.size ∧ base.objs.size ≤ s1.heap.objs.size ∧ (∀ g t t' i ys, t ≤ t' → Acc g t i ys → Acc g t' i ys) ∧ (∀ t, Acc g1 t 0 []) ∧
      CTurnC tm prog w A base L m env elt x ifs scope cl g1 s1 n P Acc ∧
      (∀ g' ys (s3 : Shared) D o, Acc g' s3.toks n ys → ys.length ≤ n → Fx w base (g'.ins D o) L s3.heap m → Tn tm base g (g'.ins D o) s s3 → g'.le (g'.ins D o) → LstAt (g'.ins D o) D ys → s.heap.objs.size ≤ D → Q (.ref D) s3)) E s)
    (hs : ∀ x, foldedSetIterable iter env x = pure x := by intro _; rfl) :
    wpAny (model prog w) A (eval (.ListComp elt [⟨.Name x px, iter, ifs, 0⟩] scope pos) env) Q E s := by
  rw [eval_ListComp]
  refine wpAny_comprehension_free (use := none) rfl hs hclos hkind hnames (wpAny_mono h (fun xv s₁ h₁ => ?_) fun _ _ e => e)
  obtain ⟨g1, n, P, Acc, T1, F1, S1, hsz, hL, hbase, mono, ac, turn, fin⟩ := h₁
  refine iter_src (tm := tm) hh s₁ F1 (Tn.refl F1.on F1.keep) S1 hL hbase fun I s2 fp St S F2 T2 st fr gI => ?_
  refine comp_cell s₁ Acc mono S hsz hsn hx0 hkind F2 T2 st fr gI hL hbase ac turn fun g' ys s3 D C o ac' yl F3 T3 hc hd gD hC hCL hCD gC szC baC szD => ?_
  obtain ⟨m', hn⟩ := hC
  have X1 : g'.le (g'.ins D o) := (Ext.ins (k := 0) (Nat.zero_le _) gD).le
  refine ⟨m', hn, fun h' sb => ?_⟩
  have k : ∀ b o, b ≠ C → s3.heap.get? b = some o → h'.get? b = some o := fun b o ne e => sb.extBut b o ne e
  exact fin g' ys _ D o ac' yl (F3.but k hCL gC baC) (T1.trans (T3.but (tk := s3.toks) k szC gC baC (by rw [sb.1]; exact T3.kp.size) (Nat.le_refl _))) X1 ⟨o, PM.ins_self _ _ _, hc, _, hd⟩ (Nat.le_trans T1.kp.size szD)

theorem lc_assignC {tm : Prop} {base : Heap} {elt iter : Expr} {x y : Str} {px py : Pos} {ifs : List Expr} {scope : Scope} {cl : List (Str × Addr)} {pos spos : Pos} {Q : Flow → Shared → Prop} (hh : A.handled = none)
    (hsw : swapsWith (.ListComp elt [⟨.Name x px, iter, ifs, 0⟩] scope pos) (some (.Name y py)) spos.line env = pure true)
    (hclos : closureFor scope env = pure cl) {n0 n2 : Str} (hsn : scope.names = [(n0, .local), (x, .cell), (n2, .globalImplicit)]) (hx0 : (x == n0) = false) (hkind : scope.kind = .function)
    (hnames : ∀ y ∈ scope.names, y.2 = .local → scope.names.lookup y.1 = some .local) 
    (hy : env.kindOf y = some .local) (hp : (env.scope.kind == .class || (env.scope.kind == .module && env.locals != env.globals)) = false)
    (h : wpAny (model prog w) A (eval iter env) (fun xv s1 => ∃ g1 n P Acc, Tn tm base g g1 s s1 ∧ Fx w base g1 env.locals s1.heap m ∧ SrcIs g1 s1.heap xv n P ∧ n ≤ sizeLine ∧ env.locals < s1.heap.objs.size ∧ base.objs.size ≤ s1.heap.objs.size ∧ (∀ g t t' i ys, t ≤ t' → Acc g t i ys → Acc g t' i ys) ∧ (∀ t, Acc g1 t 0 []) ∧
      CTurnC tm prog w A base env.locals m env elt x ifs scope cl g1 s1 n P Acc ∧
      (∀ g' ys (s3 : Shared) D o, Acc g' s3.toks n ys → ys.length ≤ n → Fx w base (g'.ins D o) env.locals s3.heap (fun z => if z = y then some (.ref D) else m z) → s.heap.objs.size ≤ s3.heap.objs.size → s3.os = s.os → (AllBare s.gens → AllBare s3.gens) → Ext s.heap.objs.size g (g'.ins D o) → (tm → s.toks ≤ s3.toks) → g'.le (g'.ins D o) → LstAt (g'.ins D o) D ys → Q .next s3)) E s)
    (hs : ∀ x, foldedSetIterable iter env x = pure x := by intro _; rfl) :
    wpAny (model prog w) A (exec (.Assign [.Name y py] (.ListComp elt [⟨.Name x px, iter, ifs, 0⟩] scope pos) spos) env) Q E s := by
  rw [exec_Assign_Name_used _ _ _ _ hsw]
  refine wpAny_bind (wpAny_standAt (wpAny_bind ?_))
  show wpAny _ A (do let _ ← comprehension (.ListComp elt [⟨.Name x px, iter, ifs, 0⟩] scope pos) scope env _ (newList []) false (eval iter env) (some (assign (.Name y py) env))) _ _ s
  refine wpAny_bind (wpAny_mono (wpAny_comprehension_free (use := some (assign (.Name y py) env)) (Q := fun _ s' => Q .next s') rfl hs hclos hkind hnames (wpAny_mono h (fun xv s₁ h₁ => ?_) fun _ _ e => e)) (fun _ s' hq => wpAny_pure (wpAny_pure hq)) fun _ _ e => e)
  obtain ⟨g1, n, P, Acc, T1, F1, S1, hsz, hL, hbase, mono, ac, turn, fin⟩ := h₁
  refine iter_src (tm := tm) hh s₁ F1 (Tn.refl F1.on F1.keep) S1 hL hbase fun I s2 fp St S F2 T2 st fr gI => ?_
  refine comp_cell s₁ Acc mono S hsz hsn hx0 hkind F2 T2 st fr gI hL hbase ac turn fun g' ys s3 D C o ac' yl F3 T3 hc hd gD hC hCL hCD gC szC baC szD => ?_
  obtain ⟨m', hn⟩ := hC
  have X1 : g'.le (g'.ins D o) := (Ext.ins (k := 0) (Nat.zero_le _) gD).le
  have T4 := T1.trans T3
  show wpAny _ A (assign (.Name y py) env (.ref D)) _ _ _
  refine wpAny_assign_Name (wpAny_storeName_local hy F3.ns (fun h₂ hn₂ hs₂ => ?_) hp)
  have F4 := F3.set hn₂ hs₂
  refine ⟨m', hn.sameBut hs₂ hCL, fun h'' hs'' => ?_⟩
  have k : ∀ b o, b ≠ C → h₂.get? b = some o → h''.get? b = some o := fun b o ne e => hs''.extBut b o ne e
  exact fin g' ys _ D o (mono _ _ _ _ _ (Nat.le_succ _) ac') yl (F4.but k hCL gC baC) (by show s.heap.objs.size ≤ h''.objs.size; rw [hs''.1, hs₂.1]; exact T4.kp.size) T4.kp.os T4.kp.bare T4.ext (fun h => Nat.le_succ_of_le (T4.tok h)) X1 ⟨o, PM.ins_self _ _ _, hc, _, hd⟩
end

end Mine
end
section
open PySem PySem.W PyProof.Rows PySem.Calls
open PySem.W.X (SegX wake_any)
set_option Elab.async false
set_option maxRecDepth 100000
set_option maxHeartbeats 8000000
namespace Mine
set_option pp.maxSteps 600
theorem fill37 : (fun (_ : OpenLaw) (_ : Params → Frag) => True) PySem.Challenge.rw_fe0181_02 hd2.heap_39 := by
  k_fill; trivial
local macro_rules | `(tactic| walk_at "eval Name") => `(tactic| first
  | (refine nm_loc (by assumption) (by first | with_reducible assumption | assumption | exact rfl) ?_)
  | (refine nm_glob (by assumption) (by k_is) ?_)
  | (refine nm_built (by assumption) (by k_is) (by boot_by_name) ?_))
local macro_rules | `(tactic| walk_at "callWith ref") => `(tactic| first
  | (refine callWith_K0 (Gd.K (Fx.gd (by assumption))) (by k_is) ?_)
  | (refine callWith_K (Gd.K (Fx.gd (by assumption))) (by k_is) ?_))
local macro_rules | `(tactic| walk_at "And") => `(tactic| ((with_reducible show Frag.In _ _ ∧ _); refine ⟨Gd.K (Fx.gd (by assumption)), ?_⟩; try dsimp only [List.nil_append, List.cons_append]))
local macro_rules | `(tactic| walk_at "room") => `(tactic| (simp only [Around.deeper, Around.in1, Around.mark]; omega))
local macro_rules | `(tactic| walk_at "go") => `(tactic| repeat' (first | (k_unfold; (try dsimp only)) | walk1 | (dsimp only; walk1)))
section
variable {prog : Program} {w : World} {A : Around} {E : Value → Shared → Prop} {s : Shared} {env : Env} {h₀ : Heap} {g : PM} {m : Str → Option Value}
local macro_rules | `(tactic| walk_at "eval Name") => `(tactic| first
  | (refine nm_loc (by assumption) (by first | with_reducible assumption | assumption | exact rfl) ?_)
  | (refine nm_loc (Gn.F (by assumption)) (by first | with_reducible assumption | assumption | exact rfl) ?_)
  | (refine nm_glob (Gn.F (by assumption)) (by k_is) ?_)
  | (refine nm_built (Gn.F (by assumption)) (by k_is) (by boot_by_name) ?_)
  | (refine nm_glob (by assumption) (by k_is) ?_)
  | (refine nm_built (by assumption) (by k_is) (by boot_by_name) ?_))
local macro_rules | `(tactic| walk_at "callWith ref") => `(tactic| first
  | (refine callWith_K0 (Gd.K (Fx.gd (by assumption))) (by k_is) ?_)
  | (refine callWith_K (Gd.K (Fx.gd (by assumption))) (by k_is) ?_)
  | (refine callWith_K0 (Gd.K (Gn.gd (by assumption))) (by k_is) ?_)
  | (refine callWith_K (Gd.K (Gn.gd (by assumption))) (by k_is) ?_))
local macro_rules | `(tactic| walk_at "And") => `(tactic| first
  | ((with_reducible show Frag.In _ _ ∧ _); refine ⟨Gd.K (Fx.gd (by assumption)), ?_⟩; try dsimp only [List.nil_append, List.cons_append])
  | ((with_reducible show Frag.In _ _ ∧ _); refine ⟨Gd.K (Gn.gd (by assumption)), ?_⟩; try dsimp only [List.nil_append, List.cons_append]))
local macro_rules | `(tactic| walk_at "room") => `(tactic| (simp only [over_u, over_d, overL_u, overL_d, overB_u, overB_d, Around.deeper, Around.in1, Around.mark]; omega))
local macro_rules | `(tactic| walk_at "nat") => `(tactic| first | omega | (show @Ne Nat _ _; omega) | (show @LE.le Nat _ _ _; omega) | (show @LT.lt Nat _ _ _; omega) | (show @Eq Nat _ _ → False; omega))

local macro_rules | `(tactic| walk_at "eval Name") => `(tactic| first
  | (refine nm_loc (by assumption) (by first | with_reducible assumption | assumption | exact rfl) ?_)
  | (refine nm_rdL (by assumption) ?_ rfl rfl)
  | (refine nm_cellC rfl (by assumption) ?_)
  | (refine nm_globG (Fx.gd (by assumption)) (by k_is) ?_ rfl rfl rfl)
  | (refine nm_builtG (Fx.gd (by assumption)) (by k_is) (by boot_by_name) ?_ rfl rfl rfl rfl))

theorem Fx.up {base : Heap} {L fa : Addr} {cd : Value} (F : Fx w base g L s.heap m) : Up w base g (callerA.deeper (lawE L fa cd)) [lawE L fa cd] s.heap :=
  ⟨Around.frames_deeper rfl, rfl, F.keep, Heap.FunFrames.cons (by intro q; cases q) rfl F.ns (by
    cases q : base.get? L with
    | none => rfl
    | some o => exact absurd (Heap.lt_size q) (Nat.not_lt.mpr F.above)) trivial, fun e he L' hL' => by
      rw [List.mem_singleton.mp he] at hL'
      cases hL'; exact F.off, F.gd₀, F.on, Nat.le_of_lt F.lt⟩
theorem Fx.hfl {base : Heap} {L fa : Addr} {cd : Value} (F : Fx w base g L s.heap m) : ∀ env ∈ [lawE L fa cd], ∀ L', env.frame = some L' → L' < s.heap.objs.size := fun e he L' hL' => by
  rw [List.mem_singleton.mp he] at hL'
  cases hL'; exact F.ns.lt
theorem lawA_U {env : Env} : (callerA.deeper env).units + 6000 < cLine := by simp only [Around.deeper, callerA]; decide
theorem lawA_D {env : Env} : (callerA.deeper env).depth + 300 < recursionLimit := by show 1 + claimMargin + 1 + 300 < recursionLimit; decide
def RepV (g : PM) : List Tm → List Value → Prop
  | [], [] => True
  | t :: ts, v :: vs => (Rep g t v ∧ t.plain = true) ∧ RepV g ts vs
  | _, _ => False
def RowAt (g : PM) (v : Value) (ts : List Tm) : Prop := ∃ D ys, v = .ref D ∧ LstAt g D ys ∧ RepV g ts ys
def RowsAt (g : PM) : List Value → List (List Tm) → Prop
  | [], [] => True
  | v :: vs, t :: ts => RowAt g v t ∧ RowsAt g vs ts
  | _, _ => False
theorem RepV.le {g g' : PM} (l : g.le g') : ∀ {ts : List Tm} {vs : List Value}, RepV g ts vs → RepV g' ts vs
  | [], [], _ => trivial
  | _ :: _, _ :: _, ⟨a, b⟩ => ⟨⟨a.1.le l, a.2⟩, RepV.le l b⟩
  | [], _ :: _, q => q.elim
  | _ :: _, [], q => q.elim
theorem RepV.snoc {g : PM} {t : Tm} {v : Value} (R : Rep g t v) (hp : t.plain = true) : ∀ {ts : List Tm} {vs : List Value}, RepV g ts vs → RepV g (ts ++ [t]) (vs ++ [v])
  | [], [], _ => ⟨⟨R, hp⟩, trivial⟩
  | _ :: _, _ :: _, ⟨a, b⟩ => ⟨a, RepV.snoc R hp b⟩
  | [], _ :: _, q => q.elim
  | _ :: _, [], q => q.elim
theorem RowAt.le {g g' : PM} {v : Value} {ts : List Tm} (R : RowAt g v ts) (l : g.le g') : RowAt g' v ts := let ⟨D, ys, e, L, r⟩ := R; ⟨D, ys, e, L.le l, r.le l⟩
theorem RowsAt.le {g g' : PM} (l : g.le g') : ∀ {vs : List Value} {ts : List (List Tm)}, RowsAt g vs ts → RowsAt g' vs ts
  | [], [], _ => trivial
  | _ :: _, _ :: _, ⟨a, b⟩ => ⟨a.le l, RowsAt.le l b⟩
  | [], _ :: _, q => q.elim
  | _ :: _, [], q => q.elim
theorem RowsAt.snoc {g : PM} {v : Value} {t : List Tm} (R : RowAt g v t) : ∀ {vs : List Value} {ts : List (List Tm)}, RowsAt g vs ts → RowsAt g (vs ++ [v]) (ts ++ [t])
  | [], [], _ => ⟨R, trivial⟩
  | _ :: _, _ :: _, ⟨a, b⟩ => ⟨a, RowsAt.snoc R b⟩
  | [], _ :: _, q => q.elim
  | _ :: _, [], q => q.elim
theorem SubsAt.at {g : PM} : ∀ {σs : List Sub} {vs : List Value} {i : Nat} {v : Value}, SubsAt g σs vs → vs[i]? = some v → ∃ σ, σs[i]? = some σ ∧ SubAt g v σ
  | _ :: _, _ :: _, 0, _, ⟨R, _⟩, e => by
    simp only [List.getElem?_cons_zero, Option.some.injEq] at e
    subst e
    exact ⟨_, rfl, R⟩
  | _ :: _, _ :: _, i + 1, _, ⟨_, r⟩, e => by
    obtain ⟨t', e1, e2⟩ := r.at (i := i) (by simpa using e)
    exact ⟨t', by simpa using e1, e2⟩
  | [], [], _, _, _, e => by simp at e
  | [], _ :: _, _, _, h, _ => h.elim
  | _ :: _, [], _, _, h, _ => h.elim

theorem range_fx {tm : Prop} {base : Heap} {L : Addr} {n : Int} {t : Tok} {Q : Value → Shared → Prop} (F : Fx w base g L s.heap m)
    (h : ∀ r h' tk a b c, IsRange h' r 0 n 1 a b c → Fx w base g L h' m → Tn tm base g g s { s with heap := h', toks := tk } → Q (.ref r) { s with heap := h', toks := tk }) : wpAny (model prog w) A (call (.type "range") [.int n t]) Q E s := by
  have kp : ∀ b o, s.heap.get? b = some o → (s.heap.push { cls := .type "range", data := .fields #[.int 0 s.toks, .int n t, .int 1 (s.toks + 1)] }).get? b = some o := fun b o e => Heap.get?_push_of_some _ e
  exact call_range_1 (h _ _ _ _ _ _ (IsRange.new ..) (F.ext kp) (Tn.grow ⟨kp, fun _ _ e => e, id, by rw [Heap.size_push]; exact Nat.le_succ _, rfl⟩ .refl (F.on.keeps kp) F.keep fun _ => by show s.toks ≤ s.toks + 2; omega))
theorem law_s5 {base : Heap} {L fa Dq Df : Addr} {cd : Value} {N : Nat} {qv fv : List Value} {qt ft : List Tm} {rs : List Sub} {rv : Sub → Int → Tm} {g0 : PM} {Q : Flow → Shared → Prop} (F0 : Fx w base g0 L s.heap m) (hq : m "questions" = some (.ref Dq)) (C1 : CellAt g0 (L + 1) (.ref Df)) (Lq : LstAt g0 Dq qv) (Lf : LstAt g0 Df fv)
    (hN : N + 2 ≤ 3000) (hqv : qv.length ≤ 100) (hfv : fv.length ≤ 100) (hqt : qt.length ≤ 3) (QO : QOK w g0 N ft fv qt qv) (hr : fnd N ft qt [] = some rs) (hrs : rs.length ≤ 1000) (hrv : ∀ σ ∈ rs, ∀ k : Int, 0 ≤ k → k < 3 → rei 10 σ (.var k) = some (rv σ k) ∧ (rv σ k).plain = true ∧ (σ = [] → rv σ k = .var k))
    (hrest : ∀ g' s' Dt tv, Fx w base g' L s'.heap (fun z => if z = "told" then some (.ref Dt) else m z) → g0.le g' → LstAt g' Dt tv → RowsAt g' tv (rs.map fun σ => [rv σ 0, rv σ 1, rv σ 2]) → s'.os = s.os → (AllBare s.gens → AllBare s'.gens) →
      wpAny (model prog w) (callerA.deeper (lawE L fa cd)) (execs (lawD.body.drop 5) (lawE L fa cd)) Q E s') :
    wpAny (model prog w) (callerA.deeper (lawE L fa cd)) (execs (lawD.body.drop 4) (lawE L fa cd)) Q E s := by
  have hh : (callerA.deeper (lawE L fa cd)).handled = none := rfl
  unfold lawD defOf
  dsimp only [List.drop]
  iterate 1 walk1
  refine lc_assignC (tm := False) (g := g0) (base := base) (m := m) (cl := []) hh rfl rfl rfl rfl rfl (by decide) rfl rfl ?_
  have ce := C1.is F0.on
  refine wpAny_hid ?_
  repeat walk1
  rw [eval_Dict_empty]
  refine wpAny_bind (wpAny_standAt ?_)
  unfold newDict
  refine wpAny_newObj_type ?_
  have F1 := F0.push { cls := .type "dict", data := .dict #[] }
  have X1 := Ext.ins (o := { cls := .type "dict", data := .dict #[] }) (Nat.le_refl s.heap.objs.size) F0.none_at
  have low : (s.heap.objs.size == sysModules) = false := by
    have h2 : 302 < s.heap.objs.size := Heap.lt_size (F0.gd.K 302 _ (by k_is))
    rw [beq_eq_false_iff_ne]
    intro e
    have : s.heap.objs.size = 1 := e
    omega
  have S1 : SubAt (g0.ins s.heap.objs.size { cls := .type "dict", data := .dict #[] }) (.ref s.heap.objs.size) [] := ⟨_, [], rfl, ⟨⟨_, PM.ins_self _ _ _⟩, fun _ h => (nomatch h), List.nodup_nil, low⟩, trivial⟩
  have k1 : ∀ b o, s.heap.get? b = some o → (s.heap.push { cls := .type "dict", data := .dict #[] }).get? b = some o := fun b o e => Heap.get?_push_of_some _ e
  have T1 : Tn False base g0 (g0.ins s.heap.objs.size { cls := .type "dict", data := .dict #[] }) s ⟨s.heap.push { cls := .type "dict", data := .dict #[] }, s.gens, s.drawn, s.toks, s.os⟩ := Tn.grow ⟨k1, fun _ _ e => e, id, by rw [Heap.size_push]; exact Nat.le_succ _, rfl⟩ X1 F1.on F0.keep fun z => z.elim
  clear ce
  revert F1 S1 T1 X1
  generalize g0.ins s.heap.objs.size { cls := .type "dict", data := .dict #[] } = g1
  generalize s.heap.objs.size = d1
  generalize s.heap.push { cls := .type "dict", data := .dict #[] } = h1
  intro F1 X1 S1 T1
  repeat walk1
  refine wpAny_call (found_call hN hfv qt hqv ?_ ?_ F1.up F1.hfl (Lq.le X1.le) (Lf.le X1.le) (QO.le X1.le) S1 hr hrs fun g2 s2 D2 ys2 L2 SS2 T2 => ?_)
  · have := lawA_U (env := lawE L fa cd); omega
  · have := lawA_D (env := lawE L fa cd); omega
  have F2 := F1.tn T2
  have T12 := T1.trans T2
  dsimp only
  refine Hid.intro ⟨g2, _, _, fun g t i ys => RowsAt g ys ((rs.map fun σ => [rv σ 0, rv σ 1, rv σ 2]).take i), T12, F2, SrcIs.list L2, ?_, F2.ns.lt, Nat.le_of_lt F2.lt, fun g t t' i ys h q => q, fun t => trivial, ?_, ?_⟩
  · rw [SS2.len, sizeLine_eq]; omega
  · intro C cc i v g' s' ys N hi hP hac F' T' hcc
    obtain ⟨σ, hσ, Sσ0⟩ := SS2.at hP
    have Sσ := Sσ0.le T'.ext.le
    have hσm : σ ∈ rs := List.mem_of_getElem? hσ
    refine wpAny_tests_nil ?_
    rw [if_pos rfl]
    refine wpAny_hid ?_
    refine lc_eval (tm := False) (g := g') (base := base) (L := L) (m := m) (cl := [("s", cc)]) hh rfl (by decide) rfl (by decide) rfl ?_
    refine wpAny_hid ?_
    repeat walk1
    refine range_fx (tm := False) F' (fun r hr tkr ra rb rc isr Fr' Tr => ?_)
    refine Hid.intro ⟨g', _, _, fun g t i ys => RepV g ([rv σ 0, rv σ 1, rv σ 2].take i) ys, Tn.trans (Tn.grow (s := s') (s' := ⟨s'.heap, s'.gens, s'.drawn, s'.toks + 1, s'.os⟩) ⟨fun _ _ e => e, fun _ _ e => e, id, Nat.le_refl _, rfl⟩ .refl F'.on F'.keep fun z => z.elim) Tr, Fr', SrcIs.range (n := 3) isr (by omega), (by rw [sizeLine_eq]; omega), Fr'.ns.lt, Nat.le_of_lt Fr'.lt, fun g t t' i ys h q => q, fun t => trivial, ?_, ?_⟩
    · intro C2 i2 v2 g3 s3 ys3 N3 hi3 hP3 hac3 F3 T3 rd3
      obtain ⟨t3, rfl⟩ := hP3
      have hc3 : s3.heap.IsCell cc (some v) := cell_slk hcc ((Tr.trans T3).kp.sl) hcc.lt
      obtain ⟨hrei, hpl, h0⟩ := hrv σ hσm (i2 : Int) (by omega) (by omega)
      refine wpAny_tests_nil ?_
      rw [if_pos rfl]
      refine wpAny_hid ?_
      repeat walk1
      refine wpAny_call (var_make lawA_u lawA_d F3.gd F3.on fun s4 g4 x Gr4 tk4 X4 on4 V4 => ?_)
      have T34 : Tn False base g3 g4 s3 s4 := Tn.grow ⟨Gr4.keep, Gr4.gens, Gr4.bare, Gr4.size, Gr4.os⟩ X4 on4 F3.keep fun z => z.elim
      have F4 := F3.tn T34
      have hc4 : s4.heap.IsCell cc (some v) := hc3.keeps Gr4.keep
      dsimp only
      clear F3
      repeat walk1
      refine wpAny_call (reify_call (n := 10) (r := rv σ i2) (t := .var i2) ?_ ?_ F4.up F4.hfl hrei h0 ?_ (Sσ.le (T3.ext.le.trans X4.le)) (by omega) fun g5 s5 ans R5 K5 X5 on5 st5 => ?_)
      · have := lawA_U (env := lawE L fa cd); omega
      · have := lawA_D (env := lawE L fa cd); omega
      · simp only [Rep]
        exact ⟨x, rfl, V4, by omega, by omega⟩
      have et : [rv σ 0, rv σ 1, rv σ 2].take (i2 + 1) = [rv σ 0, rv σ 1, rv σ 2].take i2 ++ [rv σ (i2 : Int)] := by
        rcases i2 with _ | _ | _ | i2
        · rfl
        · rfl
        · rfl
        · omega
      refine Hid.intro ⟨g5, T34.trans ⟨K5, X5, on5, st5, fun z => z.elim⟩, ?_⟩
      show RepV _ ([rv σ 0, rv σ 1, rv σ 2].take (i2 + 1)) _
      rw [et]
      exact RepV.snoc R5 hpl (hac3.le (X4.le.trans X5.le))
    · intro g3 ys3 s3 D3 o3 hac3 yl3 F3 T3 le3 L3 szD3
      have et : (rs.map fun σ => [rv σ 0, rv σ 1, rv σ 2]).take (i + 1) = (rs.map fun σ => [rv σ 0, rv σ 1, rv σ 2]).take i ++ [[rv σ 0, rv σ 1, rv σ 2]] := by
        rw [List.take_add_one, List.getElem?_map, hσ]; rfl
      refine Hid.intro ⟨_, T3, ?_⟩
      show RowsAt _ _ ((rs.map fun σ => [rv σ 0, rv σ 1, rv σ 2]).take (i + 1))
      rw [et]
      exact RowsAt.snoc ⟨D3, ys3, rfl, L3, RepV.le le3 hac3⟩ (RowsAt.le T3.ext.le hac)
  · intro g' ys s3 D o hac yl F3 sz eos bare ext _ le L3
    have et : (rs.map fun σ => [rv σ 0, rv σ 1, rv σ 2]).take ys2.length = rs.map fun σ => [rv σ 0, rv σ 1, rv σ 2] := List.take_of_length_le (by rw [List.length_map, SS2.len]; exact Nat.le_refl _)
    have hac' : RowsAt g' ys ((rs.map fun σ => [rv σ 0, rv σ 1, rv σ 2]).take ys2.length) := hac
    rw [et] at hac'
    exact hrest _ _ D ys F3 ext.le L3 (hac'.le le) eos bare
end

end Mine
end
section
open PySem PySem.W PyProof.Rows PySem.Calls
open PySem.W.X (SegX wake_any)
set_option Elab.async false
set_option maxRecDepth 100000
set_option maxHeartbeats 8000000
namespace Mine
set_option pp.maxSteps 600
theorem fill38 : (fun (_ : OpenLaw) (_ : Params → Frag) => True) PySem.Challenge.rw_fe0181_02 hd2.heap_39 := by
  k_fill; trivial
local macro_rules | `(tactic| walk_at "eval Name") => `(tactic| first
  | (refine nm_loc (by assumption) (by first | with_reducible assumption | assumption | exact rfl) ?_)
  | (refine nm_glob (by assumption) (by k_is) ?_)
  | (refine nm_built (by assumption) (by k_is) (by boot_by_name) ?_))
local macro_rules | `(tactic| walk_at "callWith ref") => `(tactic| first
  | (refine callWith_K0 (Gd.K (Fx.gd (by assumption))) (by k_is) ?_)
  | (refine callWith_K (Gd.K (Fx.gd (by assumption))) (by k_is) ?_))
local macro_rules | `(tactic| walk_at "And") => `(tactic| ((with_reducible show Frag.In _ _ ∧ _); refine ⟨Gd.K (Fx.gd (by assumption)), ?_⟩; try dsimp only [List.nil_append, List.cons_append]))
local macro_rules | `(tactic| walk_at "room") => `(tactic| (simp only [Around.deeper, Around.in1, Around.mark]; omega))
local macro_rules | `(tactic| walk_at "go") => `(tactic| repeat' (first | (k_unfold; (try dsimp only)) | walk1 | (dsimp only; walk1)))
section
variable {prog : Program} {w : World} {A : Around} {E : Value → Shared → Prop} {s : Shared} {env : Env} {h₀ : Heap} {g : PM} {m : Str → Option Value}
local macro_rules | `(tactic| walk_at "eval Name") => `(tactic| first
  | (refine nm_loc (by assumption) (by first | with_reducible assumption | assumption | exact rfl) ?_)
  | (refine nm_loc (Gn.F (by assumption)) (by first | with_reducible assumption | assumption | exact rfl) ?_)
  | (refine nm_glob (Gn.F (by assumption)) (by k_is) ?_)
  | (refine nm_built (Gn.F (by assumption)) (by k_is) (by boot_by_name) ?_)
  | (refine nm_glob (by assumption) (by k_is) ?_)
  | (refine nm_built (by assumption) (by k_is) (by boot_by_name) ?_))
local macro_rules | `(tactic| walk_at "callWith ref") => `(tactic| first
  | (refine callWith_K0 (Gd.K (Fx.gd (by assumption))) (by k_is) ?_)
  | (refine callWith_K (Gd.K (Fx.gd (by assumption))) (by k_is) ?_)
  | (refine callWith_K0 (Gd.K (Gn.gd (by assumption))) (by k_is) ?_)
  | (refine callWith_K (Gd.K (Gn.gd (by assumption))) (by k_is) ?_))
local macro_rules | `(tactic| walk_at "And") => `(tactic| first
  | ((with_reducible show Frag.In _ _ ∧ _); refine ⟨Gd.K (Fx.gd (by assumption)), ?_⟩; try dsimp only [List.nil_append, List.cons_append])
  | ((with_reducible show Frag.In _ _ ∧ _); refine ⟨Gd.K (Gn.gd (by assumption)), ?_⟩; try dsimp only [List.nil_append, List.cons_append]))
local macro_rules | `(tactic| walk_at "room") => `(tactic| (simp only [over_u, over_d, overL_u, overL_d, overB_u, overB_d, Around.deeper, Around.in1, Around.mark]; omega))
local macro_rules | `(tactic| walk_at "nat") => `(tactic| first | omega | (show @Ne Nat _ _; omega) | (show @LE.le Nat _ _ _; omega) | (show @LT.lt Nat _ _ _; omega) | (show @Eq Nat _ _ → False; omega))

def PM.del (g : PM) (b : Addr) : PM := fun a => if a = b then none else g a
theorem PM.del_self (g : PM) (b : Addr) : g.del b b = none := by simp [PM.del]
theorem PM.del_ne (g : PM) {a b : Addr} (h : a ≠ b) : g.del b a = g a := by simp [PM.del, h]
theorem Fx.del {L b : Addr} {h : Heap} (F : Fx w h₀ g L h m) : Fx w h₀ (g.del b) L h m :=
  F.wid (fun a o e => by
    by_cases q : a = b
    · rw [q, PM.del_self] at e; cases e
    · rw [PM.del_ne _ q] at e; exact F.on _ _ e) (by
    by_cases q : L = b
    · rw [q, PM.del_self]
    · rw [PM.del_ne _ q]; exact F.off)
theorem Tn.del {tm : Prop} {base : Heap} {g' : PM} {s' : Shared} {b : Addr} (T : Tn tm base g g' s s') (hb : g b = none) : Tn tm base g (g'.del b) s s' :=
  ⟨T.kp, ⟨fun a o e => by
      by_cases q : a = b
      · rw [q, hb] at e; cases e
      · rw [PM.del_ne _ q]; exact T.ext.le _ _ e, fun a o e => by
      by_cases q : a = b
      · rw [q, PM.del_self] at e; cases e
      · rw [PM.del_ne _ q] at e; exact T.ext.new _ _ e⟩, fun a o e => by
    by_cases q : a = b
    · rw [q, PM.del_self] at e; cases e
    · rw [PM.del_ne _ q] at e; exact T.on _ _ e, T.stays, T.tok⟩
theorem Tn.ins {tm : Prop} {base : Heap} {g' : PM} {s' : Shared} {b : Addr} {o : Obj} (T : Tn tm base g g' s s') (hb : s.heap.objs.size ≤ b) (gb : g' b = none) (e : s'.heap.get? b = some o) : Tn tm base g (g'.ins b o) s s' :=
  ⟨T.kp, T.ext.trans (Ext.ins hb gb) (Nat.le_refl _), fun a x q => by
    unfold PM.ins at q
    by_cases z : a = b
    · rw [if_pos z] at q; cases q; rw [z]; exact e
    · rw [if_neg z] at q; exact T.on _ _ q, T.stays, T.tok⟩

/-- a list that is being filled -/
def DAt (h : Heap) (D : Addr) (ys : List Value) : Prop := ∃ o, h.get? D = some o ∧ o.cls = .type "list" ∧ o.data = .seq ys.toArray ys.length
theorem DAt.at {h h' : Heap} {D : Addr} {ys : List Value} (x : DAt h D ys) (k : ∀ o, h.get? D = some o → h'.get? D = some o) : DAt h' D ys := let ⟨o, e, r⟩ := x; ⟨o, k _ e, r⟩
theorem DAt.lt {h : Heap} {D : Addr} {ys : List Value} (x : DAt h D ys) : D < h.objs.size := let ⟨_, e, _⟩ := x; Heap.lt_size e

structure NS (w : World) (base : Heap) (L : Addr) (m : Str → Option Value) (g g' : PM) (s0 s : Shared) (D C : Addr) (ol : List (Str × Value)) (ys : List Value) : Prop where
  F : Fx w base g' L s.heap m
  T : Tn False base g g' s0 s
  dat : DAt s.heap D ys
  ns : ∃ m', s.heap.Ns C m' ∧ ∀ p ∈ ol, m' p.1 = some p.2
  gD : g' D = none
  gC : g' C = none

theorem nest_loop {base : Heap} {L D C I ax : Addr} {e elt : Expr} {gens : List Comprehension} {scope : Scope} {cl : List (Str × Addr)} {pos : Pos} {d : Nat} {x : Str} {px : Pos} {iter : Expr} {act : Sem Unit} {its : List Value} {R : Result → Shared → Prop} (s0 : Shared) (ol : List (Str × Value)) (Acc : Nat → PM → List Value → Prop)
    (he : e = .ListComp elt gens scope pos) (hh : A.handled = none)
    (mono : ∀ i g' g'' ys, g'.le g'' → Acc i g' ys → Acc i g'' ys) (del : ∀ i g' ys o, Acc i g' ys → g' I = some o → o.cls = .type "list_iterator" → Acc i (g'.del I) ys)
    (heq : compTurn e d (.ref I) (.ref D) (compEnvC scope cl C env) = (do
      standAt iter.pos
      match ← pyNext (.ref I) with
      | none => pure (.done .next)
      | some v =>
        letOwnedTupleGo (.Name x px) (.ref I) v
        assign (.Name x px) (compEnvC scope cl C env) v
        let mut ok := true
        for c in ([] : List Expr) do
          if ok then ok ← isTrue c (compEnvC scope cl C env) (eval c (compEnvC scope cl C env))
        if ok then act
        again (.compLoop e d (.ref I) (.ref D) (compEnvC scope cl C env))))
    (hk : scope.kind = .function) (hx : scope.names.lookup x = some .local) (hxo : ∀ p ∈ ol, p.1 ≠ x)
    (fI : s0.heap.objs.size ≤ I ∧ I ≠ L ∧ base.objs.size ≤ I) (fC : s0.heap.objs.size ≤ C ∧ C ≠ L ∧ base.objs.size ≤ C) (IC : I ≠ C) (ID : I ≠ D) (DC : D ≠ C) (axI : ax ≠ I) (axC : ax ≠ C) (gI0 : g I = none)
    (turn : ∀ i v g' (s : Shared) ys (N : Value → Shared → Prop), its[i]? = some v → Acc i g' ys → NS w base L m g g' s0 s D C ((x, v) :: ol) ys → (∃ o, g' I = some o) →
      wpAny (model prog w) A act (fun _ s4 => ∃ g'' ys', Acc (i + 1) g'' ys' ∧ g'.le g'' ∧ NS w base L m g g'' s0 s4 D C ol ys') N s)
    (done : ∀ g' (s : Shared) ys, Acc its.length g' ys → NS w base L m g g' s0 s D C ol ys → R (.ok .next) s)
    {g1 : PM} {ys1 : List Value} (st : s.heap.IsListIter I ax 0 ∧ s.heap.IsList ax its.toArray) (lax : LstAt g1 ax its) (a1 : Acc 0 g1 ys1) (n1 : NS w base L m g g1 s0 s D C ol ys1) (gI : g1 I = none) :
    codeAny (model prog w) A (.compLoop e d (.ref I) (.ref D) (compEnvC scope cl C env)) R s := by
  have Tg := Tgt.loc (prog := prog) (w := w) (A := A) (env := env) (cl := cl) (C := C) (px := px) hk hx
  refine loop_at he (act := act) (fun i s => ∃ g' ys, Acc i g' ys ∧ g1.le g' ∧ NS w base L m g g' s0 s D C ol ys ∧ g' I = none) heq (Src.listL hh I ax axI its) ?_ ?_ ?_ st ⟨g1, ys1, a1, .refl, n1, gI⟩
  · rintro i s h' tk ⟨g', ys, ac, le, ⟨F, T, hD, ⟨m', ns, hol⟩, gD, gC⟩, gI⟩ k tkle
    have hD' := hD.at (h' := h') fun o e => k _ _ (Ne.symm ID) e
    have szD : s0.heap.objs.size ≤ h'.objs.size := by
      have := (ns.at' fun o e => k C o (Ne.symm IC) e).lt
      exact Nat.le_of_lt (Nat.lt_of_le_of_lt fC.1 this)
    exact ⟨g', ys, ac, le, ⟨F.but k fI.2.1 gI fI.2.2, T.but k fI.1 gI fI.2.2 szD tkle, hD', ⟨m', ns.at' fun o e => k C o (Ne.symm IC) e, hol⟩, gD, gC⟩, gI⟩
  · rintro i v s N hi hP hst ⟨g', ys, ac, le, ⟨F, T, hD, ⟨m', ns, hol⟩, gD, gC⟩, gI⟩
    refine wpAny_assign_Name (wpAny_storeName_local (lookup_relabel_local hx) ns (fun h' hn' hs => ?_) (by simp [compEnvC, relabel, hk]))
    refine wpAny_tests_nil ?_
    rw [if_pos rfl]
    have k : ∀ b o, b ≠ C → s.heap.get? b = some o → h'.get? b = some o := fun b o ne e => hs.extBut b o ne e
    have sz' : s0.heap.objs.size ≤ h'.objs.size := by rw [hs.1]; exact T.kp.size
    obtain ⟨⟨oI, eI, cI, dI⟩, hl⟩ := hst
    have eI' := k _ _ IC eI
    have F1 := (F.but k fC.2.1 gC fC.2.2).freeze eI' fI.2.1
    have T1 := (T.but (tk := s.toks + 1) k fC.1 gC fC.2.2 sz' (Nat.le_succ _)).ins fI.1 gI eI'
    have leI : g'.le (g'.ins I oI) := (Ext.ins (k := 0) (Nat.zero_le _) gI).le
    refine wpAny_mono (turn i v (g'.ins I oI) _ ys N hP (mono _ _ _ _ leI ac) ⟨F1, T1, hD.at fun o e => k _ _ DC e, ⟨_, hn', fun p hp => ?_⟩, (PM.ins_ne _ _ (Ne.symm ID)).trans gD, (PM.ins_ne _ _ (Ne.symm IC)).trans gC⟩ ⟨oI, PM.ins_self _ _ _⟩) (fun _ s4 h4 => ?_) fun _ _ e => e
    · rcases List.mem_cons.mp hp with rfl | hp
      · exact if_pos rfl
      · exact (if_neg (hxo p hp)).trans (hol p hp)
    · obtain ⟨g'', ys', ac', le', n'⟩ := h4
      have eg : g'' I = some oI := le' _ _ (PM.ins_self _ _ _)
      refine ⟨⟨⟨oI, n'.F.on _ _ eg, cI, dI⟩, (lax.le (le.trans (leI.trans le'))).is n'.F.on⟩, g''.del I, ys', del _ _ _ _ ac' eg cI, fun a o e => ?_, ⟨n'.F.del, n'.T.del gI0, n'.dat, n'.ns, (PM.del_ne _ (Ne.symm ID)).trans n'.gD, (PM.del_ne _ (Ne.symm IC)).trans n'.gC⟩, PM.del_self _ _⟩
      have ne : a ≠ I := fun q => by rw [q] at e; rw [le _ _ e] at gI; cases gI
      rw [PM.del_ne _ ne]
      exact le' _ _ (leI _ _ (le _ _ e))
  · rintro s ⟨g', ys, ac, le, n', gI⟩
    exact done g' s ys ac n'

theorem start_nest {e : Expr} {gens : List Comprehension} {elt : Expr} {scope : Scope} {pos : Pos} {d : Nat} {target iter : Expr} {acc it : Value} {R : Result → Shared → Prop} (he : e = .ListComp elt gens scope pos) (hg : (clausesOf e)[d]? = some ⟨target, iter, [], 0⟩)
    (h0 : codeAny (model prog w) A (.compLoop e d it acc env) R s)
    (h : wpAny (model prog w) A (pyIter it) (fun it' s' => codeAny (model prog w) A (.compLoop e d it' acc env) R s') (notedBy (model prog w) A env fun x s' => R (.error x) s') s) :
    codeAny (model prog w) A (.compStart e d it acc env) R s := by
  subst he
  refine codeAny_of_tree ?_
  show wpAny _ _ ((compStart (.ListComp elt gens scope pos) d it acc env).onRaise (fun x => do noteFrame x env; standAt theWindowsPlace)) _ _ s
  refine wpAny_notedAt ?_
  unfold compStart
  rw [hg]
  show wpAny _ _ (ask >>= _) _ _ s
  refine wpAny_bind (wpAny_askSetting (wpAny_ite ?_))
  split
  · first
      | exact wpAny_bind (wpAny_pure (wpAny_pure (And.intro rfl h0)))
      | exact wpAny_pure (And.intro rfl h0)
  · first
      | exact wpAny_bind (wpAny_rule (wpAny_bind (wpAny_standAt (wpAny_bind (wpAny_mono h (fun it' s' h' => wpAny_pure (And.intro rfl h')) fun _ _ x => x)))))
      | (refine wpAny_bind (wpAny_rule ?_); show wpAny _ _ (standAt iter.pos >>= _) _ _ s; exact wpAny_bind (wpAny_standAt (wpAny_bind (wpAny_mono h (fun it' s' h' => wpAny_pure (And.intro rfl h')) fun _ _ x => x))))

/-- what _law_values gives -/
def ValAt (g : PM) (v : Value) (r : Option (List (Option Int))) : Prop := match r with
  | none => v = .none
  | some V => ∃ D vs, v = .ref D ∧ LstAt g D vs ∧ VRep V vs
def ValsAt (g : PM) : List Value → List (Option (List (Option Int))) → Prop
  | [], [] => True
  | v :: vs, r :: rs => ValAt g v r ∧ ValsAt g vs rs
  | _, _ => False
theorem ValAt.le {g g' : PM} {v : Value} {r : Option (List (Option Int))} (x : ValAt g v r) (l : g.le g') : ValAt g' v r := by
  cases r with
  | none => exact x
  | some V => obtain ⟨D, vs, e, L, q⟩ := x; exact ⟨D, vs, e, L.le l, q⟩
theorem ValAt.del {g : PM} {v : Value} {r : Option (List (Option Int))} {I : Addr} {o : Obj} (x : ValAt g v r) (e : g I = some o) (hc : o.cls = .type "list_iterator") : ValAt (g.del I) v r := by
  cases r with
  | none => exact x
  | some V =>
    obtain ⟨D, vs, q, ⟨o', e', c', r'⟩, z⟩ := x
    refine ⟨D, vs, q, ⟨o', ?_, c', r'⟩, z⟩
    rw [PM.del_ne _ (fun k => by rw [k, e] at e'; cases e'; rw [hc] at c'; simp at c')]
    exact e'
theorem ValsAt.le {g g' : PM} (l : g.le g') : ∀ {vs : List Value} {rs : List (Option (List (Option Int)))}, ValsAt g vs rs → ValsAt g' vs rs
  | [], [], _ => trivial
  | _ :: _, _ :: _, ⟨a, b⟩ => ⟨a.le l, ValsAt.le l b⟩
  | [], _ :: _, q => q.elim
  | _ :: _, [], q => q.elim
theorem ValsAt.del {g : PM} {I : Addr} {o : Obj} (e : g I = some o) (hc : o.cls = .type "list_iterator") : ∀ {vs : List Value} {rs : List (Option (List (Option Int)))}, ValsAt g vs rs → ValsAt (g.del I) vs rs
  | [], [], _ => trivial
  | _ :: _, _ :: _, ⟨a, b⟩ => ⟨a.del e hc, ValsAt.del e hc b⟩
  | [], _ :: _, q => q.elim
  | _ :: _, [], q => q.elim
theorem ValsAt.snoc {g : PM} {v : Value} {r : Option (List (Option Int))} (x : ValAt g v r) : ∀ {vs : List Value} {rs : List (Option (List (Option Int)))}, ValsAt g vs rs → ValsAt g (vs ++ [v]) (rs ++ [r])
  | [], [], _ => ⟨x, trivial⟩
  | _ :: _, _ :: _, ⟨a, b⟩ => ⟨a, ValsAt.snoc x b⟩
  | [], _ :: _, q => q.elim
  | _ :: _, [], q => q.elim
theorem ValsAt.len {g : PM} : ∀ {vs : List Value} {rs : List (Option (List (Option Int)))}, ValsAt g vs rs → vs.length = rs.length
  | [], [], _ => rfl
  | _ :: _, _ :: _, ⟨_, b⟩ => by simp [b.len]
  | [], _ :: _, q => q.elim
  | _ :: _, [], q => q.elim
end

end Mine
end
section
open PySem PySem.W PyProof.Rows PySem.Calls
open PySem.W.X (SegX wake_any)
set_option Elab.async false
set_option maxRecDepth 100000
set_option maxHeartbeats 8000000
namespace Mine
set_option pp.maxSteps 600
theorem fill39 : (fun (_ : OpenLaw) (_ : Params → Frag) => True) PySem.Challenge.rw_fe0181_02 hd2.heap_39 := by
  k_fill; trivial
local macro_rules | `(tactic| walk_at "no such word 0") => `(tactic| fail)
local macro_rules | `(tactic| walk_at "eval Name") => `(tactic| first
  | (refine nm_loc (by assumption) (by first | with_reducible assumption | assumption | exact rfl) ?_)
  | (refine nm_glob (by assumption) (by k_is) ?_)
  | (refine nm_built (by assumption) (by k_is) (by boot_by_name) ?_))
local macro_rules | `(tactic| walk_at "callWith ref") => `(tactic| first
  | (refine callWith_K0 (Gd.K (Fx.gd (by assumption))) (by k_is) ?_)
  | (refine callWith_K (Gd.K (Fx.gd (by assumption))) (by k_is) ?_))
local macro_rules | `(tactic| walk_at "And") => `(tactic| ((with_reducible show Frag.In _ _ ∧ _); refine ⟨Gd.K (Fx.gd (by assumption)), ?_⟩; try dsimp only [List.nil_append, List.cons_append]))
local macro_rules | `(tactic| walk_at "room") => `(tactic| (simp only [Around.deeper, Around.in1, Around.mark]; omega))
local macro_rules | `(tactic| walk_at "go") => `(tactic| repeat' (first | (k_unfold; (try dsimp only)) | walk1 | (dsimp only; walk1)))
section
variable {prog : Program} {w : World} {A : Around} {E : Value → Shared → Prop} {s : Shared} {env : Env} {h₀ : Heap} {g : PM} {m : Str → Option Value}
local macro_rules | `(tactic| walk_at "eval Name") => `(tactic| first
  | (refine nm_loc (by assumption) (by first | with_reducible assumption | assumption | exact rfl) ?_)
  | (refine nm_loc (Gn.F (by assumption)) (by first | with_reducible assumption | assumption | exact rfl) ?_)
  | (refine nm_glob (Gn.F (by assumption)) (by k_is) ?_)
  | (refine nm_built (Gn.F (by assumption)) (by k_is) (by boot_by_name) ?_)
  | (refine nm_glob (by assumption) (by k_is) ?_)
  | (refine nm_built (by assumption) (by k_is) (by boot_by_name) ?_))
local macro_rules | `(tactic| walk_at "callWith ref") => `(tactic| first
  | (refine callWith_K0 (Gd.K (Fx.gd (by assumption))) (by k_is) ?_)
  | (refine callWith_K (Gd.K (Fx.gd (by assumption))) (by k_is) ?_)
  | (refine callWith_K0 (Gd.K (Gn.gd (by assumption))) (by k_is) ?_)
  | (refine callWith_K (Gd.K (Gn.gd (by assumption))) (by k_is) ?_))
local macro_rules | `(tactic| walk_at "And") => `(tactic| first
  | ((with_reducible show Frag.In _ _ ∧ _); refine ⟨Gd.K (Fx.gd (by assumption)), ?_⟩; try dsimp only [List.nil_append, List.cons_append])
  | ((with_reducible show Frag.In _ _ ∧ _); refine ⟨Gd.K (Gn.gd (by assumption)), ?_⟩; try dsimp only [List.nil_append, List.cons_append]))
local macro_rules | `(tactic| walk_at "room") => `(tactic| (simp only [over_u, over_d, overL_u, overL_d, overB_u, overB_d, Around.deeper, Around.in1, Around.mark]; omega))
local macro_rules | `(tactic| walk_at "nat") => `(tactic| first | omega | (show @Ne Nat _ _; omega) | (show @LE.le Nat _ _ _; omega) | (show @LT.lt Nat _ _ _; omega) | (show @Eq Nat _ _ → False; omega))

theorem DAt.slk {h h' : Heap} {D : Addr} {ys : List Value} {n : Nat} (x : DAt h D ys) (k : Slk n (fun _ => False) h h') (hD : D < n) : DAt h' D ys := by
  obtain ⟨o, e, r⟩ := x
  obtain ⟨sl, e'⟩ := k D o hD id e
  exact ⟨_, e', r⟩
/-- behind a turn that leaves the list and the names alone -/
theorem NS.tn {base : Heap} {L D C : Addr} {g' g'' : PM} {s0 s' : Shared} {ol : List (Str × Value)} {ys : List Value} (n : NS w base L m g g' s0 s D C ol ys) (T : Tn False base g' g'' s s') : NS w base L m g g'' s0 s' D C ol ys := by
  obtain ⟨F, T0, hD, ⟨m', ns, hol⟩, gD, gC⟩ := n
  have off : ∀ b, b < s.heap.objs.size → g' b = none → g'' b = none := fun b hb e => by
    cases q : g'' b with
    | none => rfl
    | some o => exact (T.ext.new _ _ q).elim (fun z => by rw [e] at z; cases z) fun z => absurd hb (Nat.not_lt.mpr z)
  exact ⟨F.tn T, T0.trans T, hD.slk T.kp.sl hD.lt, ⟨m', T.kp.sl.ns ns ns.lt id, hol⟩, off _ hD.lt gD, off _ ns.lt gC⟩

/-- what a level does for each of its items: the next level -/
abbrev dnAct (e : Expr) (iter : Expr) (d : Nat) (D : Addr) (cenv : Env) : Sem Unit := do
  let x ← eval iter cenv
  standAt iter.pos
  let x ← foldedSetIterable iter cenv x
  let _ ← runOwn (.compStart e d (← holding [x] (pyIter x)) (.ref D) cenv) cenv
theorem flat_len {α : Type} {f : Nat → List α} {c : Nat} (h : ∀ i, (f i).length ≤ c) : ∀ n, ((List.range n).flatMap f).length ≤ n * c
  | 0 => by simp
  | n + 1 => by
    rw [List.range_succ, List.flatMap_append, List.length_append]
    have := flat_len h n
    have := h n
    simp only [List.flatMap_cons, List.flatMap_nil, List.append_nil]
    rw [Nat.add_mul]; omega
/-- one more level of a comprehension -/
theorem down {base : Heap} {L D C ax : Addr} {e elt : Expr} {gens : List Comprehension} {scope : Scope} {cl : List (Str × Addr)} {pos : Pos} {d : Nat} {x : Str} {px : Pos} {iter : Expr} {act : Sem Unit} {its : List Value} (s0 : Shared) (ol : List (Str × Value)) (Acc : Nat → PM → List Value → Prop) {Q : Unit → Shared → Prop}
    (he : e = .ListComp elt gens scope pos) (hg : (clausesOf e)[d]? = some ⟨.Name x px, iter, [], 0⟩) (hh : A.handled = none)
    (mono : ∀ i g' g'' ys, g'.le g'' → Acc i g' ys → Acc i g'' ys) (del : ∀ i g' ys o I, Acc i g' ys → g' I = some o → o.cls = .type "list_iterator" → Acc i (g'.del I) ys)
    (heq : ∀ I, compTurn e d (.ref I) (.ref D) (compEnvC scope cl C env) = (do
      standAt iter.pos
      match ← pyNext (.ref I) with
      | none => pure (.done .next)
      | some v =>
        letOwnedTupleGo (.Name x px) (.ref I) v
        assign (.Name x px) (compEnvC scope cl C env) v
        let mut ok := true
        for c in ([] : List Expr) do
          if ok then ok ← isTrue c (compEnvC scope cl C env) (eval c (compEnvC scope cl C env))
        if ok then act
        again (.compLoop e d (.ref I) (.ref D) (compEnvC scope cl C env))))
    (hk : scope.kind = .function) (hx : scope.names.lookup x = some .local) (hxo : ∀ p ∈ ol, p.1 ≠ x) (hfs : ∀ v, foldedSetIterable iter (compEnvC scope cl C env) v = pure v)
    (fC : s0.heap.objs.size ≤ C ∧ C ≠ L ∧ base.objs.size ≤ C) (DC : D ≠ C) (hL : L < s0.heap.objs.size) (hbase : base.objs.size ≤ s0.heap.objs.size) (gs0 : ∀ b, s0.heap.objs.size ≤ b → g b = none)
    (ev : ∀ (s : Shared) g' (E : Value → Shared → Prop) (Q : Value → Shared → Prop), Fx w base g' L s.heap m → g.le g' → Q (.ref ax) s → wpAny (model prog w) A (eval iter (compEnvC scope cl C env)) Q E s) (lax : LstAt g ax its)
    (turn : ∀ i v g' (s : Shared) ys (N : Value → Shared → Prop), its[i]? = some v → Acc i g' ys → NS w base L m g g' s0 s D C ((x, v) :: ol) ys →
      wpAny (model prog w) A act (fun _ s4 => ∃ g'' ys', Acc (i + 1) g'' ys' ∧ g'.le g'' ∧ NS w base L m g g'' s0 s4 D C ol ys') N s)
    {g1 : PM} {ys1 : List Value} (a1 : Acc 0 g1 ys1) (n1 : NS w base L m g g1 s0 s D C ol ys1)
    (fin : ∀ g' (s' : Shared) ys, Acc its.length g' ys → g1.le g' → NS w base L m g g' s0 s' D C ol ys → Q () s') :
    wpAny (model prog w) A (dnAct e iter d D (compEnvC scope cl C env)) Q E s := by
  refine wpAny_bind (ev s g1 _ _ n1.F n1.T.ext.le ?_)
  refine wpAny_bind (wpAny_standAt (wpAny_bind (wpAny_of_eq (hfs _) (wpAny_bind (wpAny_holding ?_)))))
  have lax1 := lax.le n1.T.ext.le
  have sz := n1.T.kp.size
  refine iter_list (tm := False) s n1.F (Tn.refl n1.F.on n1.F.keep) lax1 (Nat.lt_of_lt_of_le hL sz) (Nat.le_trans hbase sz) (fun I s2 F2 T2 st ne fr gI => ?_)
  have n2 := n1.tn T2
  refine wpAny_bind (wpAny_runOwn ?_)
  rw [Around.mark_none]
  obtain ⟨m', ns, _⟩ := n2.ns
  have loop := nest_loop (prog := prog) (w := w) (A := A) (env := env) (g := g) (m := m) (s := s2) (I := I) (ax := ax) (its := its) (R := fun r s' => match r with | .ok f => wpAny (model prog w) A (pure ()) Q E s' | .error e => cameBackBy (model prog w) A (compEnvC scope cl C env) E e s') s0 ol (fun i g' ys => Acc i g' ys ∧ ∀ b, b ≠ I → ∀ o, g1 b = some o → g' b = some o) he hh
    (fun i g' g'' ys l q => ⟨mono _ _ _ _ l q.1, fun b hb o e => l _ _ (q.2 b hb o e)⟩) (fun i g' ys o q e c => ⟨del _ _ _ _ _ q.1 e c, fun b hb o e => (PM.del_ne _ hb).trans (q.2 b hb o e)⟩) (heq I) hk hx hxo ⟨Nat.le_trans sz fr.1, fr.2.1, fr.2.2⟩ fC
    (fun e => by have := n1.ns; obtain ⟨_, q, _⟩ := this; exact absurd q.lt (Nat.not_lt.mpr (e ▸ fr.1))) (fun e => absurd n1.dat.lt (Nat.not_lt.mpr (e ▸ fr.1))) DC ne (fun e => by
      obtain ⟨o, z, _⟩ := lax1
      rw [e, n1.gC] at z; cases z) (gs0 _ (Nat.le_trans sz fr.1))
    (fun i v g' s ys N hv ac n _ => wpAny_mono (turn i v g' s ys N hv ac.1 n) (fun _ s4 h4 => by
      obtain ⟨g'', ys', a', l', n'⟩ := h4
      exact ⟨g'', ys', ⟨a', fun b hb o e => l' _ _ (ac.2 b hb o e)⟩, l', n'⟩) fun _ _ e => e)
    (fun g' s' ys ac n => wpAny_pure (fin g' s' ys ac.1 (fun b o e => ac.2 b (fun z => by rw [z, gI] at e; cases e) o e) n))
    st lax1 ⟨a1, fun b _ o e => e⟩ n2 gI
  exact start_nest he hg loop (wpAny_pyIter_listiter st.1 loop)
end

end Mine
end
section
open PySem PySem.W PyProof.Rows PySem.Calls
open PySem.W.X (SegX wake_any)
set_option Elab.async false
set_option maxRecDepth 100000
set_option maxHeartbeats 8000000
namespace Mine
set_option pp.maxSteps 600
theorem fill40 : (fun (_ : OpenLaw) (_ : Params → Frag) => True) PySem.Challenge.rw_fe0181_02 hd2.heap_39 := by
  k_fill; trivial
local macro_rules | `(tactic| walk_at "eval Name") => `(tactic| first
  | (refine nm_loc (by assumption) (by first | with_reducible assumption | assumption | exact rfl) ?_)
  | (refine nm_glob (by assumption) (by k_is) ?_)
  | (refine nm_built (by assumption) (by k_is) (by boot_by_name) ?_))
local macro_rules | `(tactic| walk_at "callWith ref") => `(tactic| first
  | (refine callWith_K0 (Gd.K (Fx.gd (by assumption))) (by k_is) ?_)
  | (refine callWith_K (Gd.K (Fx.gd (by assumption))) (by k_is) ?_))
local macro_rules | `(tactic| walk_at "And") => `(tactic| ((with_reducible show Frag.In _ _ ∧ _); refine ⟨Gd.K (Fx.gd (by assumption)), ?_⟩; try dsimp only [List.nil_append, List.cons_append]))
local macro_rules | `(tactic| walk_at "room") => `(tactic| (simp only [Around.deeper, Around.in1, Around.mark]; omega))
local macro_rules | `(tactic| walk_at "go") => `(tactic| repeat' (first | (k_unfold; (try dsimp only)) | walk1 | (dsimp only; walk1)))
section
variable {prog : Program} {w : World} {A : Around} {E : Value → Shared → Prop} {s : Shared} {env : Env} {h₀ : Heap} {g : PM} {m : Str → Option Value}
local macro_rules | `(tactic| walk_at "eval Name") => `(tactic| first
  | (refine nm_loc (by assumption) (by first | with_reducible assumption | assumption | exact rfl) ?_)
  | (refine nm_loc (Gn.F (by assumption)) (by first | with_reducible assumption | assumption | exact rfl) ?_)
  | (refine nm_glob (Gn.F (by assumption)) (by k_is) ?_)
  | (refine nm_built (Gn.F (by assumption)) (by k_is) (by boot_by_name) ?_)
  | (refine nm_glob (by assumption) (by k_is) ?_)
  | (refine nm_built (by assumption) (by k_is) (by boot_by_name) ?_))
local macro_rules | `(tactic| walk_at "callWith ref") => `(tactic| first
  | (refine callWith_K0 (Gd.K (Fx.gd (by assumption))) (by k_is) ?_)
  | (refine callWith_K (Gd.K (Fx.gd (by assumption))) (by k_is) ?_)
  | (refine callWith_K0 (Gd.K (Gn.gd (by assumption))) (by k_is) ?_)
  | (refine callWith_K (Gd.K (Gn.gd (by assumption))) (by k_is) ?_))
local macro_rules | `(tactic| walk_at "And") => `(tactic| first
  | ((with_reducible show Frag.In _ _ ∧ _); refine ⟨Gd.K (Fx.gd (by assumption)), ?_⟩; try dsimp only [List.nil_append, List.cons_append])
  | ((with_reducible show Frag.In _ _ ∧ _); refine ⟨Gd.K (Gn.gd (by assumption)), ?_⟩; try dsimp only [List.nil_append, List.cons_append]))
local macro_rules | `(tactic| walk_at "room") => `(tactic| (simp only [over_u, over_d, overL_u, overL_d, overB_u, overB_d, Around.deeper, Around.in1, Around.mark]; omega))
local macro_rules | `(tactic| walk_at "nat") => `(tactic| first | omega | (show @Ne Nat _ _; omega) | (show @LE.le Nat _ _ _; omega) | (show @LT.lt Nat _ _ _; omega) | (show @Eq Nat _ _ → False; omega))

abbrev c3 (elt : Expr) (x0 x1 x2 : Str) (p0 p1 p2 : Pos) (it0 it1 it2 : Expr) (scope : Scope) (pos : Pos) : Expr := .ListComp elt [⟨.Name x0 p0, it0, [], 0⟩, ⟨.Name x1 p1, it1, [], 0⟩, ⟨.Name x2 p2, it2, [], 0⟩] scope pos
theorem c3_turn0 {elt it0 it1 it2 : Expr} {x0 x1 x2 : Str} {p0 p1 p2 : Pos} {scope : Scope} {pos : Pos} {it : Value} {D : Addr} {cenv : Env} :
    compTurn (c3 elt x0 x1 x2 p0 p1 p2 it0 it1 it2 scope pos) 0 it (.ref D) cenv = (do
      standAt it0.pos
      match ← pyNext it with
      | none => pure (.done .next)
      | some v =>
        letOwnedTupleGo (.Name x0 p0) it v
        assign (.Name x0 p0) cenv v
        let mut ok := true
        for c in ([] : List Expr) do
          if ok then ok ← isTrue c cenv (eval c cenv)
        if ok then dnAct (c3 elt x0 x1 x2 p0 p1 p2 it0 it1 it2 scope pos) it1 1 D cenv
        again (.compLoop (c3 elt x0 x1 x2 p0 p1 p2 it0 it1 it2 scope pos) 0 it (.ref D) cenv)) := by
  simp only [dnAct, bind_assoc, pure_bind]
  rfl
theorem c3_turn1 {elt it0 it1 it2 : Expr} {x0 x1 x2 : Str} {p0 p1 p2 : Pos} {scope : Scope} {pos : Pos} {it : Value} {D : Addr} {cenv : Env} :
    compTurn (c3 elt x0 x1 x2 p0 p1 p2 it0 it1 it2 scope pos) 1 it (.ref D) cenv = (do
      standAt it1.pos
      match ← pyNext it with
      | none => pure (.done .next)
      | some v =>
        letOwnedTupleGo (.Name x1 p1) it v
        assign (.Name x1 p1) cenv v
        let mut ok := true
        for c in ([] : List Expr) do
          if ok then ok ← isTrue c cenv (eval c cenv)
        if ok then dnAct (c3 elt x0 x1 x2 p0 p1 p2 it0 it1 it2 scope pos) it2 2 D cenv
        again (.compLoop (c3 elt x0 x1 x2 p0 p1 p2 it0 it1 it2 scope pos) 1 it (.ref D) cenv)) := by
  simp only [dnAct, bind_assoc, pure_bind]
  rfl
theorem comp3_assign {base : Heap} {elt it0 it1 it2 : Expr} {x0 x1 x2 y : Str} {p0 p1 p2 py : Pos} {scope : Scope} {cl : List (Str × Addr)} {pos spos : Pos} {ax : Addr} {its : List Value} {val : Nat → Nat → Nat → Option (List (Option Int))} {Q : Flow → Shared → Prop} (hh : A.handled = none)
    (hsw : swapsWith (c3 elt x0 x1 x2 p0 p1 p2 it0 it1 it2 scope pos) (some (.Name y py)) spos.line env = pure true)
    (hclos : closureFor scope env = pure cl) (hcell : ∀ y ∈ scope.names, y.2 ≠ .cell) (hkind : scope.kind = .function)
    (hnames : ∀ y ∈ scope.names, y.2 = .local → scope.names.lookup y.1 = some .local) (hx0 : scope.names.lookup x0 = some .local) (hx1 : scope.names.lookup x1 = some .local) (hx2 : scope.names.lookup x2 = some .local) (n01 : x0 ≠ x1) (n02 : x0 ≠ x2) (n12 : x1 ≠ x2)
    (hy : env.kindOf y = some .local) (hp : (env.scope.kind == .class || (env.scope.kind == .module && env.locals != env.globals)) = false)
    (hfs0 : ∀ v, foldedSetIterable it0 env v = pure v) (hfs1 : ∀ C v, foldedSetIterable it1 (compEnvC scope cl C env) v = pure v) (hfs2 : ∀ C v, foldedSetIterable it2 (compEnvC scope cl C env) v = pure v)
    (F : Fx w base g env.locals s.heap m) (lax : LstAt g ax its) (hsz : its.length ≤ 10)
    (ev0 : ∀ (E : Value → Shared → Prop) (Q : Value → Shared → Prop), Q (.ref ax) s → wpAny (model prog w) A (eval it0 env) Q E s)
    (ev1 : ∀ C (s : Shared) g' (E : Value → Shared → Prop) (Q : Value → Shared → Prop), Fx w base g' env.locals s.heap m → g.le g' → Q (.ref ax) s → wpAny (model prog w) A (eval it1 (compEnvC scope cl C env)) Q E s)
    (ev2 : ∀ C (s : Shared) g' (E : Value → Shared → Prop) (Q : Value → Shared → Prop), Fx w base g' env.locals s.heap m → g.le g' → Q (.ref ax) s → wpAny (model prog w) A (eval it2 (compEnvC scope cl C env)) Q E s)
    (elt_ok : ∀ C i j k a b c g' (s : Shared) (N : Value → Shared → Prop), its[i]? = some a → its[j]? = some b → its[k]? = some c → Fx w base g' env.locals s.heap m → g.le g' → (∃ m', s.heap.Ns C m' ∧ m' x0 = some a ∧ m' x1 = some b ∧ m' x2 = some c) →
      wpAny (model prog w) A (eval elt (compEnvC scope cl C env)) (fun y s4 => ∃ g'', Tn False base g' g'' s s4 ∧ ValAt g'' y (val i j k)) N s)
    (fin : ∀ g' ys (s3 : Shared) D, ValsAt g' ys ((List.range its.length).flatMap fun i => (List.range its.length).flatMap fun j => (List.range its.length).map fun k => val i j k) → Fx w base g' env.locals s3.heap (fun z => if z = y then some (.ref D) else m z) → s3.os = s.os → (AllBare s.gens → AllBare s3.gens) → g.le g' → LstAt g' D ys → Q .next s3) :
    wpAny (model prog w) A (exec (.Assign [.Name y py] (c3 elt x0 x1 x2 p0 p1 p2 it0 it1 it2 scope pos) spos) env) Q E s := by
  rw [exec_Assign_Name_used _ _ _ _ hsw]
  refine wpAny_bind (wpAny_standAt (wpAny_bind ?_))
  show wpAny _ A (do let _ ← comprehension (c3 elt x0 x1 x2 p0 p1 p2 it0 it1 it2 scope pos) scope env _ (newList []) false (eval it0 env) (some (assign (.Name y py) env))) _ _ s
  refine wpAny_bind (wpAny_mono (wpAny_comprehension_free (use := some (assign (.Name y py) env)) (Q := fun _ s' => Q .next s') rfl hfs0 hclos hkind hnames (ev0 _ _ ?_)) (fun _ s' hq => wpAny_pure (wpAny_pure hq)) fun _ _ e => e)
  have hL : @LT.lt Nat _ env.locals s.heap.objs.size := F.ns.lt
  have hbase : @LE.le Nat _ base.objs.size s.heap.objs.size := Nat.le_of_lt F.lt
  have gs0 : ∀ b, s.heap.objs.size ≤ b → g b = none := fun b hb => by
    cases q : g b with
    | none => rfl
    | some o => exact absurd (Heap.lt_size (F.on _ _ q)) (Nat.not_lt.mpr hb)
  refine iter_list (tm := False) s F (Tn.refl F.on F.keep) lax hL hbase (fun I s2 F2 T2 st ne fr gI => ?_)
  refine wpAny_newObj_type (wpAny_newFunctionEnv hcell (by intro y hy; simp at hy) (fun h₁ hns₁ hsb₁ => ?_) hkind)
  dsimp only at hns₁ hsb₁ ⊢
  obtain ⟨D, hD⟩ : ∃ D : Addr, D = s2.heap.objs.size := ⟨_, rfl⟩
  generalize hH2 : s2.heap.push { cls := .type "list", dict := none, data := .seq ([] : List Value).toArray } = H2 at hns₁ hsb₁ ⊢
  obtain ⟨C, hC0⟩ : ∃ C : Addr, C = H2.objs.size := ⟨_, rfl⟩
  have hC : @Eq Nat C (s2.heap.objs.size + 1) := by rw [hC0, ← hH2, Heap.size_push]
  have hD' : @Eq Nat D s2.heap.objs.size := hD
  have sz2 : @LE.le Nat _ s.heap.objs.size s2.heap.objs.size := T2.kp.size
  rw [← hC0] at hns₁ hsb₁
  have old : ∀ b o, s2.heap.get? b = some o → h₁.get? b = some o := fun b o e => hsb₁.extBut b o (by have := Heap.lt_size e; exact fun q => absurd this (Nat.not_lt.mpr (by rw [q]; walk_at "nat"))) (Heap.get?_push_of_some _ (hH2 ▸ Heap.get?_push_of_some _ e))
  have hdat : DAt h₁ D [] := ⟨{ cls := .type "list", dict := none, data := .seq ([] : List Value).toArray }, hsb₁.extBut _ _ (by walk_at "nat") (Heap.get?_push_of_some _ (by rw [hD, ← hH2]; exact Heap.get?_push_size _ rfl)), rfl, rfl⟩
  have size1 : s2.heap.objs.size ≤ h₁.objs.size := by
    have : @LT.lt Nat _ D h₁.objs.size := hdat.lt
    omega
  have gn : ∀ b, s.heap.objs.size ≤ b → g b = none := gs0
  have T3 : Tn False base g g s ⟨h₁, s2.gens, s2.drawn, s2.toks + ([] : List (Str × Value)).length, s2.os⟩ := T2.trans (Tn.grow ⟨old, fun _ _ e => e, id, size1, rfl⟩ .refl (F2.on.keeps old) F2.keep fun z => z.elim)
  have n0 : NS w base env.locals m g g s ⟨h₁, s2.gens, s2.drawn, s2.toks + ([] : List (Str × Value)).length, s2.os⟩ D C [] [] := ⟨F2.ext old, T3, hdat, ⟨_, hns₁, fun p hp => nomatch hp⟩, gn _ (by walk_at "nat"), gn _ (by walk_at "nat")⟩
  have fC : s.heap.objs.size ≤ C ∧ C ≠ env.locals ∧ base.objs.size ≤ C := ⟨by walk_at "nat", by walk_at "nat", by walk_at "nat"⟩
  have DC : D ≠ C := by walk_at "nat"
  have Il : @LT.lt Nat _ I s2.heap.objs.size := by obtain ⟨⟨o, e, _⟩, _⟩ := st; exact Heap.lt_size e
  have axl : @LT.lt Nat _ ax s.heap.objs.size := by obtain ⟨o, e, _⟩ := lax; exact Heap.lt_size (F.on _ _ e)
  let f1 : Nat → Nat → List (Option (List (Option Int))) := fun i j => (List.range its.length).map fun k => val i j k
  let f0 : Nat → List (Option (List (Option Int))) := fun i => (List.range its.length).flatMap fun j => f1 i j
  have rs : ∀ (f : Nat → List (Option (List (Option Int)))) n, (List.range (n + 1)).flatMap f = (List.range n).flatMap f ++ f n := fun f n => by rw [List.range_succ, List.flatMap_append]; simp
  have loop : ∀ RR : Result → Shared → Prop, (∀ g' (s' : Shared) ys, ValsAt g' ys ((List.range its.length).flatMap f0) → NS w base env.locals m g g' s s' D C [] ys → RR (.ok .next) s') →
      codeAny (model prog w) A (.compLoop (c3 elt x0 x1 x2 p0 p1 p2 it0 it1 it2 scope pos) 0 (.ref I) (.ref D) (compEnvC scope cl C env)) RR ⟨h₁, s2.gens, s2.drawn, s2.toks + ([] : List (Str × Value)).length, s2.os⟩ := by
    intro RR hR
    refine nest_loop (act := dnAct (c3 elt x0 x1 x2 p0 p1 p2 it0 it1 it2 scope pos) it1 1 D (compEnvC scope cl C env)) (ys1 := []) (g := g) (m := m) (x := x0) (px := p0) (iter := it0) (ax := ax) (its := its) s [] (fun i g' ys => ValsAt g' ys ((List.range i).flatMap f0)) rfl hh (fun _ _ _ _ l q => q.le l) (fun _ _ _ _ q e c => q.del e c) c3_turn0 hkind hx0 (fun p hp => nomatch hp) fr fC (by walk_at "nat") (by walk_at "nat") DC ne (by walk_at "nat") gI ?_ (fun g' s' ys ac n => hR g' s' ys ac n) ⟨let ⟨o, e, r⟩ := st.1; ⟨o, old _ _ e, r⟩, let ⟨o, e, r⟩ := st.2; ⟨o, old _ _ e, r⟩⟩ lax (show ValsAt g [] ((List.range 0).flatMap f0) from trivial) n0 gI
    intro i a g1 s1 ys1 N1 ha ac1 n1 _
    refine down (act := dnAct (c3 elt x0 x1 x2 p0 p1 p2 it0 it1 it2 scope pos) it2 2 D (compEnvC scope cl C env)) (g := g) (m := m) (x := x1) (px := p1) (its := its) s [(x0, a)] (fun j g' ys => ValsAt g' ys ((List.range i).flatMap f0 ++ (List.range j).flatMap (f1 i))) rfl rfl hh (fun _ _ _ _ l q => q.le l) (fun _ _ _ _ _ q e c => q.del e c) (fun I => c3_turn1) hkind hx1 (fun p hp => by rw [List.mem_singleton.mp hp]; exact n01) (hfs1 C) fC DC hL hbase gs0 (ev1 C) lax ?_ (by simpa using ac1) n1 ?_
    · intro j b g2 s2' ys2 N2 hb ac2 n2
      refine down (act := do let _ ← call (.builtin "list.append") [.ref D, ← eval elt (compEnvC scope cl C env)]) (g := g) (m := m) (x := x2) (px := p2) (its := its) s [(x1, b), (x0, a)] (fun k g' ys => ValsAt g' ys ((List.range i).flatMap f0 ++ (List.range j).flatMap (f1 i) ++ (List.range k).map (val i j))) rfl rfl hh (fun _ _ _ _ l q => q.le l) (fun _ _ _ _ _ q e c => q.del e c) (fun I => rfl) hkind hx2 (fun p hp => by
        rcases List.mem_cons.mp hp with rfl | hp
        · exact n12
        · rw [List.mem_singleton.mp hp]; exact n02) (hfs2 C) fC DC hL hbase gs0 (ev2 C) lax ?_ (by simpa using ac2) n2 ?_
      · intro k c g3 s3 ys3 N3 hc ac3 n3
        obtain ⟨m3, ns3, hol3⟩ := n3.ns
        refine wpAny_bind (wpAny_mono (elt_ok C i j k a b c g3 s3 N3 ha hb hc n3.F n3.T.ext.le ⟨m3, ns3, hol3 (x0, a) (by simp), hol3 (x1, b) (by simp), hol3 (x2, c) (by simp)⟩) (fun v s4 h4 => ?_) fun _ _ e => e)
        obtain ⟨g4, T4, hv⟩ := h4
        have n4 := n3.tn T4
        obtain ⟨o4, e4, c4, d4⟩ := n4.dat
        have lenys : ys3.length ≤ 1000 := by
          rw [ac3.len]
          have hk : k < its.length := by
            rcases Nat.lt_or_ge k its.length with h | h
            · exact h
            · rw [List.getElem?_eq_none h] at hc; cases hc
          have hi : i < its.length := by
            rcases Nat.lt_or_ge i its.length with h | h
            · exact h
            · rw [List.getElem?_eq_none h] at ha; cases ha
          have hj : j < its.length := by
            rcases Nat.lt_or_ge j its.length with h | h
            · exact h
            · rw [List.getElem?_eq_none h] at hb; cases hb
          have l1 : ∀ i j, (f1 i j).length ≤ 10 := fun i j => by show ((List.range its.length).map _).length ≤ 10; rw [List.length_map, List.length_range]; exact hsz
          have l0 : ∀ i, (f0 i).length ≤ 100 := fun i => Nat.le_trans (flat_len (l1 i) its.length) (by have := Nat.mul_le_mul_right 10 hsz; omega)
          have q0 := flat_len l0 i
          have q1 := flat_len (l1 i) j
          rw [List.length_append, List.length_append, List.length_map, List.length_range]
          omega
        refine wpAny_bind (append' e4 c4 d4 (fun h5 sb5 hD5 => ?_) (by rw [List.size_toArray, sizeLine_eq]; omega))
        have k5 : ∀ b o, b ≠ D → s4.heap.get? b = some o → h5.get? b = some o := fun b o ne e => sb5.extBut b o ne e
        obtain ⟨o5, e5, c5, d5⟩ := hD5
        obtain ⟨m4, ns4, hol4⟩ := n4.ns
        refine wpAny_pure ⟨g4, ys3 ++ [v], ?_, T4.ext.le, n4.F.but k5 (by walk_at "nat") n4.gD (by walk_at "nat"), n4.T.but (tk := s4.toks) k5 (by walk_at "nat") n4.gD (by walk_at "nat") (by rw [sb5.1]; exact n4.T.kp.size) (Nat.le_refl _), ⟨o5, e5, c5, by rw [d5, List.length_append, List.length_singleton, List.push_toArray]⟩, ⟨m4, ns4.at' fun o e => k5 C o (Ne.symm DC) e, fun p hp => hol4 p (.tail _ hp)⟩, n4.gD, n4.gC⟩
        show ValsAt _ _ ((List.range i).flatMap f0 ++ (List.range j).flatMap (f1 i) ++ (List.range (k + 1)).map (val i j))
        rw [List.range_succ, List.map_append, ← List.append_assoc]
        exact ValsAt.snoc hv (ac3.le T4.ext.le)
      · intro g3 s3 ys3 ac3 le3 n3
        refine ⟨g3, ys3, ?_, le3, ⟨n3.F, n3.T, n3.dat, let ⟨m', ns, hol⟩ := n3.ns; ⟨m', ns, fun p hp => hol p (.tail _ hp)⟩, n3.gD, n3.gC⟩⟩
        show ValsAt _ _ ((List.range i).flatMap f0 ++ (List.range (j + 1)).flatMap (f1 i))
        rw [rs, ← List.append_assoc]
        exact ac3
    · intro g2 s2' ys2 ac2 le2 n2
      refine ⟨g2, ys2, ?_, le2, ⟨n2.F, n2.T, n2.dat, let ⟨m', ns, hol⟩ := n2.ns; ⟨m', ns, fun p hp => hol p (.tail _ hp)⟩, n2.gD, n2.gC⟩⟩
      show ValsAt _ _ ((List.range (i + 1)).flatMap f0)
      rw [rs]
      exact ac2
  have fin' : ∀ g' (s' : Shared) ys, ValsAt g' ys ((List.range its.length).flatMap f0) → NS w base env.locals m g g' s s' D C [] ys → compPost (model prog w) A E (some (assign (.Name y py) env)) (fun _ s' => Q .next s') (.ref D) C (.ok .next) s' := by
    rintro g' s' ys ac ⟨F5, T5, ⟨oD, eD, cD, dD⟩, ⟨m', ns, _⟩, gD, gC⟩
    have DL : D ≠ env.locals := by walk_at "nat"
    have F6 := F5.freeze eD DL
    have X6 : g'.le (g'.ins D oD) := (Ext.ins (k := 0) (Nat.zero_le _) gD).le
    show wpAny _ A (assign (.Name y py) env (.ref D)) _ _ _
    refine wpAny_assign_Name (wpAny_storeName_local hy F6.ns (fun h₂ hn₂ hs₂ => ?_) hp)
    have F7 := F6.set hn₂ hs₂
    refine ⟨m', ns.sameBut hs₂ fC.2.1, fun h'' hs'' => ?_⟩
    have k : ∀ b o, b ≠ C → h₂.get? b = some o → h''.get? b = some o := fun b o ne e => hs''.extBut b o ne e
    exact fin _ ys _ D (ac.le X6) (F7.but k fC.2.1 ((PM.ins_ne _ _ (Ne.symm DC)).trans gC) fC.2.2) T5.kp.os T5.kp.bare (T5.ext.le.trans X6) ⟨oD, PM.ins_self _ _ _, cD, _, dD⟩
  subst hC0
  rw [← hD]
  exact start_nest rfl rfl (loop _ fin') (wpAny_pyIter_listiter (let ⟨o, e, r⟩ := st.1; ⟨o, old _ _ e, r⟩) (loop _ fin'))
end

end Mine
end
section
open PySem PySem.W PyProof.Rows PySem.Calls
open PySem.W.X (SegX wake_any)
set_option Elab.async false
set_option maxRecDepth 100000
set_option maxHeartbeats 8000000
namespace Mine
set_option pp.maxSteps 600
theorem fill41 : (fun (_ : OpenLaw) (_ : Params → Frag) => True) PySem.Challenge.rw_fe0181_02 hd2.heap_39 := by
  k_fill; trivial
local macro_rules | `(tactic| walk_at "eval Name") => `(tactic| first
  | (refine nm_loc (by assumption) (by first | with_reducible assumption | assumption | exact rfl) ?_)
  | (refine nm_glob (by assumption) (by k_is) ?_)
  | (refine nm_built (by assumption) (by k_is) (by boot_by_name) ?_))
local macro_rules | `(tactic| walk_at "callWith ref") => `(tactic| first
  | (refine callWith_K0 (Gd.K (Fx.gd (by assumption))) (by k_is) ?_)
  | (refine callWith_K (Gd.K (Fx.gd (by assumption))) (by k_is) ?_))
local macro_rules | `(tactic| walk_at "And") => `(tactic| ((with_reducible show Frag.In _ _ ∧ _); refine ⟨Gd.K (Fx.gd (by assumption)), ?_⟩; try dsimp only [List.nil_append, List.cons_append]))
local macro_rules | `(tactic| walk_at "room") => `(tactic| (simp only [Around.deeper, Around.in1, Around.mark]; omega))
local macro_rules | `(tactic| walk_at "go") => `(tactic| repeat' (first | (k_unfold; (try dsimp only)) | walk1 | (dsimp only; walk1)))
section
variable {prog : Program} {w : World} {A : Around} {E : Value → Shared → Prop} {s : Shared} {env : Env} {h₀ : Heap} {g : PM} {m : Str → Option Value}
local macro_rules | `(tactic| walk_at "eval Name") => `(tactic| first
  | (refine nm_loc (by assumption) (by first | with_reducible assumption | assumption | exact rfl) ?_)
  | (refine nm_loc (Gn.F (by assumption)) (by first | with_reducible assumption | assumption | exact rfl) ?_)
  | (refine nm_glob (Gn.F (by assumption)) (by k_is) ?_)
  | (refine nm_built (Gn.F (by assumption)) (by k_is) (by boot_by_name) ?_)
  | (refine nm_glob (by assumption) (by k_is) ?_)
  | (refine nm_built (by assumption) (by k_is) (by boot_by_name) ?_))
local macro_rules | `(tactic| walk_at "callWith ref") => `(tactic| first
  | (refine callWith_K0 (Gd.K (Fx.gd (by assumption))) (by k_is) ?_)
  | (refine callWith_K (Gd.K (Fx.gd (by assumption))) (by k_is) ?_)
  | (refine callWith_K0 (Gd.K (Gn.gd (by assumption))) (by k_is) ?_)
  | (refine callWith_K (Gd.K (Gn.gd (by assumption))) (by k_is) ?_))
local macro_rules | `(tactic| walk_at "And") => `(tactic| first
  | ((with_reducible show Frag.In _ _ ∧ _); refine ⟨Gd.K (Fx.gd (by assumption)), ?_⟩; try dsimp only [List.nil_append, List.cons_append])
  | ((with_reducible show Frag.In _ _ ∧ _); refine ⟨Gd.K (Gn.gd (by assumption)), ?_⟩; try dsimp only [List.nil_append, List.cons_append]))
local macro_rules | `(tactic| walk_at "room") => `(tactic| (simp only [over_u, over_d, overL_u, overL_d, overB_u, overB_d, Around.deeper, Around.in1, Around.mark]; omega))
local macro_rules | `(tactic| walk_at "nat") => `(tactic| first | omega | (show @Ne Nat _ _; omega) | (show @LE.le Nat _ _ _; omega) | (show @LT.lt Nat _ _ _; omega) | (show @Eq Nat _ _ → False; omega))

local macro_rules | `(tactic| walk_at "eval Name") => `(tactic| first
  | (refine nm_loc (by assumption) (by first | with_reducible assumption | assumption | exact rfl) ?_)
  | (refine nm_rdL (by assumption) ?_ rfl rfl)
  | (refine nm_cellC rfl (by assumption) ?_)
  | (refine nm_globG (Fx.gd (by assumption)) (by k_is) ?_ rfl rfl rfl)
  | (refine nm_builtG (Fx.gd (by assumption)) (by k_is) (by boot_by_name) ?_ rfl rfl rfl rfl))

theorem PairsAt.get {g : PM} {vs : List Value} {as : List (Int × Int)} {i : Nat} {v : Value} (P : PairsAt g vs as) (e : vs[i]? = some v) : PairAt g v (as.getD i (0, 0)) := by
  obtain ⟨a, r, e1, e2, h⟩ := P.at e
  have : as[i]? = some a := by
    have := congrArg (fun l => l[0]?) e1
    simpa using this
  rw [List.getD_eq_getElem?_getD, this]
  exact h
theorem law_s6 {base : Heap} {L fa Da Df : Addr} {cd : Value} {av fv : List Value} {as fs : List (Int × Int)} {g0 : PM} {Q : Flow → Shared → Prop} (F0 : Fx w base g0 L s.heap m) (C1 : CellAt g0 (L + 1) (.ref Df)) (C2 : CellAt g0 (L + 2) (.ref Da)) (La : LstAt g0 Da av) (Lf : LstAt g0 Df fv) (Pa : PairsAt g0 av as) (Pf : PairsAt g0 fv fs)
    (hla : as.length = 3) (hlf : fs.length = 3) (hp : ∀ a ∈ as, 0 ≤ a.1 ∧ a.1 < 6 ∧ 0 ≤ a.2 ∧ a.2 < 6)
    (hrest : ∀ g' s' Dr rv, Fx w base g' L s'.heap (fun z => if z = "rows" then some (.ref Dr) else m z) → g0.le g' → LstAt g' Dr rv → ValsAt g' rv ((List.range 3).flatMap fun i => (List.range 3).flatMap fun j => (List.range 3).map fun k => putR as [fs.getD i (0, 0), fs.getD j (0, 0), fs.getD k (0, 0)] [none, none, none]) → s'.os = s.os → (AllBare s.gens → AllBare s'.gens) →
      wpAny (model prog w) (callerA.deeper (lawE L fa cd)) (execs (lawD.body.drop 6) (lawE L fa cd)) Q E s') :
    wpAny (model prog w) (callerA.deeper (lawE L fa cd)) (execs (lawD.body.drop 5) (lawE L fa cd)) Q E s := by
  have hh : (callerA.deeper (lawE L fa cd)).handled = none := rfl
  unfold lawD defOf
  dsimp only [List.drop]
  iterate 1 walk1
  have l3 : fv.length = 3 := by rw [Pf.len, hlf]
  refine comp3_assign (base := base) (g := g0) (m := m) (ax := Df) (its := fv) (cl := [("facts", L + 1), ("asked", L + 2)]) (val := fun i j k => putR as [fs.getD i (0, 0), fs.getD j (0, 0), fs.getD k (0, 0)] [none, none, none]) hh rfl rfl (by decide) rfl (by decide) rfl rfl rfl (by decide) (by decide) (by decide) rfl rfl (fun _ => rfl) (fun _ _ => rfl) (fun _ _ => rfl) F0 Lf (by omega) ?_ ?_ ?_ ?_ ?_
  · intro E Q q
    exact nm_cellC rfl (C1.is F0.on) q
  · intro C s' g' E Q F' l q
    exact nm_cellC rfl ((C1.le l).is F'.on) q
  · intro C s' g' E Q F' l q
    exact nm_cellC rfl ((C1.le l).is F'.on) q
  · intro C i j k a b c g' s' N ha hb hc F' l hns
    obtain ⟨m', ns, ma, mb, mc⟩ := hns
    have ra : ∃ m', s'.heap.Ns C m' ∧ m' "a" = some a := ⟨m', ns, ma⟩
    have rb : ∃ m', s'.heap.Ns C m' ∧ m' "b" = some b := ⟨m', ns, mb⟩
    have rc : ∃ m', s'.heap.Ns C m' ∧ m' "c" = some c := ⟨m', ns, mc⟩
    have ca := (C2.le l).is F'.on
    refine wpAny_hid ?_
    repeat walk1
    refine wpAny_newObj_type ?_
    have F1 := F'.push { cls := .type "list", data := .seq [a, b, c].toArray }
    have X1 := Ext.ins (o := { cls := .type "list", data := .seq [a, b, c].toArray }) (Nat.le_refl s'.heap.objs.size) F'.none_at
    have T1 : ∀ tk, Tn False base g' (g'.ins s'.heap.objs.size { cls := .type "list", data := .seq [a, b, c].toArray }) s' ⟨s'.heap.push { cls := .type "list", data := .seq [a, b, c].toArray }, s'.gens, s'.drawn, tk, s'.os⟩ := fun tk => Tn.grow ⟨fun b o e => Heap.get?_push_of_some _ e, fun _ _ e => e, id, by rw [Heap.size_push]; exact Nat.le_succ _, rfl⟩ X1 F1.on F'.keep fun z => z.elim
    have L1 : LstAt (g'.ins s'.heap.objs.size { cls := .type "list", data := .seq [a, b, c].toArray }) s'.heap.objs.size [a, b, c] := ⟨_, PM.ins_self _ _ _, rfl, _, rfl⟩
    have le1 := l.trans X1.le
    have P1 : PairsAt (g'.ins s'.heap.objs.size { cls := .type "list", data := .seq [a, b, c].toArray }) [a, b, c] [fs.getD i (0, 0), fs.getD j (0, 0), fs.getD k (0, 0)] := ⟨(Pf.get ha).le le1, (Pf.get hb).le le1, (Pf.get hc).le le1, trivial⟩
    revert F1 T1 L1 P1 le1
    generalize g'.ins s'.heap.objs.size { cls := .type "list", data := .seq [a, b, c].toArray } = g1
    generalize s'.heap.push { cls := .type "list", data := .seq [a, b, c].toArray } = h1
    generalize s'.heap.objs.size = d1
    intro F1 T1 L1 le1 P1
    clear ca ra rb rc
    repeat walk1
    refine wpAny_call (values_call lawA_u lawA_d hh F1.gd F1.on (La.le le1) L1 (Pa.le le1) P1 hla hp fun s2 rv Gr2 hrv => ?_)
    have st1 := F1.keep
    cases hv : putR as [fs.getD i (0, 0), fs.getD j (0, 0), fs.getD k (0, 0)] [none, none, none] with
    | none =>
      rw [hv] at hrv
      exact Hid.intro ⟨g1, (T1 _).trans (Tn.grow Gr2 .refl (F1.on.keeps Gr2.keep) F1.keep fun z => z.elim), hrv⟩
    | some V =>
      rw [hv] at hrv
      obtain ⟨D, vs, o, n, rfl, szD, eD, cD, dD, hV⟩ := hrv
      have gD : g1 D = none := PM.none_of F1.on szD
      refine Hid.intro ⟨g1.ins D o, (T1 _).trans (Tn.grow Gr2 (Ext.ins szD gD) ?_ F1.keep fun z => z.elim), ⟨D, vs, rfl, ⟨o, PM.ins_self _ _ _, cD, n, dD⟩, hV⟩⟩
      intro b x e
      unfold PM.ins at e
      by_cases q : b = D
      · rw [if_pos q] at e; cases e; rw [q]; exact eD
      · rw [if_neg q] at e; exact Gr2.keep _ _ (F1.on _ _ e)
  · intro g' ys s3 D hv F3 eos bare le L3
    rw [l3] at hv
    exact hrest g' s3 D ys F3 le L3 hv eos bare
end

end Mine
end
section
open PySem PySem.W PyProof.Rows PySem.Calls
open PySem.W.X (SegX wake_any)
set_option Elab.async false
set_option maxRecDepth 100000
set_option maxHeartbeats 8000000
namespace Mine
set_option pp.maxSteps 600
theorem fill42 : (fun (_ : OpenLaw) (_ : Params → Frag) => True) PySem.Challenge.rw_fe0181_02 hd2.heap_39 := by
  k_fill; trivial
local macro_rules | `(tactic| walk_at "no such word 0") => `(tactic| fail)
local macro_rules | `(tactic| walk_at "eval Name") => `(tactic| first
  | (refine nm_loc (by assumption) (by first | with_reducible assumption | assumption | exact rfl) ?_)
  | (refine nm_glob (by assumption) (by k_is) ?_)
  | (refine nm_built (by assumption) (by k_is) (by boot_by_name) ?_))
local macro_rules | `(tactic| walk_at "callWith ref") => `(tactic| first
  | (refine callWith_K0 (Gd.K (Fx.gd (by assumption))) (by k_is) ?_)
  | (refine callWith_K (Gd.K (Fx.gd (by assumption))) (by k_is) ?_))
local macro_rules | `(tactic| walk_at "And") => `(tactic| ((with_reducible show Frag.In _ _ ∧ _); refine ⟨Gd.K (Fx.gd (by assumption)), ?_⟩; try dsimp only [List.nil_append, List.cons_append]))
local macro_rules | `(tactic| walk_at "room") => `(tactic| (simp only [Around.deeper, Around.in1, Around.mark]; omega))
local macro_rules | `(tactic| walk_at "go") => `(tactic| repeat' (first | (k_unfold; (try dsimp only)) | walk1 | (dsimp only; walk1)))
section
variable {prog : Program} {w : World} {A : Around} {E : Value → Shared → Prop} {s : Shared} {env : Env} {h₀ : Heap} {g : PM} {m : Str → Option Value}
local macro_rules | `(tactic| walk_at "eval Name") => `(tactic| first
  | (refine nm_loc (by assumption) (by first | with_reducible assumption | assumption | exact rfl) ?_)
  | (refine nm_loc (Gn.F (by assumption)) (by first | with_reducible assumption | assumption | exact rfl) ?_)
  | (refine nm_glob (Gn.F (by assumption)) (by k_is) ?_)
  | (refine nm_built (Gn.F (by assumption)) (by k_is) (by boot_by_name) ?_)
  | (refine nm_glob (by assumption) (by k_is) ?_)
  | (refine nm_built (by assumption) (by k_is) (by boot_by_name) ?_))
local macro_rules | `(tactic| walk_at "callWith ref") => `(tactic| first
  | (refine callWith_K0 (Gd.K (Fx.gd (by assumption))) (by k_is) ?_)
  | (refine callWith_K (Gd.K (Fx.gd (by assumption))) (by k_is) ?_)
  | (refine callWith_K0 (Gd.K (Gn.gd (by assumption))) (by k_is) ?_)
  | (refine callWith_K (Gd.K (Gn.gd (by assumption))) (by k_is) ?_))
local macro_rules | `(tactic| walk_at "And") => `(tactic| first
  | ((with_reducible show Frag.In _ _ ∧ _); refine ⟨Gd.K (Fx.gd (by assumption)), ?_⟩; try dsimp only [List.nil_append, List.cons_append])
  | ((with_reducible show Frag.In _ _ ∧ _); refine ⟨Gd.K (Gn.gd (by assumption)), ?_⟩; try dsimp only [List.nil_append, List.cons_append]))
local macro_rules | `(tactic| walk_at "room") => `(tactic| (simp only [over_u, over_d, overL_u, overL_d, overB_u, overB_d, Around.deeper, Around.in1, Around.mark]; omega))
local macro_rules | `(tactic| walk_at "nat") => `(tactic| first | omega | (show @Ne Nat _ _; omega) | (show @LE.le Nat _ _ _; omega) | (show @LT.lt Nat _ _ _; omega) | (show @Eq Nat _ _ → False; omega))

local macro_rules | `(tactic| walk_at "eval Name") => `(tactic| first
  | (refine nm_loc (by assumption) (by first | with_reducible assumption | assumption | exact rfl) ?_)
  | (refine nm_rdL (by assumption) ?_ rfl rfl)
  | (refine nm_cellC rfl (by assumption) ?_)
  | (refine nm_globG (Fx.gd (by assumption)) (by k_is) ?_ rfl rfl rfl)
  | (refine nm_builtG (Fx.gd (by assumption)) (by k_is) (by boot_by_name) ?_ rfl rfl rfl rfl))

def tmV (V : List (Option Int)) (k : Nat) : Tm := match V.getD k none with
  | none => .var k
  | some n => .int n
def expR (rr : List (Option (List (Option Int)))) : List (List Tm) := rr.filterMap fun r => r.map fun V => [tmV V 0, tmV V 1, tmV V 2]
theorem expR_snoc (rr : List (Option (List (Option Int)))) (r : Option (List (Option Int))) : expR (rr ++ [r]) = expR rr ++ (match r with | none => [] | some V => [[tmV V 0, tmV V 1, tmV V 2]]) := by
  unfold expR
  rw [List.filterMap_append]
  cases r <;> simp
theorem ValsAt.at {g : PM} : ∀ {vs : List Value} {rs : List (Option (List (Option Int)))} {i : Nat} {v : Value}, ValsAt g vs rs → vs[i]? = some v → ∃ r, rs[i]? = some r ∧ ValAt g v r
  | _ :: _, _ :: _, 0, _, ⟨R, _⟩, e => by
    simp only [List.getElem?_cons_zero, Option.some.injEq] at e
    subst e
    exact ⟨_, rfl, R⟩
  | _ :: _, _ :: _, i + 1, _, ⟨_, r⟩, e => by
    obtain ⟨t', e1, e2⟩ := r.at (i := i) (by simpa using e)
    exact ⟨t', by simpa using e1, e2⟩
  | [], [], _, _, _, e => by simp at e
  | [], _ :: _, _, _, h, _ => h.elim
  | _ :: _, [], _, _, h, _ => h.elim
theorem RepV.eq {g : PM} : ∀ {ts : List Tm} {xs ys : List Value}, RepV g ts xs → RepV g ts ys → xs.length = ys.length ∧ ∀ (i : Nat) x y, xs[i]? = some x → ys[i]? = some y → EqT w g 100 x y
  | [], [], [], _, _ => ⟨rfl, fun i x y e => by simp at e⟩
  | t :: ts, x :: xs, y :: ys, ⟨a, b⟩, ⟨a', b'⟩ => by
    obtain ⟨l, h⟩ := RepV.eq b b'
    refine ⟨by simp [l], fun i x' y' e e' => ?_⟩
    rcases i with _ | i
    · simp only [List.getElem?_cons_zero, Option.some.injEq] at e e'
      subst e e'
      exact eqT_plain a.2 a.1 a'.1
    · exact h i x' y' (by simpa using e) (by simpa using e')
  | [], _ :: _, _, q, _ => q.elim
  | [], [], _ :: _, _, q => q.elim
  | _ :: _, [], _, q, _ => q.elim
  | _ :: _, _ :: _, [], _, q => q.elim
theorem RowsAt.eq {g : PM} : ∀ {ts : List (List Tm)} {xs ys : List Value}, RowsAt g xs ts → RowsAt g ys ts → xs.length = ys.length ∧ ∀ (i : Nat) x y, xs[i]? = some x → ys[i]? = some y → EqT w g 120 x y
  | [], [], [], _, _ => ⟨rfl, fun i x y e => by simp at e⟩
  | t :: ts, x :: xs, y :: ys, ⟨a, b⟩, ⟨a', b'⟩ => by
    obtain ⟨l, h⟩ := RowsAt.eq b b'
    refine ⟨by simp [l], fun i x' y' e e' => ?_⟩
    rcases i with _ | i
    · simp only [List.getElem?_cons_zero, Option.some.injEq] at e e'
      subst e e'
      obtain ⟨D, zs, rfl, L, r⟩ := a
      obtain ⟨D', zs', rfl, L', r'⟩ := a'
      obtain ⟨q1, q2⟩ := RepV.eq (w := w) r r'
      exact eqT_list L L' q1 q2
    · exact h i x' y' (by simpa using e) (by simpa using e')
  | [], _ :: _, _, q, _ => q.elim
  | [], [], _ :: _, _, q => q.elim
  | _ :: _, [], _, q, _ => q.elim
  | _ :: _, _ :: _, [], _, q => q.elim

theorem law_s7 {base : Heap} {L fa Dt Dr : Addr} {cd : Value} {tv rvs : List Value} {tt : List (List Tm)} {rr : List (Option (List (Option Int)))} {g0 : PM} {Q : Flow → Shared → Prop} (F0 : Fx w base g0 L s.heap m) (ht : m "told" = some (.ref Dt)) (hr : m "rows" = some (.ref Dr)) (Lt : LstAt g0 Dt tv) (Lr : LstAt g0 Dr rvs) (RT : RowsAt g0 tv tt) (VR : ValsAt g0 rvs rr)
    (hlen : rvs.length ≤ 1000) (h3 : ∀ V, some V ∈ rr → V.length = 3) (heq : tt = expR rr) (hQ : ∀ s', base.StaysIn s'.heap → s'.os = s.os → (AllBare s.gens → AllBare s'.gens) → Q (.ret (.bool true)) s') :
    wpAny (model prog w) (callerA.deeper (lawE L fa cd)) (execs (lawD.body.drop 6) (lawE L fa cd)) Q E s := by
  have hh : (callerA.deeper (lawE L fa cd)).handled = none := rfl
  unfold lawD defOf
  dsimp only [List.drop]
  refine wpAny_hid ?_
  iterate 4 walk1
  refine lc_evalC (tm := False) (g := g0) (base := base) (L := L) (m := m) (cl := []) hh rfl rfl rfl rfl (by decide) ?_
  refine nm_loc F0 hr ?_
  refine ⟨g0, _, _, fun g t i ys => RowsAt g ys (expR (rr.take i)), Tn.refl F0.on F0.keep, F0, SrcIs.list Lr, (by rw [sizeLine_eq]; omega), F0.ns.lt, Nat.le_of_lt F0.lt, fun g t t' i ys h q => q, fun t => trivial, ?_, ?_⟩
  · intro C cc i v g' s' ys N hi hP hac F' T' hcc
    obtain ⟨r, hrr, hv0⟩ := VR.at hP
    have hv := hv0.le T'.ext.le
    have et : rr.take (i + 1) = rr.take i ++ [r] := by rw [List.take_add_one, hrr]; rfl
    refine wpAny_tests_one ?_
    refine wpAny_hid ?_
    cases r with
    | none =>
      obtain rfl : v = .none := hv
      repeat walk1
      refine Hid.intro ?_
      rw [if_neg (by decide)]
      refine ⟨g', Tn.grow ⟨fun _ _ e => e, fun _ _ e => e, id, Nat.le_refl _, rfl⟩ .refl F'.on F'.keep (fun z => z.elim), ?_⟩
      show RowsAt _ _ (expR (rr.take (i + 1)))
      rw [et, expR_snoc]
      simpa using hac
    | some V =>
      obtain ⟨D, vs, rfl, LD, hV⟩ := hv
      have hV3 : V.length = 3 := h3 V (List.mem_of_getElem? hrr)
      repeat walk1
      refine Hid.intro ?_
      rw [if_pos rfl]
      refine lc_eval (tm := False) (g := g') (base := base) (L := L) (m := m) (cl := [("values", cc)]) hh rfl (by decide) rfl (by decide) rfl ?_
      refine wpAny_hid ?_
      repeat walk1
      refine range_fx (tm := False) F' (fun r hr tkr ra rb rc isr Fr' Tr => ?_)
      refine Hid.intro ⟨g', _, _, fun g t i ys => RepV g ([tmV V 0, tmV V 1, tmV V 2].take i) ys, Tn.trans (Tn.grow (s := s') (s' := ⟨s'.heap, s'.gens, s'.drawn, s'.toks + 1, s'.os⟩) ⟨fun _ _ e => e, fun _ _ e => e, id, Nat.le_refl _, rfl⟩ .refl F'.on F'.keep fun z => z.elim) Tr, Fr', SrcIs.range (n := 3) isr (by omega), (by rw [sizeLine_eq]; omega), Fr'.ns.lt, Nat.le_of_lt Fr'.lt, fun g t t' i ys h q => q, fun t => trivial, ?_, ?_⟩
      · intro C2 i2 v2 g3 s3 ys3 N3 hi3 hP3 hac3 F3 T3 rd3
        obtain ⟨t3, rfl⟩ := hP3
        have hc3 : s3.heap.IsCell cc (some (.ref D)) := cell_slk hcc ((Tr.trans T3).kp.sl) hcc.lt
        have LD3 := (LD.le T3.ext.le)
        obtain ⟨o, eD, cD, n, dD⟩ := LD3
        have eD' := F3.on _ _ eD
        obtain ⟨y, hy, hym⟩ := hV.at (i := i2) (by omega)
        have et3 : [tmV V 0, tmV V 1, tmV V 2].take (i2 + 1) = [tmV V 0, tmV V 1, tmV V 2].take i2 ++ [tmV V i2] := by
          rcases i2 with _ | _ | _ | i2
          · rfl
          · rfl
          · rfl
          · omega
        refine wpAny_tests_nil ?_
        rw [if_pos rfl]
        refine wpAny_hid ?_
        repeat walk1
        refine sub_list (l := D) ⟨o, eD', cD⟩ ?_
        refine wpAny_getItem_list (x := y) ⟨o, eD', cD, n, dD⟩ (by omega) (by omega) (by simpa using hy) ?_
        cases hg : V.getD i2 none with
        | none =>
          rw [hg] at hym
          obtain rfl : y = .none := hym
          have etm : tmV V i2 = .var i2 := by unfold tmV; rw [hg]
          repeat walk1
          refine wpAny_call (var_make lawA_u lawA_d F3.gd F3.on fun s4 g4 x Gr4 tk4 X4 on4 V4 => ?_)
          refine Hid.intro ⟨g4, Tn.grow ⟨Gr4.keep, Gr4.gens, Gr4.bare, Gr4.size, Gr4.os⟩ X4 on4 F3.keep (fun z => z.elim), ?_⟩
          show RepV _ ([tmV V 0, tmV V 1, tmV V 2].take (i2 + 1)) _
          rw [et3]
          refine RepV.snoc ?_ (by rw [etm]; rfl) (RepV.le X4.le hac3)
          rw [etm]
          simp only [Rep]
          exact ⟨x, rfl, V4, by omega, by omega⟩
        | some nn =>
          rw [hg] at hym
          obtain ⟨ty, rfl⟩ := hym
          have etm : tmV V i2 = .int nn := by unfold tmV; rw [hg]
          repeat walk1
          refine sub_list (l := D) ⟨o, eD', cD⟩ ?_
          refine wpAny_getItem_list (x := .int nn ty) ⟨o, eD', cD, n, dD⟩ (by omega) (by omega) (by simpa using hy) ?_
          refine Hid.intro ⟨g3, Tn.grow ⟨fun _ _ e => e, fun _ _ e => e, id, Nat.le_refl _, rfl⟩ .refl F3.on F3.keep (fun z => z.elim), ?_⟩
          show RepV _ ([tmV V 0, tmV V 1, tmV V 2].take (i2 + 1)) _
          rw [et3]
          refine RepV.snoc ?_ (by rw [etm]; rfl) hac3
          rw [etm]
          simp only [Rep]
          exact ⟨ty, rfl⟩
      · intro g3 ys3 s3 D3 o3 hac3 yl3 F3 T3 le3 L3 szD3
        refine Hid.intro ⟨_, T3, ?_⟩
        show RowsAt _ _ (expR (rr.take (i + 1)))
        rw [et, expR_snoc]
        exact RowsAt.snoc ⟨D3, ys3, rfl, L3, RepV.le le3 hac3⟩ (RowsAt.le T3.ext.le hac)
  · intro g' ys s3 D o hac yl F3 T3 le L3 _
    have etl : rr.take rvs.length = rr := List.take_of_length_le (by rw [VR.len]; exact Nat.le_refl _)
    have hac' : RowsAt (g'.ins D o) ys tt := by
      have z : RowsAt g' ys (expR (rr.take rvs.length)) := hac
      rw [etl, ← heq] at z
      exact RowsAt.le le z
    obtain ⟨q1, q2⟩ := RowsAt.eq (w := w) (RT.le T3.ext.le) hac'
    repeat walk1
    show wpAny _ _ (richCompare .Eq _ _) _ _ _
    refine rc_list (c := 120) (Lt.le T3.ext.le) L3 q1 q2 ?_ ?_ F3.gd F3.on (fun s4 Gr4 => ?_)
    · have := lawA_U (env := lawE L fa cd); omega
    · have := lawA_D (env := lawE L fa cd); omega
    refine Hid.intro ?_
    exact hQ s4 (fun b o e => Gr4.keep _ _ (F3.keep _ _ e)) (Gr4.os.trans T3.kp.os) (fun b => Gr4.bare (T3.kp.bare b))
end

end Mine
end
section
open PySem PySem.W PyProof.Rows PySem.Calls
open PySem.W.X (SegX wake_any)
set_option Elab.async false
set_option maxRecDepth 100000
set_option maxHeartbeats 8000000
namespace Mine
set_option pp.maxSteps 600
theorem fill43 : (fun (_ : OpenLaw) (_ : Params → Frag) => True) PySem.Challenge.rw_fe0181_02 hd2.heap_39 := by
  k_fill; trivial
local macro_rules | `(tactic| walk_at "eval Name") => `(tactic| first
  | (refine nm_loc (by assumption) (by first | with_reducible assumption | assumption | exact rfl) ?_)
  | (refine nm_glob (by assumption) (by k_is) ?_)
  | (refine nm_built (by assumption) (by k_is) (by boot_by_name) ?_))
local macro_rules | `(tactic| walk_at "callWith ref") => `(tactic| first
  | (refine callWith_K0 (Gd.K (Fx.gd (by assumption))) (by k_is) ?_)
  | (refine callWith_K (Gd.K (Fx.gd (by assumption))) (by k_is) ?_))
local macro_rules | `(tactic| walk_at "And") => `(tactic| ((with_reducible show Frag.In _ _ ∧ _); refine ⟨Gd.K (Fx.gd (by assumption)), ?_⟩; try dsimp only [List.nil_append, List.cons_append]))
local macro_rules | `(tactic| walk_at "room") => `(tactic| (simp only [Around.deeper, Around.in1, Around.mark]; omega))
local macro_rules | `(tactic| walk_at "go") => `(tactic| repeat' (first | (k_unfold; (try dsimp only)) | walk1 | (dsimp only; walk1)))
section
variable {prog : Program} {w : World} {A : Around} {E : Value → Shared → Prop} {s : Shared} {env : Env} {h₀ : Heap} {g : PM} {m : Str → Option Value}
local macro_rules | `(tactic| walk_at "eval Name") => `(tactic| first
  | (refine nm_loc (by assumption) (by first | with_reducible assumption | assumption | exact rfl) ?_)
  | (refine nm_loc (Gn.F (by assumption)) (by first | with_reducible assumption | assumption | exact rfl) ?_)
  | (refine nm_glob (Gn.F (by assumption)) (by k_is) ?_)
  | (refine nm_built (Gn.F (by assumption)) (by k_is) (by boot_by_name) ?_)
  | (refine nm_glob (by assumption) (by k_is) ?_)
  | (refine nm_built (by assumption) (by k_is) (by boot_by_name) ?_))
local macro_rules | `(tactic| walk_at "callWith ref") => `(tactic| first
  | (refine callWith_K0 (Gd.K (Fx.gd (by assumption))) (by k_is) ?_)
  | (refine callWith_K (Gd.K (Fx.gd (by assumption))) (by k_is) ?_)
  | (refine callWith_K0 (Gd.K (Gn.gd (by assumption))) (by k_is) ?_)
  | (refine callWith_K (Gd.K (Gn.gd (by assumption))) (by k_is) ?_))
local macro_rules | `(tactic| walk_at "And") => `(tactic| first
  | ((with_reducible show Frag.In _ _ ∧ _); refine ⟨Gd.K (Fx.gd (by assumption)), ?_⟩; try dsimp only [List.nil_append, List.cons_append])
  | ((with_reducible show Frag.In _ _ ∧ _); refine ⟨Gd.K (Gn.gd (by assumption)), ?_⟩; try dsimp only [List.nil_append, List.cons_append]))
local macro_rules | `(tactic| walk_at "room") => `(tactic| (simp only [over_u, over_d, overL_u, overL_d, overB_u, overB_d, Around.deeper, Around.in1, Around.mark]; omega))
local macro_rules | `(tactic| walk_at "nat") => `(tactic| first | omega | (show @Ne Nat _ _; omega) | (show @LE.le Nat _ _ _; omega) | (show @LT.lt Nat _ _ _; omega) | (show @Eq Nat _ _ → False; omega))

/-- the substitution says what the row of numbers says -/
def Cor (σ : Sub) (V : List (Option Int)) : Prop := V.length = 3 ∧ ∀ k : Nat, k < 3 → Sub.get σ (k : Int) = (V.getD k none).map Tm.int
theorem Sub.get_snoc {σ : Sub} {k j : Int} {t : Tm} : Sub.get (σ ++ [(k, t)]) j = match Sub.get σ j with | some x => some x | none => if k = j then some t else none := by
  unfold Sub.get
  rw [List.find?_append]
  cases h : σ.find? (fun x => x.1 == j) with
  | some x => simp
  | none =>
    by_cases e : k = j
    · subst e; simp
    · simp [List.find?_cons, e]
def pairT (p : Int × Int) : Tm := .cons (tmP p.1) (.cons (tmP p.2) (.nil .tup))
def pairF (f : Int × Int) : Tm := .cons (.int f.1) (.cons (.int f.2) (.nil .tup))

theorem uni_part {σ : Sub} {V : List (Option Int)} {p n : Int} (hp : 0 ≤ p) (hp6 : p < 6) (C : Cor σ V) : match putV V p n with
    | none => uni 8 σ (tmP p) (.int n) = some none
    | some V' => ∃ σ', uni 8 σ (tmP p) (.int n) = some (some σ') ∧ Cor σ' V' := by
  obtain ⟨hl, hc⟩ := C
  by_cases h3 : p < 3
  · obtain ⟨k, rfl⟩ : ∃ k : Nat, p = (k : Int) := ⟨p.toNat, by omega⟩
    have hk : k < 3 := by omega
    have g := hc k hk
    have et : tmP (k : Int) = .var k := by unfold tmP; rw [if_pos h3]
    rw [et]
    have e1 : ((k : Int)).toNat = k := by omega
    cases hv : V.getD k none with
    | none =>
      rw [hv] at g
      have hput : putV V k n = some (V.set k (some n)) := by
        unfold putV
        rw [if_neg (by rintro ⟨q, _⟩; omega), e1, if_neg (by rintro ⟨_, q, _⟩; exact q hv), if_pos h3]
      rw [hput]
      refine ⟨σ ++ [((k : Int), .int n)], ?_, by rw [List.length_set]; exact hl, fun j hj => ?_⟩
      · simp only [uni, Tm.isVar, Bool.true_or, if_true, walk, g, Option.map_none, Tm.plain, Bool.and_self, Bool.false_eq_true, if_false]
        simp
      · rw [Sub.get_snoc, hc j hj]
        by_cases e : k = j
        · subst e
          rw [hv]
          simp [List.getD_eq_getElem?_getD, List.getElem?_set, hl, hk]
        · have e' : ¬ ((k : Int) = (j : Int)) := by omega
          have e2 : (V.set k (some n)).getD j none = V.getD j none := by simp [List.getD_eq_getElem?_getD, List.getElem?_set, e]
          rw [e2]
          cases V.getD j none <;> simp [e']
    | some n0 =>
      rw [hv] at g
      by_cases hnn : n0 = n
      · subst hnn
        have hput : putV V k n0 = some (V.set k (some n0)) := by
          unfold putV
          rw [if_neg (by rintro ⟨q, _⟩; omega), e1, if_neg (by rintro ⟨_, _, q⟩; exact q hv), if_pos h3]
        rw [hput]
        have es : V.set k (some n0) = V := by
          apply List.ext_getElem?
          intro j
          rw [List.getElem?_set]
          by_cases e : k = j
          · subst e
            have : k < V.length := by omega
            rw [List.getD_eq_getElem?_getD] at hv
            simp [this] at hv ⊢
            exact hv.symm
          · simp [e]
        rw [es]
        refine ⟨σ, ?_, hl, hc⟩
        simp [uni, Tm.isVar, walk, g, Tm.plain]
      · have hput : putV V k n = none := by
          unfold putV
          rw [if_neg (by rintro ⟨q, _⟩; omega), e1, if_pos ⟨h3, by rw [hv]; simp, by rw [hv]; simpa using hnn⟩]
        rw [hput]
        simp [uni, Tm.isVar, walk, g, Tm.plain, hnn, Tm.isNode]
  · have et : tmP p = .int (p - 3) := by unfold tmP; rw [if_neg h3]
    rw [et]
    by_cases hpn : p - 3 = n
    · have hput : putV V p n = some V := by
        unfold putV
        rw [if_neg (by rintro ⟨_, q⟩; exact q hpn), if_neg (by rintro ⟨q, _⟩; omega), if_neg h3]
      rw [hput]
      refine ⟨σ, ?_, hl, hc⟩
      simp [uni, Tm.isVar, Tm.plain, hpn, Tm.isNode]
    · have hput : putV V p n = none := by
        unfold putV
        rw [if_pos ⟨by omega, hpn⟩]
      rw [hput]
      simp [uni, Tm.isVar, Tm.plain, hpn, Tm.isNode]

theorem uni_pair {σ : Sub} {V : List (Option Int)} {p f : Int × Int} (hp : 0 ≤ p.1 ∧ p.1 < 6 ∧ 0 ≤ p.2 ∧ p.2 < 6) (C : Cor σ V) : match putP V p f with
    | none => uni 9 σ (pairT p) (pairF f) = some none
    | some V' => ∃ σ', uni 9 σ (pairT p) (pairF f) = some (some σ') ∧ Cor σ' V' := by
  have e0 : uni 9 σ (pairT p) (pairF f) = uniL (uni 8) σ (pairT p) (pairF f) := by
    unfold uni pairT pairF
    simp [Tm.isVar, Tm.isNode, Tm.kind, Tm.len]
  rw [e0]
  unfold putP pairT pairF
  have h1 := uni_part (n := f.1) hp.1 hp.2.1 C
  cases e1 : putV V p.1 f.1 with
  | none =>
    rw [e1] at h1
    dsimp only at h1 ⊢
    simp only [uniL, h1]
  | some V1 =>
    rw [e1] at h1
    obtain ⟨σ1, u1, C1⟩ := h1
    have h2 := uni_part (n := f.2) hp.2.2.1 hp.2.2.2 C1
    dsimp only
    cases e2 : putV V1 p.2 f.2 with
    | none =>
      rw [e2] at h2
      dsimp only at h2 ⊢
      simp only [uniL, u1, h2]
    | some V2 =>
      rw [e2] at h2
      obtain ⟨σ2, u2, C2⟩ := h2
      refine ⟨σ2, ?_, C2⟩
      simp only [uniL, u1, u2]

def vfnd (fs : List (Int × Int)) : List (Int × Int) → List (Option Int) → List (List (Option Int))
  | [], V => [V]
  | a :: as, V => fs.flatMap fun f => match putP V a f with
    | none => []
    | some V' => vfnd fs as V'
def CorL : List Sub → List (List (Option Int)) → Prop
  | [], [] => True
  | σ :: σs, V :: Vs => Cor σ V ∧ CorL σs Vs
  | _, _ => False
theorem CorL.append : ∀ {a b : List Sub} {x y : List (List (Option Int))}, CorL a x → CorL b y → CorL (a ++ b) (x ++ y)
  | [], _, [], _, _, h => h
  | _ :: _, _, _ :: _, _, ⟨p, q⟩, h => ⟨p, CorL.append q h⟩
  | [], _, _ :: _, _, h, _ => h.elim
  | _ :: _, _, [], _, h, _ => h.elim
theorem fndF_ok {rec : Sub → Option (List Sub)} {vrec : List (Option Int) → List (List (Option Int))} (hrec : ∀ σ V, Cor σ V → ∃ rs, rec σ = some rs ∧ CorL rs (vrec V)) {σ : Sub} {V : List (Option Int)} {p : Int × Int} (hp : 0 ≤ p.1 ∧ p.1 < 6 ∧ 0 ≤ p.2 ∧ p.2 < 6) (C : Cor σ V) :
    ∀ (fs : List (Int × Int)) {acc : List Sub} {vacc : List (List (Option Int))}, CorL acc vacc → ∃ rs, fndF rec 9 σ (pairT p) (fs.map pairF) acc = some rs ∧ CorL rs (vacc ++ fs.flatMap fun f => match putP V p f with | none => [] | some V' => vrec V')
  | [], acc, vacc, h => ⟨acc, rfl, by simpa using h⟩
  | f :: fs, acc, vacc, h => by
    have hu := uni_pair (f := f) hp C
    simp only [List.map_cons, fndF, List.flatMap_cons]
    cases e : putP V p f with
    | none =>
      rw [e] at hu
      dsimp only at hu
      rw [hu]
      obtain ⟨rs, q1, q2⟩ := fndF_ok hrec hp C fs h
      exact ⟨rs, q1, by simpa using q2⟩
    | some V' =>
      rw [e] at hu
      obtain ⟨σ', u, C'⟩ := hu
      rw [u]
      obtain ⟨rs', r1, r2⟩ := hrec σ' V' C'
      dsimp only
      rw [r1]
      obtain ⟨rs, q1, q2⟩ := fndF_ok hrec hp C fs (h.append r2)
      exact ⟨rs, q1, by simpa using q2⟩
theorem fnd_ok (fs : List (Int × Int)) : ∀ (as : List (Int × Int)) {σ : Sub} {V : List (Option Int)}, (∀ a ∈ as, 0 ≤ a.1 ∧ a.1 < 6 ∧ 0 ≤ a.2 ∧ a.2 < 6) → Cor σ V → ∃ rs, fnd 9 (fs.map pairF) (as.map pairT) σ = some rs ∧ CorL rs (vfnd fs as V)
  | [], σ, V, _, C => ⟨[σ], rfl, C, trivial⟩
  | a :: as, σ, V, hp, C => by
    obtain ⟨rs, q1, q2⟩ := fndF_ok (rec := fnd 9 (fs.map pairF) (as.map pairT)) (vrec := vfnd fs as) (fun σ V C => fnd_ok fs as (fun a h => hp a (.tail _ h)) C) (hp a (.head _)) C fs (acc := []) (vacc := []) trivial
    exact ⟨rs, q1, by simpa [vfnd] using q2⟩

def rvf (σ : Sub) (k : Int) : Tm := (rei 10 σ (.var k)).getD (.var k)
theorem rei_cor {σ : Sub} {V : List (Option Int)} (C : Cor σ V) (k : Nat) (hk : k < 3) : rei 10 σ (.var (k : Int)) = some (tmV V k) ∧ (tmV V k).plain = true ∧ (σ = [] → tmV V k = .var (k : Int)) := by
  have g := C.2 k hk
  unfold tmV
  cases hv : V.getD k none with
  | none =>
    rw [hv] at g
    refine ⟨?_, rfl, fun _ => rfl⟩
    simp [rei, g]
  | some n =>
    rw [hv] at g
    refine ⟨?_, rfl, fun e => ?_⟩
    · simp [rei, g, walk, Tm.plain]
    · rw [e] at g
      simp [Sub.get] at g
theorem rows_eq : ∀ {rs : List Sub} {Vs : List (List (Option Int))}, CorL rs Vs → (rs.map fun σ => [rvf σ 0, rvf σ 1, rvf σ 2]) = Vs.map fun V => [tmV V 0, tmV V 1, tmV V 2]
  | [], [], _ => rfl
  | σ :: rs, V :: Vs, ⟨C, r⟩ => by
    have e : ∀ k : Nat, k < 3 → rvf σ (k : Int) = tmV V k := fun k hk => by unfold rvf; rw [(rei_cor C k hk).1]; rfl
    simp only [List.map_cons]
    rw [rows_eq r]
    have e0 := e 0 (by decide)
    have e1 := e 1 (by decide)
    have e2 := e 2 (by decide)
    simp only [Int.ofNat_zero, Int.ofNat_one] at e0 e1
    rw [show (0 : Int) = ((0 : Nat) : Int) from rfl, show (1 : Int) = ((1 : Nat) : Int) from rfl, show (2 : Int) = ((2 : Nat) : Int) from rfl, e 0 (by decide), e 1 (by decide), e 2 (by decide)]
  | [], _ :: _, h => h.elim
  | _ :: _, [], h => h.elim
theorem CorL.rv : ∀ {rs : List Sub} {Vs : List (List (Option Int))}, CorL rs Vs → ∀ σ ∈ rs, ∀ k : Int, 0 ≤ k → k < 3 → rei 10 σ (.var k) = some (rvf σ k) ∧ (rvf σ k).plain = true ∧ (σ = [] → rvf σ k = .var k)
  | σ :: rs, V :: Vs, ⟨C, r⟩, σ', h, k, h0, h3 => by
    rcases List.mem_cons.mp h with rfl | h
    · obtain ⟨j, rfl⟩ : ∃ j : Nat, k = (j : Int) := ⟨k.toNat, by omega⟩
      obtain ⟨q1, q2, q3⟩ := rei_cor C j (by omega)
      have e : rvf σ' (j : Int) = tmV V j := by unfold rvf; rw [q1]; rfl
      rw [e]
      exact ⟨q1, q2, q3⟩
    · exact CorL.rv r σ' h k h0 h3
  | [], [], _, _, h, _, _, _ => nomatch h
  | [], _ :: _, h, _, _, _, _, _ => h.elim
  | _ :: _, [], h, _, _, _, _, _ => h.elim
theorem CorL.len : ∀ {rs : List Sub} {Vs : List (List (Option Int))}, CorL rs Vs → rs.length = Vs.length
  | [], [], _ => rfl
  | _ :: _, _ :: _, ⟨_, r⟩ => by simp [r.len]
  | [], _ :: _, h => h.elim
  | _ :: _, [], h => h.elim
end

end Mine
end
section
open PySem PySem.W PyProof.Rows PySem.Calls
open PySem.W.X (SegX wake_any)
set_option Elab.async false
set_option maxRecDepth 100000
set_option maxHeartbeats 8000000
namespace Mine
set_option pp.maxSteps 600
theorem fill44 : (fun (_ : OpenLaw) (_ : Params → Frag) => True) PySem.Challenge.rw_fe0181_02 hd2.heap_39 := by
  k_fill; trivial
local macro_rules | `(tactic| walk_at "no such word 0") => `(tactic| fail)
local macro_rules | `(tactic| walk_at "eval Name") => `(tactic| first
  | (refine nm_loc (by assumption) (by first | with_reducible assumption | assumption | exact rfl) ?_)
  | (refine nm_glob (by assumption) (by k_is) ?_)
  | (refine nm_built (by assumption) (by k_is) (by boot_by_name) ?_))
local macro_rules | `(tactic| walk_at "callWith ref") => `(tactic| first
  | (refine callWith_K0 (Gd.K (Fx.gd (by assumption))) (by k_is) ?_)
  | (refine callWith_K (Gd.K (Fx.gd (by assumption))) (by k_is) ?_))
local macro_rules | `(tactic| walk_at "And") => `(tactic| ((with_reducible show Frag.In _ _ ∧ _); refine ⟨Gd.K (Fx.gd (by assumption)), ?_⟩; try dsimp only [List.nil_append, List.cons_append]))
local macro_rules | `(tactic| walk_at "room") => `(tactic| (simp only [Around.deeper, Around.in1, Around.mark]; omega))
local macro_rules | `(tactic| walk_at "go") => `(tactic| repeat' (first | (k_unfold; (try dsimp only)) | walk1 | (dsimp only; walk1)))
section
variable {prog : Program} {w : World} {A : Around} {E : Value → Shared → Prop} {s : Shared} {env : Env} {h₀ : Heap} {g : PM} {m : Str → Option Value}
local macro_rules | `(tactic| walk_at "eval Name") => `(tactic| first
  | (refine nm_loc (by assumption) (by first | with_reducible assumption | assumption | exact rfl) ?_)
  | (refine nm_loc (Gn.F (by assumption)) (by first | with_reducible assumption | assumption | exact rfl) ?_)
  | (refine nm_glob (Gn.F (by assumption)) (by k_is) ?_)
  | (refine nm_built (Gn.F (by assumption)) (by k_is) (by boot_by_name) ?_)
  | (refine nm_glob (by assumption) (by k_is) ?_)
  | (refine nm_built (by assumption) (by k_is) (by boot_by_name) ?_))
local macro_rules | `(tactic| walk_at "callWith ref") => `(tactic| first
  | (refine callWith_K0 (Gd.K (Fx.gd (by assumption))) (by k_is) ?_)
  | (refine callWith_K (Gd.K (Fx.gd (by assumption))) (by k_is) ?_)
  | (refine callWith_K0 (Gd.K (Gn.gd (by assumption))) (by k_is) ?_)
  | (refine callWith_K (Gd.K (Gn.gd (by assumption))) (by k_is) ?_))
local macro_rules | `(tactic| walk_at "And") => `(tactic| first
  | ((with_reducible show Frag.In _ _ ∧ _); refine ⟨Gd.K (Fx.gd (by assumption)), ?_⟩; try dsimp only [List.nil_append, List.cons_append])
  | ((with_reducible show Frag.In _ _ ∧ _); refine ⟨Gd.K (Gn.gd (by assumption)), ?_⟩; try dsimp only [List.nil_append, List.cons_append]))
local macro_rules | `(tactic| walk_at "room") => `(tactic| (simp only [over_u, over_d, overL_u, overL_d, overB_u, overB_d, Around.deeper, Around.in1, Around.mark]; omega))
local macro_rules | `(tactic| walk_at "nat") => `(tactic| first | omega | (show @Ne Nat _ _; omega) | (show @LE.le Nat _ _ _; omega) | (show @LT.lt Nat _ _ _; omega) | (show @Eq Nat _ _ → False; omega))

theorem putV_len {V V' : List (Option Int)} {p n : Int} (h : putV V p n = some V') : V'.length = V.length := by
  unfold putV at h
  split at h
  · cases h
  · split at h
    · cases h
    · split at h
      · cases h; exact List.length_set
      · cases h; rfl
theorem putP_len {V V' : List (Option Int)} {a f : Int × Int} (h : putP V a f = some V') : V'.length = V.length := by
  unfold putP at h
  cases e : putV V a.1 f.1 with
  | none => rw [e] at h; cases h
  | some V1 =>
    rw [e] at h
    exact (putV_len h).trans (putV_len e)
theorem putR_len : ∀ {as fs : List (Int × Int)} {V V' : List (Option Int)}, putR as fs V = some V' → V'.length = V.length
  | a :: as, f :: fs, V, V', h => by
    unfold putR at h
    cases e : putP V a f with
    | none => rw [e] at h; cases h
    | some V1 =>
      rw [e] at h
      exact (putR_len h).trans (putP_len e)
  | [], _, V, V', h => by simp [putR] at h; rw [h]
  | _ :: _, [], V, V', h => by simp [putR] at h; rw [h]
theorem flat_le {α β : Type} {c : Nat} {X : α → List β} : ∀ {l : List α}, (∀ f ∈ l, (X f).length ≤ c) → (l.flatMap X).length ≤ l.length * c
  | [], _ => by simp
  | f :: l, h => by
    have h1 := h f (.head _)
    have h2 := flat_le (l := l) fun f' hf => h f' (.tail _ hf)
    rw [List.flatMap_cons, List.length_append, List.length_cons, Nat.add_mul]
    omega
theorem vfnd_len {fs : List (Int × Int)} (hf : fs.length = 3) : ∀ (as : List (Int × Int)) (V : List (Option Int)), (vfnd fs as V).length ≤ 3 ^ as.length
  | [], V => by simp [vfnd]
  | a :: as, V => by
    unfold vfnd
    have := flat_le (l := fs) (c := 3 ^ as.length) (X := fun f => match putP V a f with | none => ([] : List (List (Option Int))) | some V' => vfnd fs as V') (fun f _ => by
      cases putP V a f with
      | none => exact Nat.zero_le _
      | some V' => exact vfnd_len hf as V')
    rw [hf] at this
    rw [List.length_cons, Nat.pow_succ, Nat.mul_comm]
    exact this
theorem rng3 {α β : Type} {fs : List α} (hf : fs.length = 3) (d : α) (X : α → β) : (List.range 3).map (fun i => X (fs.getD i d)) = fs.map X := by
  rcases fs with _ | ⟨f0, _ | ⟨f1, _ | ⟨f2, _ | ⟨f3, fs⟩⟩⟩⟩ <;> simp at hf
  rfl
theorem rng3f {α β : Type} {fs : List α} (hf : fs.length = 3) (d : α) (X : α → List β) : (List.range 3).flatMap (fun i => X (fs.getD i d)) = fs.flatMap X := by
  rcases fs with _ | ⟨f0, _ | ⟨f1, _ | ⟨f2, _ | ⟨f3, fs⟩⟩⟩⟩ <;> simp at hf
  rfl
theorem rows_vfnd {fs : List (Int × Int)} {a1 a2 a3 : Int × Int} {V : List (Option Int)} (hf : fs.length = 3) :
    expR ((List.range 3).flatMap fun i => (List.range 3).flatMap fun j => (List.range 3).map fun k => putR [a1, a2, a3] [fs.getD i (0, 0), fs.getD j (0, 0), fs.getD k (0, 0)] V) = (vfnd fs [a1, a2, a3] V).map fun V => [tmV V 0, tmV V 1, tmV V 2] := by
  have e1 : ((List.range 3).flatMap fun i => (List.range 3).flatMap fun j => (List.range 3).map fun k => putR [a1, a2, a3] [fs.getD i (0, 0), fs.getD j (0, 0), fs.getD k (0, 0)] V) = fs.flatMap fun f1 => fs.flatMap fun f2 => fs.map fun f3 => putR [a1, a2, a3] [f1, f2, f3] V := by
    rw [← rng3f hf (0, 0)]
    refine congrArg (fun f => List.flatMap f (List.range 3)) (funext fun i => ?_)
    rw [← rng3f hf (0, 0)]
    refine congrArg (fun f => List.flatMap f (List.range 3)) (funext fun j => ?_)
    rw [← rng3 hf (0, 0)]
  rw [e1]
  unfold expR
  simp only [vfnd, List.filterMap_flatMap, List.map_flatMap, List.filterMap_map]
  refine congrArg (fun f => List.flatMap f fs) (funext fun f1 => ?_)
  simp only [putR]
  cases putP V a1 f1 with
  | none => simp [Function.comp_def]
  | some V1 =>
    simp only [List.map_flatMap]
    refine congrArg (fun f => List.flatMap f fs) (funext fun f2 => ?_)
    cases putP V1 a2 f2 with
    | none => simp [Function.comp_def]
    | some V2 =>
      simp only [List.map_flatMap]
      clear e1 hf
      induction fs with
      | nil => rfl
      | cons x l ih =>
        simp only [List.filterMap_cons, List.flatMap_cons, Function.comp] at ih ⊢
        cases putP V2 a3 x with
        | none => simpa using ih
        | some V3 => simpa using ih

theorem SameIt.mono {g : PM} {x y : Value} {P P' : Prop} (S : SameIt w g x y P) (h : P → P') : SameIt w g x y P' := fun prog A E s Q G on q => S prog A E s Q G on fun k s' Gr hk => q k s' Gr fun e => h (hk e)
def ItEq (p n : Int) : Prop := ¬ p < 3 ∧ p - 3 = n
theorem same_part {g : PM} {T t : Nat} {y : Value} {p n : Int} {ta : Tok} (q : QPart g T y p) (hp : 0 ≤ p ∧ p < 6) (h1 : 0 < ta) (h2 : ta < t) (ht : t ≤ T) : SameIt w g y (.int n ta) (ItEq p n) ∧ y ≠ .int n ta ∧ ∀ a b, ¬ (y = .ref a ∧ Value.int n ta = .ref b) := by
  unfold QPart at q
  by_cases h3 : p < 3
  · rw [if_pos h3] at q
    obtain ⟨a, rfl, _⟩ := q.var_is
    exact ⟨same_var.mono (fun z => z.elim), (fun e => by cases e), (fun a b z => by cases z.2)⟩
  · rw [if_neg h3] at q
    obtain ⟨tk, rfl, hT⟩ := q
    have n1 : @LT.lt Nat _ ta tk := Nat.lt_of_lt_of_le h2 (Nat.le_trans ht hT)
    have n0 : @LT.lt Nat _ 0 ta := h1
    have m1 : @Ne Nat tk 0 := by omega
    have m2 : @Ne Nat ta 0 := by omega
    have m3 : @Ne Nat tk ta := by omega
    refine ⟨(same_int m1 m2 m3 (fun e => by unfold smallInt; simp; omega)).mono (fun e => ⟨h3, e⟩), (fun e => ?_), (fun a b z => by cases z.1)⟩
    cases e
    exact Nat.lt_irrefl _ n1
theorem QPart.rep {g : PM} {T : Nat} {y : Value} {p : Int} (q : QPart g T y p) : Rep g (tmP p) y := by
  unfold QPart at q
  unfold tmP
  by_cases h3 : p < 3
  · rw [if_pos h3] at q ⊢; exact q
  · rw [if_neg h3] at q ⊢
    obtain ⟨tk, rfl, _⟩ := q
    simp only [Rep]
    exact ⟨tk, rfl⟩
theorem uni_same {σ : Sub} {a f : Int × Int} (h1 : ItEq a.1 f.1) (h2 : ItEq a.2 f.2) : uni 9 σ (pairT a) (pairF f) = some (some σ) := by
  have e0 : uni 9 σ (pairT a) (pairF f) = uniL (uni 8) σ (pairT a) (pairF f) := by
    unfold uni pairT pairF
    simp [Tm.isVar, Tm.isNode, Tm.kind, Tm.len]
  rw [e0]
  unfold pairT pairF tmP
  rw [if_neg h1.1, if_neg h2.1, h1.2, h2.2]
  have e : ∀ n : Int, uni 8 σ (.int n) (.int n) = some (some σ) := fun n => by simp [uni, Tm.isVar, Tm.plain, Tm.isNode]
  simp only [uniL, e]
theorem fok_of {g : PM} {T t : Nat} {v : Value} {a : Int × Int} (ht : t ≤ T) (Q : QAt g T v a) (hp : 0 ≤ a.1 ∧ a.1 < 6 ∧ 0 ≤ a.2 ∧ a.2 < 6) : ∀ {fv : List Value} {fs : List (Int × Int)}, FactsAt g t fv fs → FOK w g 9 (pairT a) v (fs.map pairF) fv
  | [], [], _ => trivial
  | v' :: fv, f :: fs, ⟨F, r⟩ => by
    obtain ⟨tp, n, y1, y2, rfl, hq, q1, q2⟩ := Q
    obtain ⟨tf, n', ta, tb, rfl, hf, b1, b2, b3, b4⟩ := F
    obtain ⟨s1, d1, r1⟩ := same_part (w := w) (n := f.1) q1 ⟨hp.1, hp.2.1⟩ b1 b2 ht
    obtain ⟨s2, d2, r2⟩ := same_part (w := w) (n := f.2) q2 ⟨hp.2.2.1, hp.2.2.2⟩ b3 b4 ht
    have ne : tp ≠ tf := fun e => by
      rw [e, hf] at hq
      cases hq
      exact d1 rfl
    refine ⟨?_, fun σ r hu => ?_, fok_of ht ⟨tp, n, y1, y2, rfl, hq, q1, q2⟩ hp r⟩
    · simp only [pairF, Rep, RepL]
      exact ⟨tf, _, _, rfl, ⟨n', hf⟩, ⟨ta, rfl⟩, _, _, rfl, ⟨tb, rfl⟩, rfl⟩
    · have sp := same_pair hq hf s1 s2 ne r1 r2
      intro prog A E s Q h1 h2 G on q
      refine sp prog A E s Q h1 h2 G on fun k s' Gr hk => q k s' Gr fun e => ?_
      have := uni_same (σ := σ) (hk e).1 (hk e).2
      rw [hu] at this
      exact Option.some.inj this
  | [], _ :: _, h => h.elim
  | _ :: _, [], h => h.elim
theorem qok_of {g : PM} {T t : Nat} (ht : t ≤ T) {fv : List Value} {fs : List (Int × Int)} (F : FactsAt g t fv fs) : ∀ {qv : List Value} {as : List (Int × Int)}, QsAt g T qv as → (∀ a ∈ as, 0 ≤ a.1 ∧ a.1 < 6 ∧ 0 ≤ a.2 ∧ a.2 < 6) → QOK w g 9 (fs.map pairF) fv (as.map pairT) qv
  | [], [], _, _ => trivial
  | v :: qv, a :: as, ⟨Q, r⟩, hp => by
    refine ⟨?_, fok_of ht Q (hp a (.head _)) F, qok_of ht F r fun a' h => hp a' (.tail _ h)⟩
    obtain ⟨tp, n, y1, y2, rfl, hq, q1, q2⟩ := Q
    simp only [pairT, Rep, RepL]
    exact ⟨tp, _, _, rfl, ⟨n, hq⟩, q1.rep, _, _, rfl, q2.rep, rfl⟩
  | [], _ :: _, h, _ => h.elim
  | _ :: _, [], h, _ => h.elim
theorem QsAt.len {g : PM} {T : Nat} : ∀ {vs : List Value} {as : List (Int × Int)}, QsAt g T vs as → vs.length = as.length
  | [], [], _ => rfl
  | _ :: _, _ :: _, ⟨_, b⟩ => by simp [b.len]
  | [], _ :: _, q => q.elim
  | _ :: _, [], q => q.elim
end

end Mine
end
section
open PySem PySem.W PyProof.Rows PySem.Calls
open PySem.W.X (SegX wake_any)
set_option Elab.async false
set_option maxRecDepth 100000
set_option maxHeartbeats 8000000
namespace Mine
set_option pp.maxSteps 600
theorem fill45 : (fun (_ : OpenLaw) (_ : Params → Frag) => True) PySem.Challenge.rw_fe0181_02 hd2.heap_39 := by
  k_fill; trivial
local macro_rules | `(tactic| walk_at "eval Name") => `(tactic| first
  | (refine nm_loc (by assumption) (by first | with_reducible assumption | assumption | exact rfl) ?_)
  | (refine nm_glob (by assumption) (by k_is) ?_)
  | (refine nm_built (by assumption) (by k_is) (by boot_by_name) ?_))
local macro_rules | `(tactic| walk_at "callWith ref") => `(tactic| first
  | (refine callWith_K0 (Gd.K (Fx.gd (by assumption))) (by k_is) ?_)
  | (refine callWith_K (Gd.K (Fx.gd (by assumption))) (by k_is) ?_))
local macro_rules | `(tactic| walk_at "And") => `(tactic| ((with_reducible show Frag.In _ _ ∧ _); refine ⟨Gd.K (Fx.gd (by assumption)), ?_⟩; try dsimp only [List.nil_append, List.cons_append]))
local macro_rules | `(tactic| walk_at "room") => `(tactic| (simp only [Around.deeper, Around.in1, Around.mark]; omega))
local macro_rules | `(tactic| walk_at "go") => `(tactic| repeat' (first | (k_unfold; (try dsimp only)) | walk1 | (dsimp only; walk1)))
section
variable {prog : Program} {w : World} {A : Around} {E : Value → Shared → Prop} {s : Shared} {env : Env} {h₀ : Heap} {g : PM} {m : Str → Option Value}
local macro_rules | `(tactic| walk_at "eval Name") => `(tactic| first
  | (refine nm_loc (by assumption) (by first | with_reducible assumption | assumption | exact rfl) ?_)
  | (refine nm_loc (Gn.F (by assumption)) (by first | with_reducible assumption | assumption | exact rfl) ?_)
  | (refine nm_glob (Gn.F (by assumption)) (by k_is) ?_)
  | (refine nm_built (Gn.F (by assumption)) (by k_is) (by boot_by_name) ?_)
  | (refine nm_glob (by assumption) (by k_is) ?_)
  | (refine nm_built (by assumption) (by k_is) (by boot_by_name) ?_))
local macro_rules | `(tactic| walk_at "callWith ref") => `(tactic| first
  | (refine callWith_K0 (Gd.K (Fx.gd (by assumption))) (by k_is) ?_)
  | (refine callWith_K (Gd.K (Fx.gd (by assumption))) (by k_is) ?_)
  | (refine callWith_K0 (Gd.K (Gn.gd (by assumption))) (by k_is) ?_)
  | (refine callWith_K (Gd.K (Gn.gd (by assumption))) (by k_is) ?_))
local macro_rules | `(tactic| walk_at "And") => `(tactic| first
  | ((with_reducible show Frag.In _ _ ∧ _); refine ⟨Gd.K (Fx.gd (by assumption)), ?_⟩; try dsimp only [List.nil_append, List.cons_append])
  | ((with_reducible show Frag.In _ _ ∧ _); refine ⟨Gd.K (Gn.gd (by assumption)), ?_⟩; try dsimp only [List.nil_append, List.cons_append]))
local macro_rules | `(tactic| walk_at "room") => `(tactic| (simp only [over_u, over_d, overL_u, overL_d, overB_u, overB_d, Around.deeper, Around.in1, Around.mark]; omega))
local macro_rules | `(tactic| walk_at "nat") => `(tactic| first | omega | (show @Ne Nat _ _; omega) | (show @LE.le Nat _ _ _; omega) | (show @LT.lt Nat _ _ _; omega) | (show @Eq Nat _ _ → False; omega))

theorem pr6 (n : Int) : 0 ≤ (pr 6 n).1 ∧ (pr 6 n).1 < 6 ∧ 0 ≤ (pr 6 n).2 ∧ (pr 6 n).2 < 6 :=
  ⟨Int.fmod_nonneg_of_pos n (by decide), Int.fmod_lt_of_pos n (by decide), Int.fmod_nonneg_of_pos _ (by decide), Int.fmod_lt_of_pos _ (by decide)⟩
theorem law_rest {base : Heap} {L fa D0 : Addr} {cd : Value} {ws : List Value} {ns : List Int} {o1 o2 : Obj} {k : Nat} {Q : Flow → Shared → Prop} (F : Fr base L s.heap m) (hm : m "numbers" = some (.ref D0)) (Gb : Gd w base) (hD0 : s.heap.get? D0 = some { cls := .type "list", data := .seq ws.toArray k }) (D0L : D0 ≠ L) (hI : IntsAre ws ns) (hn : ns.length = 6)
    (h1 : s.heap.get? (L + 1) = some o1) (hc1 : o1.data = .cell none) (h2 : s.heap.get? (L + 2) = some o2) (hc2 : o2.data = .cell none) (n1 : D0 ≠ L + 1) (n2 : D0 ≠ L + 2) (hbL : base.objs.size = L)
    (hQ : ∀ s', base.StaysIn s'.heap → s'.os = s.os → (AllBare s.gens → AllBare s'.gens) → Q (.ret (.bool true)) s') :
    wpAny (model prog w) (callerA.deeper (lawE L fa cd)) (execs (lawD.body.drop 1) (lawE L fa cd)) Q E s := by
  obtain ⟨g0, hg0⟩ : ∃ g0 : PM, g0 = PM.ins (fun _ => none) D0 { cls := .type "list", data := .seq ws.toArray k } := ⟨_, rfl⟩
  have e0 : g0 D0 = some { cls := .type "list", data := .seq ws.toArray k } := by rw [hg0]; exact PM.ins_self _ _ _
  have e1 : ∀ b, b ≠ D0 → g0 b = none := fun b hb => by rw [hg0]; exact PM.ins_ne _ _ hb
  have on0 : g0.on s.heap := by
    intro b o e
    by_cases q : b = D0
    · rw [q, e0] at e; cases e; rw [q]; exact hD0
    · rw [e1 b q] at e; cases e
  have F0 : Fx w base g0 L s.heap m := ⟨F.ns, on0, e1 L (Ne.symm D0L), F.keep, F.above, Gb⟩
  have L0 : LstAt g0 D0 ws := ⟨_, e0, rfl, _, rfl⟩
  have g01 := e1 (L + 1) (Ne.symm n1)
  have g02 := e1 (L + 2) (Ne.symm n2)
  have c1 : s.heap.IsCell (L + 1) none := ⟨o1, h1, hc1⟩
  have c2 : s.heap.IsCell (L + 2) none := ⟨o2, h2, hc2⟩
  have l2 : L + 2 < s.heap.objs.size := c2.lt
  have n12 : @Ne Nat (L + 2) (L + 1) := by omega
  clear hg0 e0 e1 on0 F
  have lf : ((ns.take 3).map (pr 3)).length = 3 := by rw [List.length_map, List.length_take]; omega
  have la : ((ns.drop 3).map (pr 6)).length = 3 := by rw [List.length_map, List.length_drop]; omega
  have hp : ∀ a ∈ (ns.drop 3).map (pr 6), 0 ≤ a.1 ∧ a.1 < 6 ∧ 0 ≤ a.2 ∧ a.2 < 6 := fun a h => by
    obtain ⟨n, _, rfl⟩ := List.mem_map.mp h
    exact pr6 n
  refine law_s2 F0 L0 hm hI hn c1 g01 hbL fun g1 s1 Df fv t1 F1 le1 C1 Lf1 FA1 ht1 _ eq1 sl1 os1 ba1 => ?_
  have c2' : s1.heap.IsCell (L + 2) none := by
    obtain ⟨sl, e⟩ := sl1 (L + 2) o2 l2 n12 h2
    exact ⟨_, e, hc2⟩
  refine law_s3 F1 (L0.le le1) hm hI hn c2' ((eq1 _ l2 n12).trans g02) hbL fun g2 s2 Da av t2 F2 le2 C2 La2 FA2 ht2 tk2 eq2 sl2 os2 ba2 => ?_
  generalize hfs : (ns.take 3).map (pr 3) = fs at lf FA1
  generalize has : (ns.drop 3).map (pr 6) = as at la hp FA2
  refine law_s4 F2 C2 La2 FA2 la hp fun g3 s3 Dq qv F3 le3 Lq3 Qs3 tk3 os3 ba3 => ?_
  have C0 : Cor [] [none, none, none] := ⟨rfl, fun k hk => by
    have : Sub.get [] (k : Int) = none := rfl
    rw [this]
    rcases k with _ | _ | _ | k
    · rfl
    · rfl
    · rfl
    · omega⟩
  obtain ⟨rs, hrs, hcor⟩ := fnd_ok fs as hp C0
  have hrl : rs.length ≤ 1000 := by
    rw [hcor.len]
    have := vfnd_len lf as [none, none, none]
    rw [la] at this
    omega
  have tt : t1 ≤ s2.toks := Nat.le_trans ht1 tk2
  refine law_s5 (N := 9) (rv := rvf) F3 (if_pos rfl) ((C1.le le2).le le3) Lq3 ((Lf1.le le2).le le3) (by omega) (by rw [Qs3.len]; omega) (by rw [FA1.pairs.len]; omega) (by rw [List.length_map]; omega) (qok_of tt (FA1.le (le2.trans le3) (Nat.le_refl _)) Qs3 hp) hrs hrl hcor.rv fun g4 s4 Dt tv F4 le4 Lt4 RT4 os4 ba4 => ?_
  have le14 := le2.trans (le3.trans le4)
  have le24 := le3.trans le4
  refine law_s6 F4 (C1.le le14) (C2.le le24) (La2.le le24) (Lf1.le le14) (FA2.pairs.le le24) (FA1.pairs.le le14) la lf hp fun g5 s5 Dr rv F5 le5 Lr5 VR5 os5 ba5 => ?_
  obtain ⟨a1, a2, a3, rfl⟩ : ∃ a1 a2 a3, as = [a1, a2, a3] := by
    rcases as with _ | ⟨a1, _ | ⟨a2, _ | ⟨a3, _ | ⟨a4, as⟩⟩⟩⟩ <;> simp at la
    exact ⟨a1, a2, a3, rfl⟩
  refine law_s7 F5 ((if_neg (by decide)).trans (if_pos rfl)) (if_pos rfl) (Lt4.le le5) Lr5 (RT4.le le5) VR5 ?_ ?_ ?_ fun s6 st6 os6 ba6 => ?_
  · rw [VR5.len]
    refine Nat.le_trans (flat_len (c := 9) (fun i => Nat.le_trans (flat_len (c := 3) (fun j => by rw [List.length_map, List.length_range]; exact Nat.le_refl _) 3) (by decide)) 3) (by decide)
  · intro V hV
    obtain ⟨i, _, hV⟩ := List.mem_flatMap.mp hV
    obtain ⟨j, _, hV⟩ := List.mem_flatMap.mp hV
    obtain ⟨k, _, hV⟩ := List.mem_map.mp hV
    exact putR_len hV
  · rw [rows_eq hcor, rows_vfnd lf]
  · exact hQ s6 st6 (os6.trans (os5.trans (os4.trans (os3.trans (os2.trans os1))))) (fun b => ba6 (ba5 (ba4 (ba3 (ba2 (ba1 b))))))
end

end Mine
end
section
open PySem PySem.W PyProof.Rows PySem.Calls
set_option Elab.async false
set_option maxRecDepth 100000
set_option maxHeartbeats 8000000
namespace Mine
set_option pp.maxSteps 1500
theorem law_good {c : ClaimW} {cl : Str → Option Addr} {mean : ExcName → Option Value} {args : List WData} {s₁ s' : Shared} (hr : ∀ cls, c.raises args cls = false) (hp : c.post args (.bool true) args = true) (st : s₁.heap.StaysIn s'.heap) (eo : s'.os = s₁.os) (hb : AllBare s'.gens) :
    GoodWG c cl mean args s₁ (.ok (.ret (.bool true))) s' :=
  ⟨.inl ⟨_, _, [], rfl, hr, ReadsW.bool true, hp, fun _ => ⟨List.nodup_nil, fun _ hm => (nomatch hm)⟩⟩, .of_keep st, eo, hb⟩
theorem six {xs : List Int} : (xs.take 6 ++ List.drop ((xs.take 6).length : Int).toNat [3, 1, 5, 6, 13, 26]).length = 6 := by
  rw [List.length_append, List.length_drop, List.length_take]
  simp only [List.length_cons, List.length_nil]
  omega
end Mine
open Mine
theorem PySem.Challenge.cw_fe0181_02_holds : PySem.Challenge.rw_fe0181_02.Holds := by
  refine hd2 ?_
  k_fill
  intro w s₀ s₁ mg mb G Y fa o pm cd doc dV kV ho hd hcd hD hmg hg args vals as hpre hlay hrd hwl hlo
  have KX := kIn_of Y
  have X := (Ground.X G).1
  have V := (Ground.X G).2
  try w_nolog (first | (have GL := glob_more (Ground.glob G (by first | k_qdec | decide +kernel) (by first | k_qdec | decide +kernel)) V) | (have GL := glob_more (Ground.glob G (by decide +kernel)) V))
  refine Ground.open G ?_
  intro T B D TE TW
  try (refine guard_noD D (by decide +kernel) ?_; clear D)
  obtain ⟨_, _, M⟩ := bmod_of_top T
  have TA := at_of_top T
  try (obtain ⟨_, _, he, B0⟩ := based_of_top T rfl hmg ho hd; have he' : cd = _ := he; subst he'; clear he)
  clear hmg
  wrow_args hpre hlay hrd hwl hlo
  all_goals (
    first | refine callC_kw (enter_call ?_) | refine enter_call ?_ | refine callC_kw (enter_callW ?_) | refine enter_callW ?_ | w_how
    w_top on
    have K0 := below_caller (Top.heap T)
    w_call any ho hd hcd hD T F
    clear hd TA
    k_drop
    skip)
  all_goals try k_fold
  iterate 58 walk1
  rename Fr _ _ _ _ => F9
  rename News _ _ _ _ => N9
  rename IntsAre _ (_ ++ _) => I9
  have c9a := N9 _ (.tail _ (.tail _ (.tail _ (.tail _ (.tail _ (.head _))))))
  have c9b := N9 _ (.tail _ (.tail _ (.tail _ (.tail _ (.tail _ (.tail _ (.head _)))))))
  have c9d := N9 _ (.head _)
  have Gb : Gd w s₁.heap := ⟨KX, _, _, mg, mb, topRead_of T⟩
  refine law_rest F9 (if_pos rfl) Gb c9d.1 c9d.2.1 I9 six c9b.1 ?_ c9a.1 ?_ ?_ ?_ rfl ?_
  · assumption
  · assumption
  · show @Ne Nat _ _
    omega
  · show @Ne Nat _ _
    omega
  · intro s' st eo ba
    exact law_good (fun _ => rfl) (by first | rfl | wrow_post) st eo (ba (.of_eq hg))
end
