import PyProof.Rows.All
import Wide.All
import OpenK.AllK
import Wide.FinOn
import PySem.Challenge.RW_fe0250_01
set_option Elab.async false
section
open PySem PySem.W PyProof.Rows
set_option Elab.async false
set_option maxRecDepth 100000
set_option maxHeartbeats 8000000
namespace Mine
open_top hd for PySem.Challenge.rw_fe0250_01
end Mine
end
section
open PySem PySem.W PyProof.Rows PySem.Calls
set_option Elab.async false
set_option maxRecDepth 100000
set_option maxHeartbeats 8000000
namespace Mine
abbrev pg : Program := PySem.Challenge.pw_fe0250_01
noncomputable abbrev KK (w : World) : Frag := hd.heap_39 w.params
abbrev MM (w : World) : Model := model pg w

/-- what stands of the text's own objects at every heap -/
structure Wd (w : World) (h : Heap) : Prop where
  X : (KK w).In h
  B : ∃ mb : Str → Option Value, h.Ns builtinsNs mb ∧ ∀ x : Str, x ≠ "__name__" → mb x = bootBuiltins x
  nolimit : h.NoLimit
theorem Wd.keeps {w : World} {h h' : Heap} (W : Wd w h) (k : h.StaysIn h') : Wd w h' :=
  ⟨W.X.keeps k, let ⟨mb, b, e⟩ := W.B; ⟨mb, b.keeps k, e⟩, W.nolimit.keeps k⟩

noncomputable def fdOf (w : World) (f : Addr) : FuncData := match (KK w).lookup f with
  | some ⟨_, _, .func fd, _⟩ => fd
  | _ => default

def lkp : List Str → List (Option Value) → Str → Option Value
  | n :: ns, v :: vs, x => if n == x then v else lkp ns vs x
  | _, _, _ => none
def at1 : List Str → Nat → Str → Bool
  | n :: _, 0, x => n == x
  | n :: ns, i + 1, x => !(n == x) && at1 ns i x
  | [], _, _ => false
theorem lkp_at : ∀ {ns : List Str} {i : Nat} {x : Str} {vs : List (Option Value)} {v : Value}, at1 ns i x = true → vs[i]? = some (some v) → lkp ns vs x = some v
  | n :: ns, 0, x, v' :: vs, v, h, e => by
    simp only [at1] at h
    simp only [lkp, h, if_true]
    simpa using e
  | n :: ns, i + 1, x, v' :: vs, v, h, e => by
    simp only [at1, Bool.and_eq_true, Bool.not_eq_true'] at h
    simp only [lkp, h.1, Bool.false_eq_true, if_false]
    exact lkp_at h.2 (by simpa using e)
  | n :: ns, 0, x, [], v, h, e => by simp at e
  | n :: ns, i + 1, x, [], v, h, e => by simp at e
  | [], _, _, _, _, h, _ => by simp [at1] at h
theorem lkp_set : ∀ {ns : List Str} {i : Nat} {x : Str} {vs : List (Option Value)} {v : Value}, at1 ns i x = true → i < vs.length → ns.Nodup → (fun y => if y = x then some v else lkp ns vs y) = lkp ns (vs.set i (some v))
  | n :: ns, 0, x, v' :: vs, v, h, _, _ => by
    funext y
    simp only [at1, beq_iff_eq] at h
    subst h
    simp only [List.set_cons_zero, lkp]
    by_cases q : y = n
    · subst q; simp
    · have : (n == y) = false := beq_eq_false_iff_ne.mpr fun e => q e.symm
      simp [q, this]
  | n :: ns, i + 1, x, v' :: vs, v, h, hl, nd => by
    funext y
    simp only [at1, Bool.and_eq_true, Bool.not_eq_true', beq_eq_false_iff_ne] at h
    simp only [List.set_cons_succ, lkp]
    have ih := congrFun (lkp_set (ns := ns) (vs := vs) (v := v) h.2 (by simpa using hl) (List.nodup_cons.mp nd).2) y
    by_cases q : n == y
    · have : y ≠ x := fun e => h.1 ((beq_iff_eq.mp q).trans e)
      simp [q, this]
    · simp only [q, Bool.false_eq_true, if_false]
      exact ih
  | [], _, _, _, _, h, _, _ => by simp [at1] at h
  | _ :: _, 0, _, [], _, _, hl, _ => by simp at hl
  | _ :: _, _ + 1, _, [], _, _, hl, _ => by simp at hl

/-- the state of a frame: its locals, its ledger, the world behind it -/
structure St (w : World) (h₀ : Heap) (L : Addr) (h : Heap) (ns : List Str) (vs : List (Option Value)) (nw : List (Addr × Obj)) : Prop where
  F : h.Ns L (lkp ns vs)
  keep : h₀.StaysIn h
  off : h₀.get? L = none
  N : News h₀ L h nw
  W : Wd w h₀
section
variable {w : World} {h₀ h h' : Heap} {L : Addr} {ns : List Str} {vs : List (Option Value)} {nw : List (Addr × Obj)}
theorem St.stays (S : St w h₀ L h ns vs nw) : h₀.StaysIn h := S.keep
theorem St.world (S : St w h₀ L h ns vs nw) : Wd w h := S.W.keeps S.keep
theorem St.keeps (S : St w h₀ L h ns vs nw) (k : h.StaysIn h') : St w h₀ L h' ns vs nw :=
  ⟨S.F.keeps k, fun b o e => k _ _ (S.keep b o e), S.off, fun p hp => ⟨k _ _ (S.N p hp).1, (S.N p hp).2⟩, S.W⟩
theorem St.add (S : St w h₀ L h ns vs nw) {a : Addr} {o : Obj} (ha : h.get? a = some o) (hL : a ≠ L) (hn : h₀.get? a = none) : St w h₀ L h ns vs ((a, o) :: nw) :=
  ⟨S.F, S.keep, S.off, fun p hp => by rcases List.mem_cons.mp hp with rfl | hp <;> first | exact ⟨ha, hL, hn⟩ | exact S.N p hp, S.W⟩
theorem St.at (S : St w h₀ L h ns vs nw) {a : Addr} {o : Obj} (m : (a, o) ∈ nw) : h.get? a = some o := (S.N _ m).1
theorem St.ltL (S : St w h₀ L h ns vs nw) : L < h.objs.size := S.F.lt
/-- an address that the heap does not bear yet -/
theorem St.newL (S : St w h₀ L h ns vs nw) : h.objs.size ≠ L := Nat.ne_of_gt S.F.lt
theorem get_size (h : Heap) : h.get? h.objs.size = none := by
  cases q : h.get? h.objs.size with
  | none => rfl
  | some o => exact absurd (Heap.lt_size q) (Nat.lt_irrefl _)
theorem St.new0 (S : St w h₀ L h ns vs nw) : h₀.get? h.objs.size = none := by
  cases q : h₀.get? h.objs.size with
  | none => rfl
  | some o => exact absurd (Heap.lt_size (S.keep _ _ q)) (Nat.lt_irrefl _)
theorem St.set (S : St w h₀ L h ns vs nw) {vs' : List (Option Value)} (hn : h'.Ns L (lkp ns vs')) (hs : Heap.SameBut L h h') : St w h₀ L h' ns vs' nw :=
  ⟨hn, fun b o e => (hs.2 b (fun q => by rw [q, S.off] at e; cases e)).trans (S.keep b o e), S.off, S.N.set hs, S.W⟩
theorem St.keepsBut {I : Addr} (S : St w h₀ L h ns vs nw) (k : ∀ b o, b ≠ I → h.get? b = some o → h'.get? b = some o)
    (hL : L ≠ I) (h0 : h₀.get? I = none) (hn : ∀ p ∈ nw, p.1 ≠ I) : St w h₀ L h' ns vs nw := by
  obtain ⟨o, es, ep, ho, r⟩ := S.F
  exact ⟨⟨o, es, ep, k _ _ hL ho, r⟩, fun b o e => k _ _ (fun q => by rw [q, h0] at e; cases e) (S.keep b o e), S.off, fun p hp => ⟨k _ _ (hn p hp) (S.N p hp).1, (S.N p hp).2⟩, S.W⟩
/-- all that stands but the locals and the ledger becomes the base -/
theorem St.rebase (S : St w h₀ L h ns vs nw) : St w (hideAll h (L :: nw.map (·.1))) L h ns vs nw := by
  refine ⟨S.F, fun b o e => of_hideAll _ e, hideAll_none _ (.head _), fun p hp => ⟨(S.N p hp).1, (S.N p hp).2.1, hideAll_none _ (.tail _ (List.mem_map_of_mem hp))⟩, S.W.keeps fun b o e => hideAll_get _ (S.keep b o e) ?_⟩
  intro q
  rcases List.mem_cons.mp q with rfl | q
  · rw [S.off] at e; cases e
  · obtain ⟨p, hp, rfl⟩ := List.mem_map.mp q
    rw [(S.N p hp).2.2] at e; cases e
/-- what was the base stands in the new base -/
theorem St.rebased (S : St w h₀ L h ns vs nw) : h₀.StaysIn (hideAll h (L :: nw.map (·.1))) := fun b o e => hideAll_get _ (S.keep b o e) (by
  intro q
  rcases List.mem_cons.mp q with rfl | q
  · rw [S.off] at e; cases e
  · obtain ⟨p, hp, rfl⟩ := List.mem_map.mp q
    rw [(S.N p hp).2.2] at e; cases e)
end

/-- the logic's judgement, shut: the elaborator does not look into it -/
structure WP {α : Type} (w : World) (A : Around) (t : Sem α) (Q : α → Shared → Prop) (E : Value → Shared → Prop) (s : Shared) : Prop where
  out : wpAny (MM w) A t Q E s
section
variable {α β : Type} {w : World} {A : Around} {E : Value → Shared → Prop} {s : Shared}
theorem WP.mono {t : Sem α} {Q Q' : α → Shared → Prop} {E' : Value → Shared → Prop} (h : WP w A t Q E s) (hQ : ∀ a s, Q a s → Q' a s) (hE : ∀ e s, E e s → E' e s) : WP w A t Q' E' s := ⟨wpAny_mono h.out hQ hE⟩
theorem WP.monoQ {t : Sem α} {Q Q' : α → Shared → Prop} (h : WP w A t Q E s) (hQ : ∀ a s, Q a s → Q' a s) : WP w A t Q' E s := ⟨wpAny_mono h.out hQ fun _ _ x => x⟩
theorem WP.to {t : Sem α} {Q Q' : α → Shared → Prop} (h : WP w A t Q E s) (hQ : ∀ a s, Q a s → Q' a s) : wpAny (MM w) A t Q' E s := wpAny_mono h.out hQ fun _ _ x => x
theorem WP.bind {m : Sem α} {f : α → Sem β} {Q : β → Shared → Prop} (h : WP w A m (fun a s' => WP w A (f a) Q E s') E s) : WP w A (m >>= f) Q E s := ⟨wpAny_bind (h.to fun _ _ x => x.out)⟩
theorem WP.pure {a : α} {Q : α → Shared → Prop} (h : Q a s) : WP w A (Pure.pure a) Q E s := ⟨wpAny_pure h⟩
end

/-- a callee whose keeper is known wherever the world stands -/
def Kept (w : World) (f : Value) : Prop := ∀ h, Wd w h → ∃ k, (k = Keeper.frame ∨ k = Keeper.machine ∨ k = Keeper.boundFrame) ∧ Looks (MM w) h (keeperOf f) k
theorem kept_builtin {w : World} {id : String} : Kept w (.builtin id) := fun _ _ => ⟨.machine, .inr (.inl rfl), Looks.of_pure rfl⟩
theorem kept_type {w : World} {id : String} : Kept w (.type id) := fun _ _ => ⟨.machine, .inr (.inl rfl), Looks.of_pure rfl⟩
theorem kept_K {w : World} {f : Value} (hk : keepIn (KK w) f = true) : Kept w f := fun h W => keeps_K hk h W.X

section
variable {w : World} {A : Around} {E : Value → Shared → Prop} {h₀ h : Heap} {g : Array GenState} {d : Drawn} {t : Nat} {os : OsState} {env : Env} {L : Addr} {ns : List Str} {vs : List (Option Value)} {nw : List (Addr × Obj)}

theorem r_name {x : Str} {pos : Pos} {v : Value} {Q : Value → Shared → Prop} (S : St w h₀ L h ns vs nw) (i : Nat)
    (hx : at1 ns i x = true := by kernel_rfl) (hv : vs[i]? = some (some v) := by rfl) (q : Q v ⟨h, g, d, t, os⟩)
    (hk : env.scope.kind = .function := by kernel_rfl) (hL : env.locals = L := by rfl)
    (hl : env.kindOf x = some .local := by kernel_rfl) (hd : (x == ("__debug__" : Str)) = false := by kernel_rfl) :
    WP w A (eval (.Name x pos) env) Q E ⟨h, g, d, t, os⟩ :=
  ⟨wpAny_Name (wpAny_loadName_local hk hl (hL ▸ S.F) (lkp_at hx hv) q) hd⟩

theorem r_load {x : Str} {v : Value} {Q : Value → Shared → Prop} (S : St w h₀ L h ns vs nw) (i : Nat)
    (hx : at1 ns i x = true := by kernel_rfl) (hv : vs[i]? = some (some v) := by rfl) (q : Q v ⟨h, g, d, t, os⟩)
    (hk : env.scope.kind = .function := by kernel_rfl) (hL : env.locals = L := by rfl)
    (hl : env.kindOf x = some .local := by kernel_rfl) :
    WP w A (loadName env x) Q E ⟨h, g, d, t, os⟩ :=
  ⟨wpAny_loadName_local hk hl (hL ▸ S.F) (lkp_at hx hv) q⟩

theorem r_store {x : Str} {v : Value} {Q : Unit → Shared → Prop} (S : St w h₀ L h ns vs nw) (i : Nat)
    (hx : at1 ns i x = true := by kernel_rfl) (hi : i < vs.length := by decide)
    (q : ∀ h' t', St w h₀ L h' ns (vs.set i (some v)) nw → Q () ⟨h', g, d, t', os⟩)
    (hk : env.scope.kind = .function := by kernel_rfl) (hL : env.locals = L := by rfl)
    (hl : env.kindOf x = some .local := by kernel_rfl) (hnd : ns.Nodup := by decide +kernel) :
    WP w A (storeName env x v) Q E ⟨h, g, d, t, os⟩ := by
  subst hL
  refine ⟨wpAny_storeName_local hl S.F (fun h' hn hs => ?_) (by rw [hk]; rfl)⟩
  rw [lkp_set hx hi hnd] at hn
  exact q h' _ (S.set hn hs)

/-- a global name of the text -/
theorem r_glob {x : Str} {pos : Pos} {v : Value} {Q : Value → Shared → Prop} (S : St w h₀ L h ns vs nw)
    (e : nsIn (KK w) mainGlobals x = some (some v)) (q : Q v ⟨h, g, d, t, os⟩)
    (hk : env.scope.kind = .function := by kernel_rfl) (hg : env.globals = mainGlobals := by kernel_rfl)
    (hl : env.kindOf x = some .globalImplicit := by kernel_rfl) (hd : (x == ("__debug__" : Str)) = false := by kernel_rfl) :
    WP w A (eval (.Name x pos) env) Q E ⟨h, g, d, t, os⟩ := by
  refine ⟨wpAny_Name ?_ hd⟩
  have hb : env.blockKind = .function := by unfold Env.blockKind; rw [hk]; rfl
  have ha : (env.scope.kind.isAnnotationScope) = false := by rw [hk]; rfl
  unfold loadName
  simp only [ha, Bool.false_and, Bool.false_eq_true, if_false, hb, hl]
  show wpAny _ _ (loadGlobal env x) _ _ _
  unfold loadGlobal
  rw [hg]
  refine wpAny_bind ((looks_nsIn S.world.X e).here ?_)
  exact wpAny_pure q

/-- a built-in's name -/
theorem r_boot {x : Str} {pos : Pos} {v : Value} {Q : Value → Shared → Prop} (S : St w h₀ L h ns vs nw)
    (e : nsIn (KK w) mainGlobals x = some none ∧ bootBuiltins x = some v ∧ x ≠ "__name__") (q : Q v ⟨h, g, d, t, os⟩)
    (hk : env.scope.kind = .function := by kernel_rfl) (hg : env.globals = mainGlobals := by kernel_rfl) (hbb : env.builtins = builtinsNs := by kernel_rfl)
    (hl : env.kindOf x = some .globalImplicit := by kernel_rfl) (hd : (x == ("__debug__" : Str)) = false := by kernel_rfl) :
    WP w A (eval (.Name x pos) env) Q E ⟨h, g, d, t, os⟩ := by
  obtain ⟨e, eb, hx⟩ := e
  refine ⟨wpAny_Name ?_ hd⟩
  have hb : env.blockKind = .function := by unfold Env.blockKind; rw [hk]; rfl
  have ha : (env.scope.kind.isAnnotationScope) = false := by rw [hk]; rfl
  unfold loadName
  simp only [ha, Bool.false_and, Bool.false_eq_true, if_false, hb, hl]
  show wpAny _ _ (loadGlobal env x) _ _ _
  unfold loadGlobal
  rw [hg, hbb]
  refine wpAny_bind ((looks_nsIn S.world.X e).here ?_)
  obtain ⟨mb, hn, hm⟩ := S.world.B
  refine wpAny_bind (wpAny_nsGet hn ?_)
  rw [hm x hx, eb]
  exact wpAny_pure q

theorem r_cstr {x : Str} {k : Nat} {pos : Pos} {Q : Value → Shared → Prop} (q : ∀ t' k', Q (.str x t') ⟨h, g, d, k', os⟩) :
    WP w A (eval (.Constant (.str x) k pos) env) Q E ⟨h, g, d, t, os⟩ := ⟨fun _ _ _ => q _ _⟩
theorem r_cint {x : Int} {k : Nat} {pos : Pos} {Q : Value → Shared → Prop} (q : ∀ t' k', Q (.int x t') ⟨h, g, d, k', os⟩) :
    WP w A (eval (.Constant (.int x) k pos) env) Q E ⟨h, g, d, t, os⟩ := ⟨fun _ _ _ => q _ _⟩
theorem r_cbool {x : Bool} {k : Nat} {pos : Pos} {Q : Value → Shared → Prop} {s : Shared} (q : Q (.bool x) s) :
    WP w A (eval (.Constant (.bool x) k pos) env) Q E s := ⟨fun _ _ _ => q⟩
theorem r_cnone {k : Nat} {pos : Pos} {Q : Value → Shared → Prop} {s : Shared} (q : Q .none s) :
    WP w A (eval (.Constant .none k pos) env) Q E s := ⟨fun _ _ _ => q⟩
end

section
variable {w : World} {A : Around} {E : Value → Shared → Prop} {s : Shared} {env : Env} {pos : Pos}
theorem r_nil {Q : Flow → Shared → Prop} (h : Q .next s) : WP w A (execs [] env) Q E s := ⟨wpAny_execs_nil h⟩
theorem r_cons {st : Stmt} {rest : List Stmt} {Q : Flow → Shared → Prop}
    (h : WP w A (exec st env) (fun f s' => match f with | .next => WP w A (execs rest env) Q E s' | f => Q f s') E s) : WP w A (execs (st :: rest) env) Q E s :=
  ⟨wpAny_execs_cons (h.to fun f s' x => by cases f <;> first | exact x.out | exact x)⟩
theorem r_ret {e : Expr} {Q : Flow → Shared → Prop} (h : WP w A (eval e env) (fun v => Q (.ret v)) E s) : WP w A (exec (.Return (some e) pos) env) Q E s := ⟨wpAny_Return_some h.out⟩
theorem r_asg {x : Str} {pos' : Pos} {value : Expr} {Q : Flow → Shared → Prop} (h : WP w A (eval value env) (fun v s₁ => WP w A (storeName env x v) (fun _ => Q .next) E s₁) E s)
    (hs : swapsWith value (some (.Name x pos')) pos.line env = pure false := by rfl) : WP w A (exec (.Assign [.Name x pos'] value pos) env) Q E s :=
  ⟨wpAny_Assign_Name (h.to fun _ _ x => x.out) hs⟩
theorem r_if {test : Expr} {body orelse : List Stmt} {Q : Flow → Shared → Prop}
    (h : WP w A (isTrue test env (eval test env)) (fun b s₂ => if b then WP w A (execs body env) Q E s₂ else WP w A (execs orelse env) Q E s₂) E s) :
    WP w A (exec (.If test body orelse pos) env) Q E s :=
  ⟨wpAny_If (h.to fun b _ x => by cases b <;> exact x.out)⟩
theorem r_expr {e : Expr} {Q : Flow → Shared → Prop} (h : WP w A (eval e env) (fun v s' => match v with | .ref _ => False | _ => Q .next s') E s)
    (hi : interactive env = false := by rfl) (hs : swapsWith e none pos.line env = pure false := by rfl) : WP w A (exec (.Expr e pos) env) Q E s :=
  ⟨wpAny_Expr h.out hi hs⟩
theorem r_aug {x : Str} {pos' : Pos} {op : Operator} {value : Expr} {Q : Flow → Shared → Prop}
    (h : WP w A (loadName env x) (fun old s₁ => WP w A (eval value env) (fun v s₂ => WP w A (inplaceOp op old v) (fun r s₃ => WP w A (storeName env x r) (fun _ => Q .next) E s₃) E s₂) E s₁) E s) :
    WP w A (exec (.AugAssign (.Name x pos') op value pos) env) Q E s :=
  ⟨wpAny_AugAssign_Name (h.to fun _ _ x => x.to fun _ _ x => x.to fun _ _ x => x.out)⟩
theorem r_bin {l r : Expr} {op : Operator} {Q : Value → Shared → Prop}
    (h : WP w A (eval l env) (fun a s₁ => WP w A (eval r env) (fun b s₂ => WP w A (binaryOp op a b) Q E s₂) E s₁) E s) : WP w A (eval (.BinOp l op r pos) env) Q E s :=
  ⟨wpAny_BinOp (h.to fun _ _ x => x.to fun _ _ x => x.out)⟩
theorem r_cmp {l r : Expr} {op : CmpOp} {Q : Value → Shared → Prop}
    (h : WP w A (eval l env) (fun a s₁ => WP w A (eval r env) (fun b s₂ => WP w A (compareOp op a b) Q E s₂) E s₁) E s)
    (hm : behindInMarks op r = false := by rfl) : WP w A (eval (.Compare l [op] [r] pos) env) Q E s :=
  ⟨wpAny_Compare1 (h.to fun _ _ x => x.to fun _ _ x => x.out) hm⟩
theorem r_not {e : Expr} {Q : Value → Shared → Prop} (h : WP w A (eval e env) (fun v s₁ => WP w A (truthy v) (fun c s' => Q (.bool (!c)) s') E s₁) E s) :
    WP w A (eval (.UnaryOp .Not e pos) env) Q E s := ⟨UnaryOp_ (h.to fun _ _ x => not_of x.out)⟩
theorem r_ifexp {test body orelse : Expr} {Q : Value → Shared → Prop}
    (h : WP w A (isTrue test env (eval test env)) (fun c s₂ => if c then WP w A (eval body env) Q E s₂ else WP w A (eval orelse env) Q E s₂) E s) :
    WP w A (eval (.IfExp test body orelse pos) env) Q E s := ⟨IfExp_ (h.to fun c _ x => by cases c <;> exact x.out)⟩
theorem r_one {op : BoolOp} {e : Expr} {Q : Value → Shared → Prop} (h : WP w A (eval e env) Q E s) : WP w A (eval (.BoolOp op [e] pos) env) Q E s := ⟨BoolOp_one h.out⟩
theorem r_and {e₁ e₂ : Expr} {rest : List Expr} {Q : Value → Shared → Prop}
    (h : WP w A (eval e₁ env) (fun v s₁ => WP w A (truthy v) (fun c s₂ => if c then WP w A (eval (.BoolOp .And (e₂ :: rest) pos) env) Q E s₂ else Q v s₂) E s₁) E s) :
    WP w A (eval (.BoolOp .And (e₁ :: e₂ :: rest) pos) env) Q E s := ⟨BoolOp_and (h.to fun _ _ x => x.to fun c _ x => by cases c; exact x; exact x.out)⟩
theorem r_or {e₁ e₂ : Expr} {rest : List Expr} {Q : Value → Shared → Prop}
    (h : WP w A (eval e₁ env) (fun v s₁ => WP w A (truthy v) (fun c s₂ => if c then Q v s₂ else WP w A (eval (.BoolOp .Or (e₂ :: rest) pos) env) Q E s₂) E s₁) E s) :
    WP w A (eval (.BoolOp .Or (e₁ :: e₂ :: rest) pos) env) Q E s := ⟨BoolOp_or (h.to fun _ _ x => x.to fun c _ x => by cases c; exact x.out; exact x)⟩
theorem t_not {e : Expr} {whole : Sem Value} {Q : Bool → Shared → Prop} (h : WP w A (isTrue e env (eval e env)) (fun c s' => Q (!c) s') E s) : WP w A (isTrue (.UnaryOp .Not e pos) env whole) Q E s := ⟨isTrue_not h.out⟩
theorem t_and_nil {whole : Sem Value} {Q : Bool → Shared → Prop} (h : Q true s) : WP w A (isTrue (.BoolOp .And [] pos) env whole) Q E s := ⟨isTrue_and_nil h⟩
theorem t_or_nil {whole : Sem Value} {Q : Bool → Shared → Prop} (h : Q false s) : WP w A (isTrue (.BoolOp .Or [] pos) env whole) Q E s := ⟨isTrue_or_nil h⟩
theorem t_and {e : Expr} {rest : List Expr} {whole : Sem Value} {Q : Bool → Shared → Prop}
    (h : WP w A (isTrue e env (eval e env)) (fun c s' => if c then WP w A (isTrue (.BoolOp .And rest pos) env whole) Q E s' else Q false s') E s) :
    WP w A (isTrue (.BoolOp .And (e :: rest) pos) env whole) Q E s := ⟨isTrue_and (h.to fun c _ x => by cases c; exact x; exact x.out)⟩
theorem t_or {e : Expr} {rest : List Expr} {whole : Sem Value} {Q : Bool → Shared → Prop}
    (h : WP w A (isTrue e env (eval e env)) (fun c s' => if c then Q true s' else WP w A (isTrue (.BoolOp .Or rest pos) env whole) Q E s') E s) :
    WP w A (isTrue (.BoolOp .Or (e :: rest) pos) env whole) Q E s := ⟨isTrue_or (h.to fun c _ x => by cases c; exact x.out; exact x)⟩
theorem t_plain {e : Expr} {whole : Sem Value} {Q : Bool → Shared → Prop} (h : WP w A whole (fun v s₁ => WP w A (truthy v) Q E s₁) E s)
    (he : isTrue e env whole = (do let v ← whole; standAt e.pos; holding [v] (truthy v)) := by rfl) : WP w A (isTrue e env whole) Q E s := ⟨isTrue_plain (h.to fun _ _ x => x.out) he⟩
theorem t_cmp {l r : Expr} {op : CmpOp} {whole : Sem Value} {Q : Bool → Shared → Prop}
    (h : WP w A (eval l env) (fun a s₁ => WP w A (eval r env) (fun b s₂ => WP w A (compareOp op a b) (fun c s₃ => WP w A (truthy c) Q E s₃) E s₂) E s₁) E s)
    (hm : behindInMarks op r = false := by rfl) : WP w A (isTrue (.Compare l [op] [r] pos) env whole) Q E s :=
  ⟨wpAny_isTrue_Compare1 (h.to fun _ _ x => x.to fun _ _ x => x.to fun _ _ x => x.out) hm⟩
theorem b_true {b : Bool} {Q : Bool → Shared → Prop} (h : Q b s) : WP w A (truthy (.bool b)) Q E s := ⟨wpAny_truthy_bool h⟩
theorem b_true_none {Q : Bool → Shared → Prop} (h : Q false s) : WP w A (truthy .none) Q E s := ⟨truthy_none h⟩

theorem c_tt {P R : Prop} (h : P) : if true = true then P else R := by rw [if_pos rfl]; exact h
theorem c_ff {P R : Prop} (h : R) : if false = true then P else R := by rw [if_neg Bool.false_ne_true]; exact h
theorem c_t {b : Bool} {P R : Prop} (e : b = true) (h : P) : if b = true then P else R := by rw [if_pos e]; exact h
theorem c_f {b : Bool} {P R : Prop} (e : b = false) (h : R) : if b = true then P else R := by rw [e, if_neg Bool.false_ne_true]; exact h
end

section
variable {w : World} {A : Around} {E : Value → Shared → Prop} {s : Shared} {env : Env} {pos : Pos} {f self : Value} {Q : Value → Shared → Prop}
theorem cw_args {e : Expr} {rest : List Expr} {first : List Value} (K : Kept w f) (hplain : (backTo pos (starEach (e :: rest) env)).any (·.1) = false)
    (h : WP w A (spliced (backTo pos (starEach (e :: rest) env))) (fun vs s₁ => Wd w s₁.heap ∧ WP w A (call f (first ++ vs)) Q E s₁) E s)
    (he : starEach (e :: rest) env = (false, eval e env) :: starEach rest env := by assumption) : WP w A (callWith pos f first (backTo pos (starEach (e :: rest) env)) []) Q E s := by
  rw [he] at h hplain ⊢
  exact ⟨callWith_of (P := Wd w) (by rw [hplain]; rfl) K (evalArgs_plain (h.to fun _ _ x => ⟨x.1, x.2.out⟩))⟩
theorem sp_cons {e : Expr} {rest : List Expr} {Q : List Value → Shared → Prop} (he : starEach (e :: rest) env = (false, eval e env) :: starEach rest env)
    (h : WP w A (eval e env) (fun v s₁ => WP w A (spliced (backTo pos (starEach rest env))) (fun vs s₂ => Q (v :: vs) s₂) E s₁) E s) :
    WP w A (spliced (backTo pos (starEach (e :: rest) env))) Q E s := by
  rw [he]
  exact ⟨Calls.spliced_cons (h.to fun _ _ x => x.out)⟩
theorem sp_nil {Q : List Value → Shared → Prop} (h : Q [] s) : WP w A (spliced (backTo pos (starEach [] env))) Q E s := ⟨Calls.spliced_nil h⟩

theorem cw0 (K : Kept w f) (h : Wd w s.heap ∧ WP w A (call f []) Q E s) : WP w A (callWith pos f [] (backTo pos (starEach [] env)) []) Q E s :=
  ⟨callWith_of (P := Wd w) rfl K (evalArgs_nil3 ⟨h.1, h.2.out⟩)⟩
theorem cw1 {e₁ : Expr} (K : Kept w f) (h : WP w A (eval e₁ env) (fun v₁ s₁ => Wd w s₁.heap ∧ WP w A (call f [v₁]) Q E s₁) E s)
    (he₁ : starEach [e₁] env = (false, eval e₁ env) :: starEach [] env := by rfl) : WP w A (callWith pos f [] (backTo pos (starEach [e₁] env)) []) Q E s :=
  cw_args K (by rw [he₁]; rfl) (sp_cons he₁ (h.monoQ fun _ _ x => sp_nil x))
theorem cw2 {e₁ e₂ : Expr} (K : Kept w f) (h : WP w A (eval e₁ env) (fun v₁ s₁ => WP w A (eval e₂ env) (fun v₂ s₂ => Wd w s₂.heap ∧ WP w A (call f [v₁, v₂]) Q E s₂) E s₁) E s)
    (he₁ : starEach [e₁, e₂] env = (false, eval e₁ env) :: starEach [e₂] env := by rfl) (he₂ : starEach [e₂] env = (false, eval e₂ env) :: starEach [] env := by rfl) :
    WP w A (callWith pos f [] (backTo pos (starEach [e₁, e₂] env)) []) Q E s :=
  cw_args K (by rw [he₁, he₂]; rfl) (sp_cons he₁ (h.monoQ fun _ _ x => sp_cons he₂ (x.monoQ fun _ _ x => sp_nil x)))
theorem cw3 {e₁ e₂ e₃ : Expr} (K : Kept w f) (h : WP w A (eval e₁ env) (fun v₁ s₁ => WP w A (eval e₂ env) (fun v₂ s₂ => WP w A (eval e₃ env) (fun v₃ s₃ => Wd w s₃.heap ∧ WP w A (call f [v₁, v₂, v₃]) Q E s₃) E s₂) E s₁) E s)
    (he₁ : starEach [e₁, e₂, e₃] env = (false, eval e₁ env) :: starEach [e₂, e₃] env := by rfl) (he₂ : starEach [e₂, e₃] env = (false, eval e₂ env) :: starEach [e₃] env := by rfl) (he₃ : starEach [e₃] env = (false, eval e₃ env) :: starEach [] env := by rfl) :
    WP w A (callWith pos f [] (backTo pos (starEach [e₁, e₂, e₃] env)) []) Q E s :=
  cw_args K (by rw [he₁, he₂, he₃]; rfl) (sp_cons he₁ (h.monoQ fun _ _ x => sp_cons he₂ (x.monoQ fun _ _ x => sp_cons he₃ (x.monoQ fun _ _ x => sp_nil x))))
theorem cwm0 (K : Kept w f) (h : Wd w s.heap ∧ WP w A (call f [self]) Q E s) : WP w A (callWith pos f [self] (backTo pos (starEach [] env)) []) Q E s :=
  ⟨callWith_of (P := Wd w) rfl K (evalArgs_nil3 ⟨h.1, h.2.out⟩)⟩
theorem cwm1 {e₁ : Expr} (K : Kept w f) (h : WP w A (eval e₁ env) (fun v₁ s₁ => Wd w s₁.heap ∧ WP w A (call f [self, v₁]) Q E s₁) E s)
    (he₁ : starEach [e₁] env = (false, eval e₁ env) :: starEach [] env := by rfl) : WP w A (callWith pos f [self] (backTo pos (starEach [e₁] env)) []) Q E s :=
  cw_args K (by rw [he₁]; rfl) (sp_cons he₁ (h.monoQ fun _ _ x => sp_nil x))
theorem cwm2 {e₁ e₂ : Expr} (K : Kept w f) (h : WP w A (eval e₁ env) (fun v₁ s₁ => WP w A (eval e₂ env) (fun v₂ s₂ => Wd w s₂.heap ∧ WP w A (call f [self, v₁, v₂]) Q E s₂) E s₁) E s)
    (he₁ : starEach [e₁, e₂] env = (false, eval e₁ env) :: starEach [e₂] env := by rfl) (he₂ : starEach [e₂] env = (false, eval e₂ env) :: starEach [] env := by rfl) :
    WP w A (callWith pos f [self] (backTo pos (starEach [e₁, e₂] env)) []) Q E s :=
  cw_args K (by rw [he₁, he₂]; rfl) (sp_cons he₁ (h.monoQ fun _ _ x => sp_cons he₂ (x.monoQ fun _ _ x => sp_nil x)))

theorem r_call {x : Str} {np : Pos} {args : List Expr}
    (h : WP w A (eval (.Name x np) env) (fun f s₁ => WP w A (callWith pos f [] (backTo pos (starEach args env)) []) Q E s₁) E s) :
    WP w A (eval (.Call (.Name x np) args [] pos) env) Q E s := WP.bind h

/-- a method call: the receiver, the method, the call -/
theorem r_meth {o : Expr} {name : Str} {apos : Pos} {args : List Expr}
    (h : WP w A (eval o env) (fun ov s₁ => WP w A (getMethod ov name (do return (← importBound o env).getD true)) (fun fp s₂ => WP w A (callWith pos fp.1 fp.2 (backTo pos (starEach args env)) []) Q E s₂) E s₁) E s)
    (hbase : attributeBase o name env (eval o env) = eval o env := by rfl)
    (hfew : methodCallForm (args.length + ([] : List Keyword).length) (backTo pos (starEach args env)) (backToKw pos (keywordEach [] env)) = true := by rfl)
    (hline : (apos.endLine == pos.line) = true := by rfl) :
    WP w A (eval (.Call (.Attribute o name apos) args [] pos) env) Q E s := by
  refine ⟨?_⟩
  rw [arm_eval_Call, hbase]
  refine wpAny_bind (h.to fun ov s₁ h₁ => ?_)
  refine wpAny_bind (wpAny_standAt ?_)
  have hpos : methodCallPos true o env apos pos = pure pos := by unfold methodCallPos; simp [hline]
  unfold methodCall
  rw [hfew]
  refine wpAny_bind (wpAny_holding (h₁.to fun fp s₂ h₂ => ?_))
  obtain ⟨f, first⟩ := fp
  exact wpAny_bind (wpAny_of_eq hpos h₂.out)

/-- a str's method -/
theorem m_str {x : Str} {t : Tok} {name : Str} {id : String} {pl : Sem Bool} {Q : Value × List Value → Shared → Prop} (slot : Slot "str" name id)
    (hty : typeOf (.builtin id) = pure (.type "method_descriptor")) (q : Q (.builtin id, [.str x t]) s) : WP w A (getMethod (.str x t) name pl) Q E s :=
  ⟨getMethod_builtin (typeIs_str _ _ _) F.plainAttrs_str slot hty (fun _ e => nomatch e) q⟩
end

section
variable {w : World} {A : Around} {E : Value → Shared → Prop} {h : Heap} {g : Array GenState} {d : Drawn} {t : Nat} {os : OsState} {Q : Value → Shared → Prop}
theorem b_len_str {x : Str} {u : Tok} (hfit : x.length ≤ 16777216) (q : ∀ t' k', Q (.int x.length t') ⟨h, g, d, k', os⟩) : WP w A (call (.builtin "len") [.str x u]) Q E ⟨h, g, d, t, os⟩ :=
  ⟨P.len_str (by omega) (q _ _)⟩
theorem b_eq_int {a b : Int} {u v : Tok} (q : Q (.bool (a == b)) ⟨h, g, d, t, os⟩) : WP w A (compareOp .Eq (.int a u) (.int b v)) Q E ⟨h, g, d, t, os⟩ := ⟨P.eq_int q⟩
theorem b_replace_none {x y z : Str} {tx u v : Tok} (hc : (Builtin.Str.occurrences x y 0 x.length (x.length + 1)).isEmpty = true) (q : Q (.str x tx) ⟨h, g, d, t, os⟩) :
    WP w A (call (.builtin "str.replace") [.str x tx, .str y u, .str z v]) Q E ⟨h, g, d, t, os⟩ := by
  refine ⟨call_gives F.slot_str_replace (typeIs_str _ _ _) F.entry_str_replace (F.args_str_replace_3 _ _ _) (gives_str_replace x y z tx u v fun e => ?_) ?_⟩
  · rw [hc] at e; cases e
  · rw [hc]; exact q
theorem b_isalnum {x : Str} {u : Tok} (q : Q (.bool (Txt.isalnum x)) ⟨h, g, d, t, os⟩) : WP w A (call (.builtin "str.isalnum") [.str x u]) Q E ⟨h, g, d, t, os⟩ := ⟨SC.isalnum q⟩
end

theorem g_wordlike (w : World) : nsIn (KK w) mainGlobals (Str.ofString "wordlike") = some (some (.ref 98)) := by kernel_rfl
theorem n_len (w : World) : nsIn (KK w) mainGlobals (Str.ofString "len") = some none ∧ bootBuiltins (Str.ofString "len") = some (.builtin "len") ∧ Str.ofString "len" ≠ "__name__" := ⟨by kernel_rfl, boot_len, by decide +kernel⟩

/-- a text's def entered: nothing that stands before is touched -/
theorem enterP {w : World} {A : Around} {h : Heap} {g : Array GenState} {d : Drawn} {t : Nat} {os : OsState} {E : Value → Shared → Prop} {Q : Value → Shared → Prop} {f : Addr} {oc : Value} {od : Option Addr} {osl : Array (Option Value)}
    {body : List Stmt} {args : List Value} {kw : List (Str × Value)} {binds : List (Str × Value)} {ns : List Str} {vs : List (Option Value)}
    (W : Wd w h) (hroom : A.depth < recursionLimit)
    (ho : (KK w).lookup f = some ⟨oc, od, .func (fdOf w f), osl⟩) (hcd : codeIn (KK w) (fdOf w f).code (fdOf w f).qualname = true)
    (hbody : (fdOf w f).body = .stmts body) (hbind : bindArgs (fdOf w f) ⟨args, kw⟩ = pure binds)
    (hloc : (binds.all fun y => (fdOf w f).scope.names.lookup y.1 == some .local) = true)
    (hcell : ((fdOf w f).scope.names.all fun x => x.2 != .cell) = true)
    (hvs : ∀ x, binds.reverse.lookup x = lkp ns vs x)
    (hb : ∀ h₁ k, St w h h.objs.size h₁ ns vs [] →
      WP w (A.deeper (callEnv (fdOf w f) h.objs.size f)) (execs body (callEnv (fdOf w f) h.objs.size f))
        (fun fl s' => Q (match fl with | .ret v => v | _ => .none) s') (fun _ _ => False) ⟨h₁, g, d, k, os⟩)
    (hco : (fdOf w f).scope.isCoroutine = false) (hgen : (fdOf w f).scope.isGenerator = false) (hk : (fdOf w f).scope.kind = .function) :
    WP w A (call (.ref f) args kw) Q E ⟨h, g, d, t, os⟩ := by
  refine ⟨wpAny_call (codeAny_call_def (fd := fdOf w f) (body := body) (binds := binds) hroom (W.X _ _ ho) rfl W.nolimit (codeRec_of W.X hcd) hbody (BindsTo.of_eq hbind)
    (fun x hx => by simpa using List.all_eq_true.mp hcell x hx) (fun x hx => by simpa using List.all_eq_true.mp hloc x hx) (fun h₁ hns hk₁ => ?_) hco hgen hk)⟩
  refine wpAny_mono (hb h₁ _ ⟨?_, hk₁, get_size h, News.nil, W⟩).out (fun _ _ x => x) (fun _ _ x => x.elim)
  have e : (fun x => binds.reverse.lookup x) = lkp ns vs := funext hvs
  rw [← e]; exact hns
theorem lkp_of : ∀ {binds : List (Str × Value)} {ns : List Str} {n : Nat}, (∀ x, binds.reverse.lookup x = binds.lookup x) → binds.map (·.1) = ns.take binds.length →
    ∀ x, binds.reverse.lookup x = lkp ns (binds.map (fun b => some b.2) ++ List.replicate n none) x := by
  intro binds ns n hr hm x
  rw [hr]
  clear hr
  induction binds generalizing ns with
  | nil =>
    simp only [List.lookup_nil, List.map_nil, List.nil_append]
    induction n generalizing ns with
    | zero => cases ns <;> rfl
    | succ n ih =>
      cases ns with
      | nil => rfl
      | cons a ns =>
        simp only [List.replicate_succ, lkp]
        split
        · rfl
        · exact ih (ns := ns) rfl
  | cons b bs ih =>
    cases ns with
    | nil => simp at hm
    | cons a ns =>
      obtain ⟨k, v⟩ := b
      simp only [List.map_cons, List.length_cons, List.take_succ_cons, List.cons.injEq] at hm
      obtain ⟨rfl, hm⟩ := hm
      simp only [List.lookup_cons, List.map_cons, List.cons_append, lkp]
      by_cases q : x = k
      · subst q; simp
      · have e1 : (x == k) = false := beq_eq_false_iff_ne.mpr q
        have e2 : (k == x) = false := beq_eq_false_iff_ne.mpr fun e => q e.symm
        simp only [e1, e2, Bool.false_eq_true, if_false]
        exact ih hm
theorem lookup_rev {l : List Str} : ∀ {binds : List (Str × Value)}, l = binds.map (·.1) → l.Nodup → ∀ x, binds.reverse.lookup x = binds.lookup x := by
  intro binds hl nd x
  subst hl
  induction binds with
  | nil => rfl
  | cons b bs ih =>
    obtain ⟨k, v⟩ := b
    simp only [List.map_cons, List.nodup_cons] at nd
    simp only [List.reverse_cons, List.lookup_append, ih nd.2, List.lookup_cons, List.lookup_nil]
    by_cases q : x = k
    · subst q
      have : bs.lookup x = none := by
        rw [List.lookup_eq_none_iff]
        intro p hp
        have : p.1 ≠ x := fun e => nd.1 (e ▸ List.mem_map_of_mem hp)
        exact bne_iff_ne.mpr fun e => this e.symm
      simp [this]
    · have e1 : (x == k) = false := beq_eq_false_iff_ne.mpr q
      simp only [e1]
      cases bs.lookup x <;> rfl
end Mine
end
section
open PySem PySem.W PyProof.Rows PySem.Calls
set_option Elab.async false
set_option maxRecDepth 100000
set_option maxHeartbeats 8000000
namespace Mine
noncomputable def ns98 : List Str := [Str.ofString "s", Str.ofString "size"]
theorem wordlike_spec {w : World} {A : Around} {h : Heap} {g : Array GenState} {d : Drawn} {t : Nat} {os : OsState} {E : Value → Shared → Prop} {Q : Value → Shared → Prop} {x : Str} {n : Int} {t1 t2 : Tok} 
   (W : Wd w h) (hroom : A.depth < 900) (hn : n = x.length) (hx : x.length ≤ 100) (ho : (Builtin.Str.occurrences x (Str.ofString "_") 0 x.length (x.length + 1)).isEmpty = true)
   (q : ∀ h' t', h.StaysIn h' → Q (.bool (Txt.isalnum x)) ⟨h', g, d, t', os⟩) :
   WP w A (call (.ref 98) [.str x t1, .int n t2]) Q E ⟨h, g, d, t, os⟩ := by
  refine enterP (ns := ns98) (vs := [some (.str x t1), some (.int n t2)]) (binds := [(Str.ofString "s", .str x t1), (Str.ofString "size", .int n t2)]) W (Nat.lt_trans hroom (by decide)) 
    rfl (by kernel_rfl) rfl (by kernel_rfl) (by kernel_rfl) (by kernel_rfl) (lkp_of (n := 0) (lookup_rev (l := ns98) rfl (by decide +kernel)) (by kernel_rfl)) (fun h₁ k S => ?_) (by kernel_rfl) (by kernel_rfl) (by kernel_rfl)
  refine r_cons (r_ret ?_)
  refine r_and (r_cmp (r_call ?_))
  refine r_boot S (n_len w) ?_
  refine cw1 kept_builtin (r_name S 0 (q := ?_))
  refine ⟨S.world, b_len_str (by omega) ?_⟩
  intro _ _
  refine r_name S 1 (q := ?_)
  refine b_eq_int ?_
  subst hn
  refine b_true ?_
  refine c_t (beq_self_eq_true _) ?_
  refine r_one (r_meth (r_meth (r_name S 0 (q := ?_))))
  refine m_str F.slot_str_replace F.type_str_replace ?_
  refine cwm2 kept_builtin (r_cstr ?_); intro _ _
  refine r_cstr ?_; intro _ _
  refine ⟨S.world, b_replace_none ho ?_⟩
  refine m_str F.slot_str_isalnum F.type_str_isalnum ?_
  refine cwm0 kept_builtin ⟨S.world, b_isalnum ?_⟩
  exact q _ _ S.stays
end Mine
end
section
open PySem PySem.W PyProof.Rows PySem.Calls
open Sem (wp)
open AutoSeq1 (wpAny_loadPart')
set_option Elab.async false
set_option maxRecDepth 100000
set_option maxHeartbeats 8000000
namespace Mine
theorem sub_map : isSubtype (.type "map") (.type "map") = pure true := by rw [isSubtype_type]; kernel_rfl
theorem mro_map : mroOf (.type "map") = pure [.type "map", .type "object"] := by rw [mroOf_type]; kernel_rfl
theorem lookup_map_new : typeLookup (.type "map") "__new__" = pure (some (.builtin "map.__new__")) := by rw [typeLookup_type, builtinLookup_eq_fast]; kernel_rfl
theorem slot_map_init : Slot "map" "__init__" "object.__init__" :=
  .of (owner := "object") (n := "__init__") (by rw [typeLookup_type, builtinLookup_eq_fast]; kernel_rfl) (by decide +kernel) (by decide +kernel) (by decide +kernel)
    (by first | exact .inl (by decide +kernel) | exact .inr (by decide +kernel)) (by rw [isSubtype_type]; kernel_rfl)
theorem slot_map_iter : Slot "map" "__iter__" "map.__iter__" :=
  .of (owner := "map") (n := "__iter__") (by rw [typeLookup_type, builtinLookup_eq_fast]; kernel_rfl) (by decide +kernel) (by decide +kernel) (by decide +kernel)
    (by first | exact .inl (by decide +kernel) | exact .inr (by decide +kernel)) (by rw [isSubtype_type]; kernel_rfl)
theorem slot_map_next : Slot "map" "__next__" "map.__next__" :=
  .of (owner := "map") (n := "__next__") (by rw [typeLookup_type, builtinLookup_eq_fast]; kernel_rfl) (by decide +kernel) (by decide +kernel) (by decide +kernel)
    (by first | exact .inl (by decide +kernel) | exact .inr (by decide +kernel)) (by rw [isSubtype_type]; kernel_rfl)
theorem called_map : TypeCalled "map" "map.__new__" "object.__init__" :=
  ⟨by decide +kernel, by decide +kernel, ⟨_, _, mro_map⟩, madeBy_type mro_map lookup_map_new (by decide +kernel), by decide +kernel, by rw [isSubtype_type]; kernel_rfl, slot_map_init⟩
theorem typeCall_map (a b : Value) : checkTypeCall "map" ⟨[a, b], []⟩ = pure () := by kernel_rfl
theorem newCall_map (a b : Value) : checkBuiltinCall "map.__new__" ⟨[.type "map", a, b], []⟩ = pure () := by kernel_rfl
theorem entry_map_new : entryFor table "map.__new__" = some Builtin.«map.__new__» := entryFor_of_tree (by kernel_rfl)
theorem entry_map_next : entryFor table "map.__next__" = some Builtin.«map.__next__» := entryFor_of_tree (by kernel_rfl)
theorem entry_map_iter : entryFor table "map.__iter__" = some Builtin.«dict_keyiterator.__iter__» :=
  entryFor_alias (id' := "dict_keyiterator.__iter__") (by kernel_rfl) (by first | rfl | decide +kernel | (unfold String.splitOn; simp +decide [String.splitOnAux])) (by decide +kernel) (by kernel_rfl)
theorem entry_reduce : entryFor table "_functools.reduce" = some Builtin.«_functools.reduce» := entryFor_of_tree (by kernel_rfl)
theorem entry_reduce_loop : entryFor table "_functools.reduce.loop" = some Builtin.«_functools.reduce.loop» := entryFor_of_tree (by kernel_rfl)
theorem entry_xor : entryFor table "_operator.xor" = some Builtin.«_operator.xor» := entryFor_of_tree (by kernel_rfl)
theorem check_xor (a b : Value) : checkBuiltinCall "_operator.xor" ⟨[a, b], []⟩ = pure () := by kernel_rfl
theorem check_reduce (a b c : Value) : checkBuiltinCall "_functools.reduce" ⟨[a, b, c], []⟩ = pure () := by kernel_rfl
theorem args_map_next (a : Value) : argsOk "map.__next__" ⟨[a], []⟩ := by unfold argsOk; kernel_rfl
theorem args_map_iter (a : Value) : argsOk "map.__iter__" ⟨[a], []⟩ := by unfold argsOk; kernel_rfl

end Mine
end
section
open PySem PySem.W PyProof.Rows PySem.Calls
open Sem (wp)
open AutoSeq1 (wpAny_loadPart')
set_option Elab.async false
set_option maxRecDepth 100000
set_option maxHeartbeats 8000000
namespace Mine
theorem meets_map_new (f : Value) (x : Str) (t : Tok) :
    Meets (Builtin.«map.__new__» ⟨[.type "map", f, .str x t], []⟩) (fun _ R s =>
      R (.ok (.ret (.ref (s.heap.objs.size + 2))))
        { s with heap := ((s.heap.push { cls := .type (strIterType x), data := .fields #[.str x t, .int 0 0] }).push { cls := .type "tuple", data := .seq #[.ref s.heap.objs.size] }).push { cls := .type "map", data := .fields #[.ref (s.heap.objs.size + 1), f] } }) :=
  .of_wp fun prog w A R s h => by
    obtain ⟨hp, g, d, tk, os⟩ := s
    have hsub := sub_map
    iterate 26 wp_step
    refine wpAny_pyIter_strU ?_
    wp_walk
    refine ⟨_, rfl, ?_⟩
    simpa [Heap.size_push] using h
end Mine
end
section
open PySem PySem.W PyProof.Rows PySem.Calls
open Sem (wp)
open AutoSeq1 (wpAny_loadPart')
set_option Elab.async false
set_option maxRecDepth 100000
set_option maxHeartbeats 8000000
namespace Mine
/-- a map object over one iterator -/
structure IsMap (h : Heap) (m tup I : Addr) (f : Value) : Prop where
  m : h.get? m = some { cls := .type "map", data := .fields #[.ref tup, f] }
  tup : h.get? tup = some { cls := .type "tuple", data := .seq #[.ref I] }
theorem IsMap.keeps {h h' : Heap} {m tup I : Addr} {f : Value} (x : IsMap h m tup I f) (h1 : h'.get? m = h.get? m) (h2 : h'.get? tup = h.get? tup) : IsMap h' m tup I f := ⟨h1.trans x.m, h2.trans x.tup⟩
section
variable {w : World} {A : Around} {E : Value → Shared → Prop} {s : Shared}
theorem map_next_item {m tup I : Addr} {x : Str} {t : Tok} {i c : Nat} {Q : Option Value → Shared → Prop} (M : IsMap s.heap m tup I (.builtin "ord")) (hit : s.heap.IsStrIter I "str_ascii_iterator" x t i) (hx : x.cps[i]? = some c)
    (hQ : ∀ h' tk t', h'.IsStrIter I "str_ascii_iterator" x t (i + 1) → Heap.SameBut I s.heap h' → Q (some (.int c t')) { s with heap := h', toks := tk }) :
    wpAny (MM w) A (pyNext (.ref m)) Q E s := by
  have hT : s.TypeIs (.ref m) "map" := ⟨_, M.m, rfl⟩
  unfold pyNext
  refine wpAny_bind (wpAny_attempt (wpAny_callSpecial?_slot (name := Str.ofString "__next__") hT slot_map_next (wpAny_call_entry slot_map_next hT entry_map_next ?_ (args_map_next _))))
  show wpAny _ _ (field (.ref m) 0 >>= _) _ _ s
  refine wpAny_bind (wpAny_field M.m rfl (x := .ref tup) rfl ?_)
  refine wpAny_bind (wpAny_seqItems M.tup rfl ?_)
  dsimp only
  rw [← Array.forIn_toList]
  simp only [List.forIn_cons, List.forIn_nil]
  refine wpAny_bind (wpAny_bind (wpAny_bind (wpAny_holding (wpAny_nextOf_ascii_item hit hx fun h' hit' hs' => ?_))))
  have hmI : m ≠ I := fun e => by
    obtain ⟨o, ho, hc, _⟩ := hit
    rw [← e, M.m] at ho; cases ho; exact absurd (Value.type.inj hc) (by decide)
  have ho' : h'.get? m = some { cls := .type "map", data := .fields #[.ref tup, .builtin "ord"] } := (hs'.2 m hmI).trans M.m
  refine wpAny_pure (wpAny_pure (wpAny_bind (wpAny_field ho' rfl (x := .builtin "ord") rfl ?_)))
  refine wpAny_bind (wpAny_holding (P.ord_of_char ?_))
  refine wpAny_bind (wpAny_letGo (wpAny_pure ⟨_, rfl, wpAny_pure ?_⟩))
  exact hQ _ _ _ hit' hs'

theorem map_next_end {m tup I : Addr} {x : Str} {t : Tok} {i : Nat} {Q : Option Value → Shared → Prop} (hh : A.handled = none) (M : IsMap s.heap m tup I (.builtin "ord")) (hit : s.heap.IsStrIter I "str_ascii_iterator" x t i) (hx : x.cps[i]? = none)
    (hQ : ∀ h', Heap.ExtBut I s.heap h' → Q none { s with heap := h' }) :
    wpAny (MM w) A (pyNext (.ref m)) Q E s := by
  have hT : s.TypeIs (.ref m) "map" := ⟨_, M.m, rfl⟩
  unfold pyNext
  refine wpAny_bind (wpAny_attempt (wpAny_callSpecial?_slot (name := Str.ofString "__next__") hT slot_map_next (wpAny_call_entry slot_map_next hT entry_map_next ?_ (args_map_next _))))
  show wpAny _ _ (field (.ref m) 0 >>= _) _ _ s
  refine wpAny_bind (wpAny_field M.m rfl (x := .ref tup) rfl ?_)
  refine wpAny_bind (wpAny_seqItems M.tup rfl ?_)
  dsimp only
  rw [← Array.forIn_toList]
  simp only [List.forIn_cons, List.forIn_nil]
  refine wpAny_bind (wpAny_bind (wpAny_bind (wpAny_holding (wpAny_nextOf_ascii_end hh hit hx fun h' e hs' he => ?_))))
  obtain ⟨o, ho, hc⟩ := he
  refine wpAny_bind (wpAny_isInstance (T := "StopIteration") (b := true) ⟨o, ho, hc⟩ isSubtype_stop ?_)
  exact wpAny_pure (hQ h' hs')

theorem xor_call {a b : Int} {u v : Tok} {Q : Value → Shared → Prop} (hq : ∀ t' k, Q (.int (Builtin.bitXor a b) t') { s with toks := k }) :
    wpAny (MM w) A (call (.builtin "_operator.xor") [.int a u, .int b v]) Q E s := by
  refine wpAny_call (codeAny_call_builtin (by decide +kernel) entry_xor (wpAny_of_eq (check_xor _ _) ?_))
  have e : Builtin.«_operator.xor» ⟨[.int a u, .int b v], []⟩ = (do ret (← binaryOp .BitXor (.int a u) (.int b v))) := rfl
  rw [e]
  exact wpAny_bind (PyProof.Rows.xor_int (wpAny_pure (hq _ _)))

/-- what the walk of the fold holds -/
structure RedSt (hb : Heap) (I m tup p own : Addr) (x : Str) (t : Tok) (i : Nat) (h : Heap) : Prop where
  base : ∀ b o, b ≠ I → hb.get? b = some o → h.get? b = some o
  it : h.IsStrIter I "str_ascii_iterator" x t i
  M : IsMap h m tup I (.builtin "ord")
  pairT : ∃ (o : Obj) (a b : Value) (n : Nat), h.get? p = some o ∧ o.data = .seq #[a, b] n
  ownT : ∃ (o : Obj) (b c : Value) (n : Nat), h.get? own = some o ∧ o.data = .seq #[.builtin "_operator.xor", b, c] n
  newP : hb.get? p = none
  neI : p ≠ I
  pm : p ≠ m
  pt : p ≠ tup
  po : p ≠ own
  mI : m ≠ I
  tI : tup ≠ I
  oI : own ≠ I
def xsum (x : Str) (i : Nat) (acc : Int) : Int := (x.cps.toList.drop i).foldl (fun (a : Int) (c : Nat) => Builtin.bitXor a (c : Int)) acc
theorem xsum_end {x : Str} {i : Nat} {acc : Int} (h : x.cps[i]? = none) : xsum x i acc = acc := by
  unfold xsum
  rw [List.drop_eq_nil_of_le (by simpa using h)]; rfl
theorem xsum_step {x : Str} {i c : Nat} {acc : Int} (h : x.cps[i]? = some c) : xsum x i acc = xsum x (i + 1) (Builtin.bitXor acc c) := by
  unfold xsum
  have h' : x.cps.toList[i]? = some c := by simpa using h
  obtain ⟨hl, he⟩ := List.getElem?_eq_some_iff.mp h'
  rw [List.drop_eq_getElem_cons hl, he]; rfl

theorem red_loop {hb : Heap} {I m tup p own : Addr} {x : Str} {t : Tok} {R : Result → Shared → Prop} (hh : A.handled = none) :
    ∀ (n i : Nat) (acc : Int) (u : Tok) (s : Shared), i + n = x.cps.size → RedSt hb I m tup p own x t i s.heap →
      (∀ h' k t', (∀ b o, b ≠ I → hb.get? b = some o → h'.get? b = some o) → R (.ok (.ret (.int (xsum x i acc) t'))) { s with heap := h', toks := k }) →
      codeAny (MM w) A (.builtin "_functools.reduce.loop" ⟨[.ref p, .ref m, .ref own, .int acc u], []⟩) R s := by
  intro n
  induction n with
  | zero =>
    intro i acc u s hn St hR
    refine codeAny_builtin entry_reduce_loop ?_
    rw [Around.under_plainId (by decide +kernel)]
    obtain ⟨oo, b, c, k, ho, hd⟩ := St.ownT
    show wpAny _ _ (seqItems? (.ref own) >>= _) _ _ _
    refine wpAny_bind (wpAny_seqItems ho hd ?_)
    have hx : x.cps[i]? = none := by simp; omega
    refine wpAny_bind (map_next_end (by exact hh) St.M St.it hx fun h' hs => ?_)
    refine wpAny_pure ?_
    have := hR h' s.toks u fun b o hb' e => hs b o hb' (St.base b o hb' e)
    rw [xsum_end hx] at this
    exact this
  | succ n ih =>
    intro i acc u s hn St hR
    refine codeAny_builtin entry_reduce_loop ?_
    rw [Around.under_plainId (by decide +kernel)]
    obtain ⟨oo, b, c, k, ho, hd⟩ := St.ownT
    show wpAny _ _ (seqItems? (.ref own) >>= _) _ _ _
    refine wpAny_bind (wpAny_seqItems ho hd ?_)
    have hi : i < x.cps.size := by omega
    have hx : x.cps[i]? = some x.cps[i] := by simp [hi]
    refine wpAny_bind (map_next_item St.M St.it hx fun h' k' t' hit hs => ?_)
    obtain ⟨op, pa, pb, pn, hp, hpd⟩ := St.pairT
    have hp1 := (hs.2 p St.neI).trans hp
    refine wpAny_bind (wpAny_seqItems hp1 hpd ?_)
    refine wpAny_bind (wpAny_updateSeq hp1 hpd ?_ (by show 2 ≤ sizeLine; decide) (by show 2 ≤ sizeLine + 1; decide))
    have hd2 : (Obj.mapSeq (·.setIfInBounds 0 (.int acc u)) op).data = .seq #[.int acc u, pb] pn := by
      obtain ⟨oc, odd, odt, osl⟩ := op
      simp only at hpd
      subst hpd
      rfl
    have hp2 := Heap.get?_update_self (Obj.mapSeq (·.setIfInBounds 0 (.int acc u))) hp1 (Obj.isFreed_of_seq hd2)
    refine wpAny_bind (wpAny_letGo ?_)
    refine wpAny_bind (wpAny_updateSeq hp2 hd2 ?_ (by show 2 ≤ sizeLine; decide) (by show 2 ≤ sizeLine + 1; decide))
    have hd3 : (Obj.mapSeq (·.setIfInBounds 1 (.int x.cps[i] t')) (Obj.mapSeq (·.setIfInBounds 0 (.int acc u)) op)).data = .seq #[.int acc u, .int x.cps[i] t'] pn := by
      obtain ⟨oc, odd, odt, osl⟩ := op
      simp only at hpd
      subst hpd
      rfl
    have hp3 := Heap.get?_update_self (Obj.mapSeq (·.setIfInBounds 1 (.int x.cps[i] t'))) hp2 (Obj.isFreed_of_seq hd3)
    refine wpAny_bind (wpAny_letGo ?_)
    refine wpAny_bind (xor_call fun t₂ k₂ => ?_)
    refine wpAny_pure ⟨plainId_quiet (by decide +kernel) _, ?_⟩
    refine ih (i + 1) _ _ _ (by omega) ?_ ?_
    · have ks : ∀ b, b ≠ p → ((h'.update p (Obj.mapSeq (·.setIfInBounds 0 (.int acc u)))).update p (Obj.mapSeq (·.setIfInBounds 1 (.int x.cps[i] t')))).get? b = h'.get? b := fun b hb' =>
        (Heap.get?_update_ne _ _ _ _ hb').trans (Heap.get?_update_ne _ _ _ _ hb')
      refine ⟨fun b o hb' e => ?_, ?_, ?_, ⟨_, _, _, _, hp3, hd3⟩, ⟨oo, b, c, k, ?_, hd⟩, St.newP, St.neI, St.pm, St.pt, St.po, St.mI, St.tI, St.oI⟩
      · have hbp : b ≠ p := fun e' => by rw [e', St.newP] at e; cases e
        rw [ks b hbp, hs.2 b hb']
        exact St.base b o hb' e
      · obtain ⟨oi, hoi, r⟩ := hit
        exact ⟨oi, (ks I (Ne.symm St.neI)).trans hoi, r⟩
      · exact St.M.keeps ((ks m (Ne.symm St.pm)).trans (hs.2 m St.mI)) ((ks tup (Ne.symm St.pt)).trans (hs.2 tup St.tI))
      · exact (ks own (Ne.symm St.po)).trans ((hs.2 own St.oI).trans ho)
    · intro h₂ k₂ t₃ hk
      have := hR h₂ k₂ t₃ hk
      rw [xsum_step hx] at this
      exact this

theorem reduce_call {m tup I : Addr} {x : Str} {u v : Tok} {acc : Int} {Q : Value → Shared → Prop} (hh : A.handled = none) (M : IsMap s.heap m tup I (.builtin "ord")) (hit : s.heap.IsStrIter I "str_ascii_iterator" x u 0) (mI : m ≠ I) (tI : tup ≠ I)
    (hq : ∀ h' k t', (∀ b o, b ≠ I → s.heap.get? b = some o → h'.get? b = some o) → Q (.int (xsum x 0 acc) t') { s with heap := h', toks := k }) :
    wpAny (MM w) A (call (.builtin "_functools.reduce") [.builtin "_operator.xor", .ref m, .int acc v]) Q E s := by
  refine wpAny_call (codeAny_call_builtin (by decide +kernel) entry_reduce (wpAny_of_eq (check_reduce _ _ _) ?_))
  have hT : s.TypeIs (.ref m) "map" := ⟨_, M.m, rfl⟩
  show wpAny _ _ ((pyIter (.ref m)).tryCatch _ >>= _) _ _ _
  refine wpAny_bind (wpAny_tryCatch ?_)
  refine wpAny_pyIter_slot hT slot_map_iter (wpAny_call_entry slot_map_iter hT entry_map_iter ?_ (args_map_iter _))
  show wpAny _ _ (ret (.ref m)) _ _ s
  refine wpAny_pure ⟨_, rfl, "map", _, hT, slot_map_next.lookup, ?_⟩
  refine wpAny_bind (wpAny_holding (wpAny_newObj_type ?_ (by size_fits)))
  refine wpAny_bind (wpAny_holding (wpAny_newObj_type ?_ (by size_fits)))
  refine wpAny_pure ⟨plainId_quiet (by decide +kernel) _, ?_⟩
  have z : ∀ b o, s.heap.get? b = some o → b < s.heap.objs.size := fun b o e => Heap.lt_size e
  obtain ⟨oI, hoI, hoI1, hoI2⟩ := id hit
  have lI := z _ _ hoI
  have lm := z _ _ M.m
  have lt := z _ _ M.tup
  have e1 : (s.heap.push { cls := .type "tuple", data := .seq #[rawInt 0, rawInt 0] }).objs.size = s.heap.objs.size + 1 := Heap.size_push ..
  have kp : ∀ b o, s.heap.get? b = some o → ((s.heap.push { cls := .type "tuple", data := .seq #[rawInt 0, rawInt 0] }).push { cls := .type "tuple", data := .seq #[.builtin "_operator.xor", .ref m, .int acc v] }).get? b = some o := fun b o e =>
    Heap.get?_push_of_some _ (Heap.get?_push_of_some _ e)
  have e2 : (Shared.heap { heap := s.heap.push { cls := Value.type "tuple", data := Data.seq #[rawInt 0, rawInt 0] }, gens := s.gens, drawn := s.drawn, toks := s.toks, os := s.os }).objs.size = s.heap.objs.size + 1 := Heap.size_push ..
  rw [e2]
  refine red_loop (hb := s.heap) (I := I) (tup := tup) (m := m) (p := s.heap.objs.size) (own := s.heap.objs.size + 1) (x := x) (t := u) hh x.cps.size 0 acc v _ (by omega) ?_ ?_
  · refine ⟨fun b o _ e => kp b o e, ⟨oI, kp _ _ hoI, hoI1, hoI2⟩, ⟨kp _ _ M.m, kp _ _ M.tup⟩, ⟨_, _, _, _, Heap.get?_push_of_some _ (Heap.get?_push_size _ rfl), rfl⟩, ⟨_, _, _, _, by rw [← e1]; exact Heap.get?_push_size _ rfl, rfl⟩, ?_, Nat.ne_of_gt lI, Nat.ne_of_gt lm, Nat.ne_of_gt lt, Nat.ne_of_lt (Nat.lt_succ_self _), mI, tI, Nat.ne_of_gt (Nat.lt_succ_of_lt lI)⟩
    cases q : s.heap.get? s.heap.objs.size with
    | none => rfl
    | some o => exact absurd (z _ _ q) (Nat.lt_irrefl _)
  · intro h' k t' hk
    exact hq h' k t' hk
end

theorem args_object_init_3 (a b c : Value) : argsOk "object.__init__" ⟨[a, b, c], []⟩ := by unfold argsOk; kernel_rfl
section
variable {w : World} {A : Around} {E : Value → Shared → Prop} {h : Heap} {g : Array GenState} {d : Drawn} {t : Nat} {os : OsState} {Q : Value → Shared → Prop}
theorem b_map {x : Str} {u : Tok} (ha : (x.cps.all (· < 128)) = true)
    (q : ∀ h', h.StaysIn h' → h'.objs.size = h.objs.size + 3 → IsMap h' (h.objs.size + 2) (h.objs.size + 1) h.objs.size (.builtin "ord") → h'.IsStrIter h.objs.size "str_ascii_iterator" x u 0 → Q (.ref (h.objs.size + 2)) ⟨h', g, d, t, os⟩) :
    WP w A (call (.type "map") [.builtin "ord", .str x u]) Q E ⟨h, g, d, t, os⟩ := by
  refine ⟨callType_new called_map (by decide) (typeCall_map _ _) (newCall_map _ _) (fun obj => args_object_init_3 obj _ _) entry_map_new (meets_map_new (.builtin "ord") x u) ?_⟩
  have e1 : (h.push { cls := .type (strIterType x), data := .fields #[.str x u, .int 0 0] }).objs.size = h.objs.size + 1 := Heap.size_push ..
  have e2 : ((h.push { cls := .type (strIterType x), data := .fields #[.str x u, .int 0 0] }).push { cls := .type "tuple", data := .seq #[.ref h.objs.size] }).objs.size = h.objs.size + 2 := (Heap.size_push ..).trans (by rw [e1])
  have es : strIterType x = "str_ascii_iterator" := by unfold strIterType; rw [ha]; rfl
  show _ ∧ _
  have hm : (((h.push { cls := .type (strIterType x), data := .fields #[.str x u, .int 0 0] }).push { cls := .type "tuple", data := .seq #[.ref h.objs.size] }).push { cls := .type "map", data := .fields #[.ref (h.objs.size + 1), .builtin "ord"] }).get? (h.objs.size + 2) = some { cls := .type "map", data := .fields #[.ref (h.objs.size + 1), .builtin "ord"] } := by
    rw [← e2]; exact Heap.get?_push_size _ rfl
  refine ⟨⟨_, hm, rfl⟩, q _ (fun b o e => Heap.get?_push_of_some _ (Heap.get?_push_of_some _ (Heap.get?_push_of_some _ e))) (by rw [Heap.size_push, e2]) ⟨hm, Heap.get?_push_of_some _ (by rw [← e1]; exact Heap.get?_push_size _ rfl)⟩ ⟨_, Heap.get?_push_of_some _ (Heap.get?_push_of_some _ (Heap.get?_push_size _ rfl)), by rw [es], rfl⟩⟩

theorem b_reduce {h₀ : Heap} {L : Addr} {ns : List Str} {vs : List (Option Value)} {nw : List (Addr × Obj)} (S : St w h₀ L h ns vs nw) (hh : A.handled = none) {m tup I : Addr} {x : Str} {u v : Tok} {acc : Int} (M : IsMap h m tup I (.builtin "ord")) (hit : h.IsStrIter I "str_ascii_iterator" x u 0) (mI : m ≠ I) (tI : tup ≠ I)
    (hL : L ≠ I) (h0 : h₀.get? I = none) (hn : ∀ p ∈ nw, p.1 ≠ I)
    (q : ∀ h' k t', St w h₀ L h' ns vs nw → Q (.int (xsum x 0 acc) t') ⟨h', g, d, k, os⟩) : WP w A (call (.builtin "_functools.reduce") [.builtin "_operator.xor", .ref m, .int acc v]) Q E ⟨h, g, d, t, os⟩ :=
  ⟨reduce_call hh M hit mI tI fun h' k t' hk => q h' k t' (S.keepsBut hk hL h0 hn)⟩
end
end Mine
end
section
open PySem PySem.W PyProof.Rows PySem.Calls
set_option Elab.async false
set_option maxRecDepth 100000
set_option maxHeartbeats 8000000
namespace Mine
section
variable {w : World} {A : Around} {h₀ h : Heap} {g : Array GenState} {d : Drawn} {t : Nat} {os : OsState} {env : Env} {L : Addr} {ns : List Str} {vs : List (Option Value)} {nw : List (Addr × Obj)}
theorem St.down {h' : Heap} {vs' : List (Option Value)} {nw' : List (Addr × Obj)} {b : Heap} (S : St w h₀ L h ns vs nw) (kb : h₀.StaysIn b) (S' : St w b L h' ns vs' nw') : St w h₀ L h' ns vs' nw' :=
  ⟨S'.F, fun b' o e => S'.keep _ _ (kb _ _ e), S.off, fun p hp => ⟨(S'.N p hp).1, (S'.N p hp).2.1, by
    cases q : h₀.get? p.1 with
    | none => rfl
    | some o => have := (S'.N p hp).2.2; rw [kb _ _ q] at this; cases this⟩, S.W⟩

/-- a for over anything that is drawn turn by turn; the body walks over the heap as it stands at the turn -/
theorem for_walk {R : Result → Shared → Prop} {v : Str} {px : Pos} {body : List Stmt} {I : Addr} {fp : List Addr} {n : Nat} {P : Nat → Value → Prop} {Sat : Nat → Heap → Prop} (Wk : Walks pg w A I fp [I] n P Sat) (k : Nat)
    (J : Nat → List (Option Value) → List (Addr × Obj) → Prop)
    (S : St w h₀ L h ns vs nw) (hSat : Sat 0 h) (hJ : J 0 vs nw)
    (hfp : ∀ b ∈ fp, b ≠ L) (hI : h₀.get? I = none) (hIf : I ∈ fp)
    (hnw : ∀ i vs₁ nw₁, J i vs₁ nw₁ → k < vs₁.length ∧ ∀ b ∈ fp, ∀ p ∈ nw₁, p.1 ≠ b)
    (step : ∀ i v h₁ t₁ vs₁ nw₁, i < n → P i v → J i vs₁ nw₁ → h₀.StaysIn (hideAll h₁ (L :: nw₁.map (·.1))) → St w (hideAll h₁ (L :: nw₁.map (·.1))) L h₁ ns (vs₁.set k (some v)) nw₁ →
      WP w A (execs body env) (fun f s₂ => f = .next ∧ ∃ h₂ t₂ vs₂ nw₂, s₂ = ⟨h₂, g, d, t₂, os⟩ ∧ St w (hideAll h₁ (L :: nw₁.map (·.1))) L h₂ ns vs₂ nw₂ ∧ J (i + 1) vs₂ nw₂) (fun _ _ => False) ⟨h₁, g, d, t₁, os⟩)
    (fin : ∀ h' t' vs' nw', St w h₀ L h' ns vs' nw' → J n vs' nw' → R (.ok .next) ⟨h', g, d, t', os⟩)
    (hx : at1 ns k v = true := by kernel_rfl) (hk : env.scope.kind = .function := by kernel_rfl) (hL : env.locals = L := by rfl)
    (hl : env.kindOf v = some .local := by kernel_rfl) (hnd : ns.Nodup := by decide +kernel) :
    codeAny (MM w) A (.forLoop (.Name v px) (.ref I) body [] env) R ⟨h, g, d, t, os⟩ := by
  subst hL
  have hp : (env.scope.kind == .class || (env.scope.kind == .module && env.locals != env.globals)) = false := by rw [hk]; rfl
  have hIL : env.locals ≠ I := Ne.symm (hfp I hIf)
  refine codeAny_forLoop (fun m s' => ∃ h' t' vs' nw' i, s' = ⟨h', g, d, t', os⟩ ∧ St w h₀ env.locals h' ns vs' nw' ∧ Sat i h' ∧ J i vs' nw' ∧ i ≤ n ∧ m = n + 1 - i) ?_ (n + 1) ⟨h, t, vs, nw, 0, rfl, S, hSat, hJ, Nat.zero_le _, rfl⟩
  rintro m s' ⟨h', t', vs', nw', i, rfl, S', hs', hJ', hi, rfl⟩
  obtain ⟨hkl, hap⟩ := hnw i vs' nw' hJ'
  by_cases hlt : i < n
  · refine Wk.item i _ _ _ hlt hs' fun x h₁ tk hP hs₁ hk₁ => ?_
    have S₁ : St w h₀ env.locals h₁ ns vs' nw' := S'.keepsBut (I := I) (fun b o hb e => hk₁ b o (by simpa using hb) e) hIL hI fun p hp => hap I hIf p hp
    refine wpAny_assign_Name (wpAny_storeName_local hl S₁.F (fun h₂ hn₂ hs₂ => ?_) hp)
    rw [lkp_set hx hkl hnd] at hn₂
    have S₂ : St w h₀ env.locals h₂ ns (vs'.set k (some x)) nw' := S₁.set hn₂ hs₂
    have S₃ := S₂.rebase
    have kb := S₂.rebased
    refine wpAny_mono (step i x h₂ _ vs' nw' hlt hP hJ' kb S₃).out (fun f s₃ hf => ?_) fun _ _ e => e.elim
    obtain ⟨rfl, h₃, t₃, vs₃, nw₃, rfl, S₄, hJ₃⟩ := hf
    refine ⟨n + 1 - (i + 1), by omega, h₃, t₃, vs₃, nw₃, i + 1, rfl, S₂.down kb S₄, ?_, hJ₃, hlt, rfl⟩
    refine Wk.frame (i + 1) h₁ h₃ hs₁ fun b hb o e => ?_
    refine S₄.keep _ _ (hideAll_get _ ((hs₂.2 b (hfp b hb)).trans e) ?_)
    intro q
    rcases List.mem_cons.mp q with q | q
    · exact hfp b hb q
    · obtain ⟨p, hp, q⟩ := List.mem_map.mp q
      exact hap b hb p hp q
  · have hin : i = n := by omega
    subst hin
    refine Wk.done _ _ _ hs' fun h₁ tk hk₁ => wpAny_execs_nil ?_
    exact fin h₁ tk vs' nw' (S'.keepsBut (I := I) (fun b o hb e => hk₁ b o (by simpa using hb) e) hIL hI fun p hp => hap I hIf p hp) hJ'

theorem r_for {iter : Expr} {target : Expr} {body : List Stmt} {pos : Pos} {Q : Flow → Shared → Prop} {s : Shared}
    (h : WP w A (eval iter env) (fun x s₁ => WP w A (pyIter x) (fun it s₂ => codeAny (MM w) A (.forLoop target it body [] env) (fun r s' => match r with | .ok f => Q f s' | .error _ => False) s₂) (fun _ _ => False) s₁) (fun _ _ => False) s)
    (hs : ∀ x, foldedSetIterable iter env x = pure x := by intro _; rfl) : WP w A (exec (.For target iter body [] pos) env) Q (fun _ _ => False) s :=
  ⟨wpAny_For (h.to fun _ _ x => x.to fun _ _ x => codeAny_mono x fun r s' y => by cases r <;> first | exact y | exact y.elim) hs⟩

theorem i_str {x : Str} {u : Tok} {E : Value → Shared → Prop} {Q : Value → Shared → Prop} (ha : (x.cps.all (· < 128)) = true) (S : St w h₀ L h ns vs nw)
    (q : ∀ h', h.StaysIn h' → St w h₀ L h' ns vs nw → h'.IsStrIter h.objs.size "str_ascii_iterator" x u 0 → Q (.ref h.objs.size) ⟨h', g, d, t, os⟩) : WP w A (pyIter (.str x u)) Q E ⟨h, g, d, t, os⟩ :=
  ⟨wpAny_pyIter_ascii ha (q _ (fun b o e => Heap.get?_push_of_some _ e) (S.keeps fun b o e => Heap.get?_push_of_some _ e) ⟨_, Heap.get?_push_size _ rfl, rfl, rfl⟩)⟩
end
end Mine
end
section
open PySem PySem.W PyProof.Rows PySem.Calls
set_option Elab.async false
set_option maxRecDepth 100000
set_option maxHeartbeats 8000000
namespace Mine
theorem g_reduce (w : World) : nsIn (KK w) mainGlobals (Str.ofString "reduce") = some (some (.builtin "_functools.reduce")) := by kernel_rfl
theorem g_xor (w : World) : nsIn (KK w) mainGlobals (Str.ofString "xor") = some (some (.builtin "_operator.xor")) := by kernel_rfl
theorem n_map (w : World) : nsIn (KK w) mainGlobals (Str.ofString "map") = some none ∧ bootBuiltins (Str.ofString "map") = some (.type "map") ∧ Str.ofString "map" ≠ "__name__" := ⟨by kernel_rfl, by decide +kernel, by decide +kernel⟩
theorem n_ord (w : World) : nsIn (KK w) mainGlobals (Str.ofString "ord") = some none ∧ bootBuiltins (Str.ofString "ord") = some (.builtin "ord") ∧ Str.ofString "ord" ≠ "__name__" := ⟨by kernel_rfl, by decide +kernel, by decide +kernel⟩
section
variable {w : World} {A : Around} {E : Value → Shared → Prop} {h : Heap} {g : Array GenState} {d : Drawn} {t : Nat} {os : OsState} {Q : Value → Shared → Prop}
theorem b_ord {c : Nat} {u : Tok} (q : ∀ t' k', Q (.int c t') ⟨h, g, d, k', os⟩) : WP w A (call (.builtin "ord") [.str ⟨#[c]⟩ u]) Q E ⟨h, g, d, t, os⟩ := ⟨P.ord_of_char (q _ _)⟩
theorem b_ixor {a b : Int} {u v : Tok} (q : ∀ t' k', Q (.int (Builtin.bitXor a b) t') ⟨h, g, d, k', os⟩) : WP w A (inplaceOp .BitXor (.int a u) (.int b v)) Q E ⟨h, g, d, t, os⟩ := ⟨PyProof.Rows.ixor_int (q _ _)⟩

noncomputable def ns113 : List Str := [Str.ofString "nmea_str"]
theorem checksum_spec {x : Str} {u : Tok} (W : Wd w h) (hroom : A.depth < 900) (hh : A.handled = none) (ha : (x.cps.all (· < 128)) = true)
    (q : ∀ h' t' k', h.StaysIn h' → Q (.int (xsum x 0 0) t') ⟨h', g, d, k', os⟩) : WP w A (call (.ref 113) [.str x u]) Q E ⟨h, g, d, t, os⟩ := by
  refine enterP (ns := ns113) (vs := [some (.str x u)]) (binds := [(Str.ofString "nmea_str", .str x u)]) W (Nat.lt_trans hroom (by decide))
    rfl (by kernel_rfl) rfl (by kernel_rfl) (by kernel_rfl) (by kernel_rfl) (lkp_of (n := 0) (lookup_rev (l := ns113) rfl (by decide +kernel)) (by kernel_rfl)) (fun h₁ k S => ?_) (by kernel_rfl) (by kernel_rfl) (by kernel_rfl)
  refine r_cons (r_ret (r_call (r_glob S (g_reduce w) (cw3 kept_builtin (r_glob S (g_xor w) (r_call (r_boot S (n_map w) (cw2 kept_type (r_boot S (n_ord w) (r_name S 0 (q := ⟨S.world, b_map ha fun h₂ k₂ hz M hit => ?_⟩)))))))))))
  have S₂ := S.keeps k₂
  refine r_cint fun _ _ => ⟨S₂.world, b_reduce (A := A.deeper _) S₂ (by exact hh) M hit ?_ ?_ (Ne.symm S.newL) S.new0 (fun _ hp => nomatch hp) fun h₃ k₃ t₃ S₃ => q _ _ _ S₃.keep⟩
  · exact Nat.ne_of_gt (Nat.lt_add_of_pos_right (by decide))
  · exact Nat.ne_of_gt (Nat.lt_succ_self _)

noncomputable def ns320 : List Str := [Str.ofString "said", Str.ofString "total", Str.ofString "sign"]
theorem lawsum_spec {x : Str} {u : Tok} (W : Wd w h) (hroom : A.depth < 900) (hh : A.handled = none) (ha : (x.cps.all (· < 128)) = true)
    (q : ∀ h' t' k', h.StaysIn h' → Q (.int (xsum x 0 0) t') ⟨h', g, d, k', os⟩) : WP w A (call (.ref 320) [.str x u]) Q E ⟨h, g, d, t, os⟩ := by
  refine enterP (ns := ns320) (vs := [some (.str x u), none, none]) (binds := [(Str.ofString "said", .str x u)]) W (Nat.lt_trans hroom (by decide))
    rfl (by kernel_rfl) rfl (by kernel_rfl) (by kernel_rfl) (by kernel_rfl) (lkp_of (n := 2) (lookup_rev (l := [Str.ofString "said"]) rfl (by decide +kernel)) (by kernel_rfl)) (fun h₁ k S => ?_) (by kernel_rfl) (by kernel_rfl) (by kernel_rfl)
  refine r_cons (r_asg (r_cint fun t₁ _ => r_store S 1 (hi := by simp) (q := fun h₂ _ S => r_cons (r_for ?_))))
  refine r_name S 0 (q := i_str ha S fun h₃ k₃ S₃ hit => ?_)
  refine for_walk (Walks.strAscii (by exact hh) _ x u) 2 (fun i vs nw => nw = [] ∧ ∃ o acc t, vs = [some (.str x u), some (.int acc t), o] ∧ xsum x 0 0 = xsum x i acc) S₃ hit ⟨rfl, none, 0, t₁, rfl, rfl⟩ ?_ S.new0 (by simp) ?_ ?_ ?_
  · intro b hb
    rw [List.mem_singleton.mp hb]; exact S.newL
  · rintro i vs nw ⟨rfl, o, acc, t, rfl, _⟩
    exact ⟨by simp, fun _ _ _ hp => nomatch hp⟩
  · rintro i v h₄ t₄ vs nw hi ⟨c, u', hc, rfl⟩ ⟨rfl, o, acc, t, rfl, hx⟩ kb S
    refine r_cons (r_aug (r_load S 1 (q := r_call (r_boot S (n_ord w) (cw1 kept_builtin (r_name S 2 (q := ⟨S.world, b_ord fun _ _ => b_ixor fun t₅ _ => r_store S 1 (hi := by simp) (q := fun h₅ t₆ S₅ => r_nil ⟨rfl, _, _, _, _, rfl, S₅, rfl, _, _, t₅, rfl, ?_⟩)⟩)))))))
    rw [hx, xsum_step hc]
  · rintro h₄ t₄ vs nw S₄ ⟨rfl, o, acc, t, rfl, hx⟩
    rw [xsum_end (i := x.cps.size) (by simp)] at hx
    rw [hx] at q
    exact r_cons (r_ret (r_name S₄ 1 (q := q _ _ _ S₄.keep)))
end
end Mine
end
section
open PySem PySem.W PyProof.Rows PySem.Calls
set_option Elab.async false
set_option maxRecDepth 100000
set_option maxHeartbeats 8000000
namespace Mine
section
variable {w : World} {A : Around} {E : Value → Shared → Prop} {h : Heap} {g : Array GenState} {d : Drawn} {t : Nat} {os : OsState} {env : Env} {pos p : Pos} {Q : Value → Shared → Prop}

/-- all that is kept by a push -/
theorem keptH (h : Heap) : KeptH (fun h' => h.StaysIn h') := fun _ _ k b o e => Heap.get?_push_of_some _ (k b o e)

def SliceTo (w : World) (A : Around) (E : Value → Shared → Prop) (env : Env) (e : Expr) (x : Str) (Q : Value → Shared → Prop) (s : Shared) : Prop :=
  WP w A (eval e env) (fun i s₂ => ∃ j u, i = .int j u ∧ x.length ≤ sizeLine ∧ ∀ h' t' k, s₂.heap.StaysIn h' → Q (.str (Txt.slice x none (some j)) t') { s₂ with heap := h', toks := k }) E s
theorem r_sl_to {value e : Expr} {s : Shared}
    (hv : WP w A (eval value env) (fun o s₁ => ∃ x u, o = .str x u ∧ WP w A (eval e env) (fun i s₂ => ∃ j v, i = .int j v ∧ x.length ≤ sizeLine ∧ ∀ h' t' k, s₂.heap.StaysIn h' → Q (.str (Txt.slice x none (some j)) t') { s₂ with heap := h', toks := k }) E s₁) E s)
    (ht : ∀ o r, letTemporaryGo value o r = pure () := by intro _ _; rfl) : WP w A (eval (.Subscript value (.Slice none (some e) none p) pos) env) Q E s := by
  refine ⟨Subscript_Slice (hv.to fun o s₁ h₁ => ?_) ht⟩
  obtain ⟨x, u, rfl, h₁⟩ := h₁
  refine wpAny_Slice (evalPart_none_step (evalPart_some_step (h₁.to fun i s₂ h₂ => evalPart_none_step ?_)))
  obtain ⟨j, v, rfl, hz, h₂⟩ := h₂
  exact SBH.sliceItem_ns (keptH s₂.heap) (fun _ _ e => e) (fun h' t' k hk => h₂ h' t' k hk) hz
theorem r_sl_from {value e : Expr} {s : Shared}
    (hv : WP w A (eval value env) (fun o s₁ => ∃ x u, o = .str x u ∧ WP w A (eval e env) (fun i s₂ => ∃ j v, i = .int j v ∧ x.length ≤ sizeLine ∧ ∀ h' t' k, s₂.heap.StaysIn h' → Q (.str (Txt.slice x (some j) none) t') { s₂ with heap := h', toks := k }) E s₁) E s)
    (ht : ∀ o r, letTemporaryGo value o r = pure () := by intro _ _; rfl) : WP w A (eval (.Subscript value (.Slice (some e) none none p) pos) env) Q E s := by
  refine ⟨Subscript_Slice (hv.to fun o s₁ h₁ => ?_) ht⟩
  obtain ⟨x, u, rfl, h₁⟩ := h₁
  refine wpAny_Slice (evalPart_some_step (h₁.to fun i s₂ h₂ => evalPart_none_step (evalPart_none_step ?_)))
  obtain ⟨j, v, rfl, hz, h₂⟩ := h₂
  exact SBH.sliceItem_sn (keptH s₂.heap) (fun _ _ e => e) (fun h' t' k hk => h₂ h' t' k hk) hz
theorem r_sl_ft {value e e' : Expr} {s : Shared}
    (hv : WP w A (eval value env) (fun o s₁ => ∃ x u, o = .str x u ∧ WP w A (eval e env) (fun i s₂ => ∃ j v, i = .int j v ∧ WP w A (eval e' env) (fun i' s₃ => ∃ j' v', i' = .int j' v' ∧ x.length ≤ sizeLine ∧
      ∀ h' t' k, s₃.heap.StaysIn h' → Q (.str (Txt.slice x (some j) (some j')) t') { s₃ with heap := h', toks := k }) E s₂) E s₁) E s)
    (ht : ∀ o r, letTemporaryGo value o r = pure () := by intro _ _; rfl) : WP w A (eval (.Subscript value (.Slice (some e) (some e') none p) pos) env) Q E s := by
  refine ⟨Subscript_Slice (hv.to fun o s₁ h₁ => ?_) ht⟩
  obtain ⟨x, u, rfl, h₁⟩ := h₁
  refine wpAny_Slice (evalPart_some_step (h₁.to fun i s₂ h₂ => ?_))
  obtain ⟨j, v, rfl, h₂⟩ := h₂
  refine evalPart_some_step (h₂.to fun i' s₃ h₃ => evalPart_none_step ?_)
  obtain ⟨j', v', rfl, hz, h₃⟩ := h₃
  exact SBH.sliceItem_ss (keptH s₃.heap) (fun _ _ e => e) (fun h' t' k hk => h₃ h' t' k hk) hz

/-- a sign of a text -/
theorem r_item_name {value : Expr} {n : Str} {s : Shared}
    (hv : WP w A (eval value env) (fun o s₁ => ∃ x u, o = .str x u ∧ WP w A (eval (.Name n p) env) (fun i s₂ => ∃ j v c, i = .int j v ∧ (decide (j < -(2 ^ 63 : Int)) || decide (j ≥ 2 ^ 63)) = false ∧ (seqIndex? j x.length).bind (x.cps[·]?) = some c ∧
      ∀ t', Q (.str ⟨#[c]⟩ t') { s₂ with toks := s₂.toks + 1 }) E s₁) E s)
    (ht : ∀ o r, letTemporaryGo value o r = pure () := by intro _ _; rfl) : WP w A (eval (.Subscript value (.Name n p) pos) env) Q E s := by
  refine ⟨Subscript_Name (hv.to fun o s₁ h₁ => ?_) ht⟩
  obtain ⟨x, u, rfl, h₁⟩ := h₁
  refine h₁.to fun i s₂ h₂ => ?_
  obtain ⟨j, v, c, rfl, hr, hc, h₂⟩ := h₂
  exact ⟨"str", _, F.slot_str_getitem.lookup, typeIs_str _ _ _, P.getItem_str hr hc (h₂ _)⟩
theorem r_item_const {value : Expr} {n : Const} {kd : Nat} {s : Shared}
    (hv : WP w A (eval value env) (fun o s₁ => ∃ x u, o = .str x u ∧ WP w A (eval (.Constant n kd p) env) (fun i s₂ => ∃ j v c, i = .int j v ∧ (decide (j < -(2 ^ 63 : Int)) || decide (j ≥ 2 ^ 63)) = false ∧ (seqIndex? j x.length).bind (x.cps[·]?) = some c ∧
      ∀ t', Q (.str ⟨#[c]⟩ t') { s₂ with toks := s₂.toks + 1 }) E s₁) E s)
    (ht : ∀ o r, letTemporaryGo value o r = pure () := by intro _ _; rfl) : WP w A (eval (.Subscript value (.Constant n kd p) pos) env) Q E s := by
  refine ⟨Subscript_Constant (hv.to fun o s₁ h₁ => ?_) ht⟩
  obtain ⟨x, u, rfl, h₁⟩ := h₁
  refine h₁.to fun i s₂ h₂ => ?_
  obtain ⟨j, v, c, rfl, hr, hc, h₂⟩ := h₂
  exact ⟨"str", _, F.slot_str_getitem.lookup, typeIs_str _ _ _, P.getItem_str hr hc (h₂ _)⟩

theorem b_xor {a b : Int} {u v : Tok} (q : ∀ t' k', Q (.int (Builtin.bitXor a b) t') ⟨h, g, d, k', os⟩) : WP w A (binaryOp .BitXor (.int a u) (.int b v)) Q E ⟨h, g, d, t, os⟩ := ⟨PyProof.Rows.xor_int (q _ _)⟩
theorem b_chr {i : Int} {u : Tok} (h0 : 0 ≤ i) (h1 : i ≤ 1114111) (q : ∀ t' k', Q (.str ⟨#[i.toNat]⟩ t') ⟨h, g, d, k', os⟩) : WP w A (call (.builtin "chr") [.int i u]) Q E ⟨h, g, d, t, os⟩ :=
  ⟨P.chr_of_int (by simp; omega) (q _ _)⟩
theorem b_add_str {x y : Str} {u v : Tok} (hz : x.length + y.length ≤ sizeLine) (q : ∀ t' k', Q (.str (x ++ y) t') ⟨h, g, d, k', os⟩) : WP w A (binaryOp .Add (.str x u) (.str y v)) Q E ⟨h, g, d, t, os⟩ := ⟨PyProof.Rows.add_str (fun _ _ => q _ _) hz⟩
theorem b_iadd_str {x y : Str} {u v : Tok} (hz : x.length + y.length ≤ sizeLine) (q : ∀ t' k', Q (.str (x ++ y) t') ⟨h, g, d, k', os⟩) : WP w A (inplaceOp .Add (.str x u) (.str y v)) Q E ⟨h, g, d, t, os⟩ := ⟨PyProof.Rows.iadd_str (fun _ _ => q _ _) hz⟩
theorem b_eq_str {x y : Str} {u v : Tok} {s : Shared} (q : Q (.bool (x == y)) s) : WP w A (compareOp .Eq (.str x u) (.str y v)) Q E s := ⟨PyProof.Rows.eq_str q⟩
end
section
variable {w : World} {A : Around} {E : Value → Shared → Prop} {h : Heap} {g : Array GenState} {d : Drawn} {t : Nat} {os : OsState} {Q : Value → Shared → Prop}
theorem b_add_int {a b : Int} {u v : Tok} (q : ∀ t' k', Q (.int (a + b) t') ⟨h, g, d, k', os⟩) : WP w A (binaryOp .Add (.int a u) (.int b v)) Q E ⟨h, g, d, t, os⟩ := ⟨P.add_int (q _ _)⟩
theorem n_chr (w : World) : nsIn (KK w) mainGlobals (Str.ofString "chr") = some none ∧ bootBuiltins (Str.ofString "chr") = some (.builtin "chr") ∧ Str.ofString "chr" ≠ "__name__" := ⟨by kernel_rfl, by decide +kernel, by decide +kernel⟩

theorem b_split {h₀ : Heap} {L : Addr} {ns : List Str} {vs : List (Option Value)} {nw : List (Addr × Obj)} {x y : Str} {u v : Tok} (S : St w h₀ L h ns vs nw) (hy : (y.length == 0) = false) (hz : x.length + 2 ≤ sizeLine)
    (q : ∀ l h' k, l.map (·.1) = Txt.split x y → St w h₀ L h' ns vs ((h.objs.size, { cls := .type "list", data := .seq (strValues l).toArray }) :: nw) → h.StaysIn h' → Q (.ref h.objs.size) ⟨h', g, d, k, os⟩) :
    WP w A (call (.builtin "str.split") [.str x u, .str y v]) Q E ⟨h, g, d, t, os⟩ := by
  refine ⟨?_⟩
  have hsz : (Builtin.Str.partsBetween x (Builtin.Str.occurrences x y 0 x.length (x.length + 1)) y.length).length ≤ sizeLine := by
    have e1 := StrLaws.occ_length_le x y 0 x.length (x.length + 1)
    rw [length_partsBetween]; omega
  have fin : ∀ l k, l.map (·.1) = Txt.split x y → Q (.ref h.objs.size) ⟨h.push { cls := .type "list", data := .seq (strValues l).toArray }, g, d, k, os⟩ := fun l k e =>
    q l _ k e ((S.keeps (fun b o e => Heap.get?_push_of_some _ e)).add (Heap.get?_push_size _ rfl) S.newL S.new0) (fun b o e => Heap.get?_push_of_some _ e)
  cases h1 : (decide (x.length < y.length) || decide (Builtin.Str.strKind x < Builtin.Str.strKind y))
  · cases hf : (Builtin.Str.occurrences x y 0 x.length (x.length + 1)).isEmpty
    · refine call_meets F.slot_str_split (typeIs_str _ _ _) F.entry_str_split (F.args_str_split_2 _ _) (meets_str_split_sep x y u v h1 hy hf (by omega) hsz) ?_
      show wants Q E _ ⟨h.push { cls := .type "list", data := .seq (strsFrom t (Builtin.Str.partsBetween x (Builtin.Str.occurrences x y 0 x.length (x.length + 1)) y.length)).toArray }, g, d, _, os⟩
      rw [strsFrom_eq]
      exact fin (numbered t _) _ ((numbered_texts _ _).trans ((if_neg (ne_true_of_eq_false h1)).trans (if_neg (ne_true_of_eq_false hf))).symm)
    · exact call_meets F.slot_str_split (typeIs_str _ _ _) F.entry_str_split (F.args_str_split_2 _ _) (meets_str_split_not_found x y u v h1 hy hf)
        (fin [(x, u)] t ((if_neg (ne_true_of_eq_false h1)).trans (if_pos hf)).symm)
  · exact call_meets F.slot_str_split (typeIs_str _ _ _) F.entry_str_split (F.args_str_split_2 _ _) (meets_str_split_cannot_occur x y u v h1)
      (fin [(x, u)] t (if_pos h1).symm)

def struckT (x : Str) (i c : Nat) (b : Int) : Str := Txt.slice x none (some (i : Int)) ++ ⟨#[(Builtin.bitXor c b).toNat]⟩ ++ Txt.slice x (some ((i : Int) + 1)) none
noncomputable def ns327 : List Str := [Str.ofString "said", Str.ofString "at", Str.ofString "bit"]
theorem struck_spec {x : Str} {i c : Nat} {b : Int} {u₁ u₂ u₃ : Tok} (W : Wd w h) (hroom : A.depth < 900) (hc : x.cps[i]? = some c) (hx : x.length ≤ 100000) (h0 : 0 ≤ Builtin.bitXor c b) (h1 : Builtin.bitXor c b ≤ 1114111)
    (q : ∀ h' t' k', h.StaysIn h' → Q (.str (struckT x i c b) t') ⟨h', g, d, k', os⟩) : WP w A (call (.ref 327) [.str x u₁, .int i u₂, .int b u₃]) Q E ⟨h, g, d, t, os⟩ := by
  have hi : i < x.length := by
    rcases Nat.lt_or_ge i x.cps.size with hi | hi
    · exact hi
    · rw [Array.getElem?_eq_none hi] at hc; cases hc
  have hz : x.length ≤ sizeLine := by rw [sizeLine_eq]; omega
  have l1 := Txt.slice_le x none (some (i : Int))
  have l2 := Txt.slice_le x (some ((i : Int) + 1)) none
  refine enterP (ns := ns327) (vs := [some (.str x u₁), some (.int i u₂), some (.int b u₃)]) (binds := [(Str.ofString "said", .str x u₁), (Str.ofString "at", .int i u₂), (Str.ofString "bit", .int b u₃)]) W (Nat.lt_trans hroom (by decide))
    rfl (by kernel_rfl) rfl (by kernel_rfl) (by kernel_rfl) (by kernel_rfl) (lkp_of (n := 0) (lookup_rev (l := ns327) rfl (by decide +kernel)) (by kernel_rfl)) (fun h₁ k S => ?_) (by kernel_rfl) (by kernel_rfl) (by kernel_rfl)
  refine r_cons (r_ret (r_bin (r_bin (r_sl_to (r_name S 0 (q := ⟨_, _, rfl, r_name S 1 (q := ⟨_, _, rfl, hz, fun h₂ t₂ k₂ s₂ => ?_⟩)⟩))))))
  have S := S.keeps s₂
  refine r_call (r_boot S (n_chr w) (cw1 kept_builtin (r_bin (r_call (r_boot S (n_ord w) (cw1 kept_builtin (r_item_name (r_name S 0 (q := ⟨_, _, rfl, r_name S 1 (q := ⟨_, _, c, rfl, ?_, ?_, fun t₃ => ⟨S.world, b_ord fun _ _ => r_name S 2 (q := b_xor fun t₄ _ => ⟨S.world, b_chr h0 h1 fun _ _ => b_add_str ?_ fun _ _ => ?_⟩)⟩⟩)⟩)))))))))
  · simp; have : x.length ≤ 100000 := hx; omega
  · have e1 : ¬ ((i : Int) < 0) := by omega
    have e2 : (decide (0 ≤ (i : Int)) && decide ((i : Int) < (x.length : Int))) = true := by simp; exact hi
    simp only [seqIndex?, if_neg e1, e2, if_true]
    exact hc
  · show _ + 1 ≤ _; rw [sizeLine_eq]; omega
  · refine r_sl_from (r_name S 0 (q := ⟨_, _, rfl, r_bin (r_name S 1 (q := r_cint fun _ _ => b_add_int fun _ _ => ⟨_, _, rfl, hz, fun h₅ t₅ k₅ s₅ => b_add_str ?_ fun t₆ k₆ => q _ _ _ (fun b o e => s₅ _ _ (S.keep _ _ e))⟩))⟩))
    have e3 : ∀ c, Str.length ⟨#[c]⟩ = 1 := fun _ => rfl
    rw [Str.length_append, e3, sizeLine_eq]; omega
end
end Mine
end
section
open PySem PySem.W PyProof.Rows PySem.Calls
set_option Elab.async false
set_option maxRecDepth 100000
set_option maxHeartbeats 8000000
namespace Mine
section
variable {w : World} {A : Around} {E : Value → Shared → Prop} {h : Heap} {g : Array GenState} {d : Drawn} {t : Nat} {os : OsState} {Q : Value → Shared → Prop}
noncomputable def ns348 : List Str := [Str.ofString "row"]
noncomputable def wordsT (x : Str) (c : Nat) : List Str := Txt.split (Txt.slice x (some (if c = 80 then 4 else 6)) none) (Str.ofString ",")
theorem comma_ne : ((Str.ofString ",").length == 0) = false := by decide +kernel
theorem P_eq (c : Nat) : ((⟨#[c]⟩ : Str) == Str.ofString "P") = decide (c = 80) := by
  have : Str.ofString "P" = ⟨#[80]⟩ := by decide +kernel
  rw [this]
  by_cases q : c = 80
  · subst q; decide
  · have h1 : (⟨#[c]⟩ : Str) ≠ ⟨#[80]⟩ := fun e => q (by injection e with e; simpa using e)
    rw [beq_eq_false_iff_ne.mpr h1, decide_eq_false q]
theorem words_spec {x : Str} {c : Nat} {u₁ : Tok} (W : Wd w h) (hroom : A.depth < 900) (hc : x.cps[0]? = some c) (hx : x.length ≤ 100000)
    (q : ∀ D l h' k', l.map (·.1) = wordsT x c → h.StaysIn h' → h.get? D = none → h'.get? D = some { cls := .type "list", data := .seq (strValues l).toArray } → Q (.ref D) ⟨h', g, d, k', os⟩) :
    WP w A (call (.ref 348) [.str x u₁]) Q E ⟨h, g, d, t, os⟩ := by
  have hz : x.length ≤ sizeLine := by rw [sizeLine_eq]; omega
  refine enterP (ns := ns348) (vs := [some (.str x u₁)]) (binds := [(Str.ofString "row", .str x u₁)]) W (Nat.lt_trans hroom (by decide))
    rfl (by kernel_rfl) rfl (by kernel_rfl) (by kernel_rfl) (by kernel_rfl) (lkp_of (n := 0) (lookup_rev (l := ns348) rfl (by decide +kernel)) (by kernel_rfl)) (fun h₁ k S => ?_) (by kernel_rfl) (by kernel_rfl) (by kernel_rfl)
  have hi : 0 < x.length := by
    rcases Nat.lt_or_ge 0 x.cps.size with hi | hi
    · exact hi
    · rw [Array.getElem?_eq_none hi] at hc; cases hc
  refine r_cons (r_if (t_cmp (r_item_const (r_name S 0 (q := ⟨_, _, rfl, r_cint fun _ _ => ⟨_, _, c, rfl, by decide, ?_, fun t₃ => r_cstr fun _ _ => b_eq_str (b_true ?_)⟩⟩)))))
  · have e2 : (decide (0 ≤ (0 : Int)) && decide ((0 : Int) < (x.length : Int))) = true := by simp; omega
    simp only [seqIndex?, if_neg (Int.lt_irrefl 0), e2, if_true]
    exact hc
  rw [P_eq]
  unfold wordsT at q
  by_cases q8 : c = 80
  · rw [if_pos q8] at q
    rw [decide_eq_true q8]
    refine c_tt (r_cons (r_ret (r_meth (r_sl_from (r_name S 0 (q := ⟨_, _, rfl, r_cint fun _ _ => ⟨_, _, rfl, hz, fun h₂ t₂ k₂ s₂ => m_str F.slot_str_split F.type_str_split (cwm1 kept_builtin (r_cstr fun _ _ => ⟨(S.keeps s₂).world, b_split (S.keeps s₂) comma_ne ?_ fun l h₃ k₃ hl S₃ s₃ => ?_⟩))⟩⟩))))))
    · have l2 := Txt.slice_le x (some (4 : Int)) none
      rw [sizeLine_eq]; omega
    · exact q _ _ _ _ hl S₃.keep (S₃.N _ (.head _)).2.2 (S₃.N _ (.head _)).1
  · rw [if_neg q8] at q
    rw [decide_eq_false q8]
    refine c_ff (r_nil (r_cons (r_ret (r_meth (r_sl_from (r_name S 0 (q := ⟨_, _, rfl, r_cint fun _ _ => ⟨_, _, rfl, hz, fun h₂ t₂ k₂ s₂ => m_str F.slot_str_split F.type_str_split (cwm1 kept_builtin (r_cstr fun _ _ => ⟨(S.keeps s₂).world, b_split (S.keeps s₂) comma_ne ?_ fun l h₃ k₃ hl S₃ s₃ => ?_⟩))⟩⟩)))))))
    · have l2 := Txt.slice_le x (some (6 : Int)) none
      rw [sizeLine_eq]; omega
    · exact q _ _ _ _ hl S₃.keep (S₃.N _ (.head _)).2.2 (S₃.N _ (.head _)).1
end
end Mine
end
section
open PySem PySem.W PyProof.Rows PySem.Calls Builtin.ObjectAttr Builtin.Getset_descriptor
set_option Elab.async false
set_option maxRecDepth 100000
set_option maxHeartbeats 8000000
namespace Mine
section
variable {prog : Program} {w : World} {A : Around} {E : Value → Shared → Prop} {s : Shared} {K : Frag} {x C : Addr} {ox : Obj} {od : Option Obj} {name : Str} {tk : Tok}
theorem gab_open {fill expr : Bool} {Q : Value → Shared → Prop} (X : K.In s.heap) (I : InstAt s.heap x ox C od) (hga : findIn K (.ref C) "__getattribute__" = some (some (.builtin "object.__getattribute__")))
    (h : wpAny (model prog w) A.in1 (Builtin.«proto.getattr_hooked» ⟨[.ref x, .str name tk], []⟩)
      (fun fin s' => match fin with | .done (.ret v) => wpAny (model prog w) A (handedOut v) Q E s' | _ => False) (fun e s' => wpAny (model prog w) A (noteIf fill (.ref x) (.str name tk) e) (fun _ s'' => E e s'') E s') s) :
    wpAny (model prog w) A (getAttrBy (.ref x) (.str name tk) fill expr) Q E s := by
  have L0 := I.type (M := model prog w)
  have L1 := looks_findIn (M := model prog w) X hga
  unfold getAttrBy
  refine wpAny_holding (wpAny_bind (L0.here (wpAny_bind (L1.here ?_))))
  show wpAny _ _ (getAttrEveryday _ _ _) _ _ _
  refine wpAny_bind (wpAny_onRaise (wpAny_runValue (codeAny_builtin PySem.F.plainObj_entry_getattr_hooked (wpAny_mono h (fun fin s' z => ?_) fun _ _ z => z))))
  rcases fin with (_ | _ | _ | _) | _ <;> first | exact z | exact z.elim

/-- what a descriptor hands out, whether the class has a hook or not -/
theorem hooked_bind {g a : Value} {r : Option Value} {Q : Fin → Shared → Prop} (X : K.In s.heap) (I : InstAt s.heap x ox C od)
    (hf : findObj K C od name = some (.bind g a)) (hk : findIn K (.ref C) "__getattr__" = some r)
    (h : wpAny (model prog w) A (call g [a, .ref x, .ref C]) (fun v s' => Q (.done (.ret v)) s') (fun _ _ => False) s) :
    wpAny (model prog w) A (Builtin.«proto.getattr_hooked» ⟨[.ref x, .str name tk], []⟩) Q E s := by
  have L0 := I.type (M := model prog w)
  have L1 := looks_find (M := model prog w) X I hf
  have L2 := looks_findIn (M := model prog w) X hk
  refine wpAny_bind (wpAny_pure (wpAny_bind (L0.here (wpAny_bind (L1.here (wpAny_bind (L2.here ?_)))))))
  cases r with
  | none =>
    show wpAny _ _ (holding [a] (call g [a, .ref x, .ref C]) >>= ret) _ _ _
    exact wpAny_bind (wpAny_holding (wpAny_mono h (fun v s' z => wpAny_pure z) fun _ _ z => z.elim))
  | some hook =>
    show wpAny _ _ ((holding [hook] (holding [a] (call g [a, .ref x, .ref C]) >>= ret)).attempt >>= _) _ _ _
    refine wpAny_bind (wpAny_attempt (wpAny_holding (wpAny_bind (wpAny_holding (wpAny_mono h (fun v s' z => wpAny_pure ?_) fun _ _ z => z.elim)))))
    exact wpAny_pure z

theorem class_attr {r : Option Value} {Q : Option Value → Shared → Prop} (X : K.In s.heap) (I : InstAt s.heap x ox C od) (hga : findIn K (.ref C) "__getattribute__" = some (some (.builtin "object.__getattribute__")))
    (hf : findObj K C od "__class__" = some (.bind (.builtin "getset_descriptor.__get__") (.builtin "object.__class__"))) (hk : findIn K (.ref C) "__getattr__" = some r) (hm : mroIn K C (.type "object") = some true)
    (h : Q (some (.ref C)) { s with toks := s.toks + 1 }) : wpAny (model prog w) A (getAttr? (.ref x) "__class__") Q E s := by
  unfold getAttr? getAttrBy?
  refine wpAny_bind (wpAny_mkText ?_)
  refine wpAny_bind (wpAny_attempt (gab_open (s := { s with toks := s.toks + 1 }) X I hga (hooked_bind (s := { s with toks := s.toks + 1 }) X I hf hk (wpAny_call (class_get (s := { s with toks := s.toks + 1 }) X I hm ?_)))))
  exact wpAny_pure (wpAny_pure h)

/-- isinstance of an own object that is none -/
def isNotObj (K : Frag) (D C : Addr) : Bool := (D != C) && (clsIn K C).isSome && (clsIn K D).isSome && typeIn K (.ref C) == some (.type "type") && typeIn K (.ref D) == some (.type "type") && instIn K (.ref C) (.type "type") == some true && instIn K (.ref D) (.type "type") == some true && subIn K (.ref D) (.ref C) == some false
theorem no_nested {D : Addr} {dep : Int} {tk : Tok} {r : Option Value} {Q : Fin → Shared → Prop} (X : K.In s.heap) (I : InstAt s.heap x ox D od) (e : isNotObj K D C = true)
    (hga : findIn K (.ref D) "__getattribute__" = some (some (.builtin "object.__getattribute__")))
    (hf : findObj K D od "__class__" = some (.bind (.builtin "getset_descriptor.__get__") (.builtin "object.__class__"))) (hk : findIn K (.ref D) "__getattr__" = some r) (hm : mroIn K D (.type "object") = some true)
    (h : Q (.done (.ret (.bool false))) { s with toks := s.toks + 1 }) :
    wpAny (model prog w) A (Builtin.«isinstance.nested» ⟨[.ref x, .ref C, .int dep tk], []⟩) Q E s := by
  obtain ⟨hh, g, d, tt, os⟩ := s
  have I0 := I
  have ht := I.type (M := model prog w)
  unfold Builtin.«isinstance.nested»
  refine wpAny_bind (ht.at ?_)
  unfold isNotObj at e
  simp only [Bool.and_eq_true, bne_iff_ne] at e
  obtain ⟨⟨⟨⟨⟨⟨⟨e0, e1⟩, e2⟩, e3⟩, e4⟩, e5⟩, e6⟩, e7⟩ := e
  rw [if_neg (fun q => e0 (by cases beq_iff_eq.mp q; rfl))]
  have L1 := looks_typeIn (M := model prog w) X (beq_iff_eq.mp e3)
  have L2 := looks_instIn (M := model prog w) X (beq_iff_eq.mp e5)
  have L5 := looks_instIn (M := model prog w) X (beq_iff_eq.mp e6)
  have L4 : Looks (model prog w) hh (isSubtype (.ref D) (.ref C)) false := looks_subIn X (beq_iff_eq.mp e7)
  have L3 : Looks (model prog w) hh (isInstance (.ref x) (.ref C)) false := ht.andThen L4
  refine wpAny_bind (L1.at ?_)
  rw [if_pos (by decide)]
  k_delta "plainIsInstance"
  unfold isType
  repeat lk
  unfold clsIn at e1 e2
  split at e1
  · rename_i ho
    refine nd_load (X _ _ ho) (nd_pure (wpAny_pure ?_))
    simp only [Bool.not_true, Bool.false_eq_true, if_false]
    refine wpAny_bind (L3.at ?_)
    simp only [Bool.false_eq_true, if_false]
    refine wpAny_bind (class_attr X I hga hf hk hm ?_)
    split at e2
    · rename_i ho2
      refine wpAny_bind (wpAny_bind (wpAny_loadPart (X _ _ ho2) (wpAny_pure ?_)))
      simp only [Bool.not_true, Bool.false_eq_true, if_false]
      refine wpAny_bind (wpAny_rule ?_)
      refine L4.at ?_
      exact wpAny_pure h
    · cases e2
  · cases e1
theorem no_call {D : Addr} {r : Option Value} {Q : Value → Shared → Prop} (X : K.In s.heap) (I : InstAt s.heap x ox D od) (e : isNotObj K D C = true)
    (hga : findIn K (.ref D) "__getattribute__" = some (some (.builtin "object.__getattribute__")))
    (hf : findObj K D od "__class__" = some (.bind (.builtin "getset_descriptor.__get__") (.builtin "object.__class__"))) (hk : findIn K (.ref D) "__getattr__" = some r) (hm : mroIn K D (.type "object") = some true)
    (h : Q (.bool false) { s with toks := s.toks + 1 }) : wpAny (model prog w) A (call (.builtin "isinstance") [.ref x, .ref C]) Q E s :=
  call_isinstance (S := fun _ R s => (K.In s.heap ∧ InstAt s.heap x ox D od) ∧ R (.ok (.ret (.bool false))) { s with toks := s.toks + 1 })
    (fun _ _ _ _ _ hs => isinstance_outer (no_nested hs.1.1 hs.1.2 e hga hf hk hm hs.2) (by intro e; cases e)) ⟨⟨X, I⟩, h⟩
end
end Mine
end
section
open PySem PySem.W PyProof.Rows PySem.Calls Builtin.ObjectAttr Builtin.Getset_descriptor
set_option Elab.async false
set_option maxRecDepth 100000
set_option maxHeartbeats 8000000
namespace Mine
structure CC (w : World) (A : Around) (c : Code) (R : Result → Shared → Prop) (s : Shared) : Prop where
  out : codeAny (MM w) A c R s
def RQ (Q : Value → Shared → Prop) : Result → Shared → Prop := fun r s' => match r with | .ok (.ret v) => Q v s' | _ => False

section
variable {K : Frag} {C : Addr} {od : Obj} {name : Str} {a g v : Value}
theorem findObj_bind (h1 : (clsIn K C).any (·.hasDict) = true) (h2 : findIn K (.ref C) name = some (some a)) (h3 : specialIn K a "__get__" = some (some g)) (h4 : takesIn K a = some false) (h5 : lookIn name od = some none) (h6 : copiedNames.contains name = false) :
    findObj K C (some od) name = some (.bind g a) := by
  obtain ⟨cd, hc, hd⟩ := any_some h1
  unfold findObj
  rw [hc, Option.bind_some, h2, Option.bind_some]
  dsimp only
  rw [h3, Option.bind_some]
  dsimp only
  rw [h4, Option.bind_some]
  dsimp only
  unfold W.ownOf
  rw [hd, if_pos rfl]
  dsimp only
  rw [h5, Option.bind_some]
  dsimp only
  rw [h6]
  rfl
theorem findObj_val (h1 : (clsIn K C).any (·.hasDict) = true) (h2 : findIn K (.ref C) name = some none) (h5 : lookIn name od = some (some v)) :
    findObj K C (some od) name = some (.value v) := by
  obtain ⟨cd, hc, hd⟩ := any_some h1
  unfold findObj
  rw [hc, Option.bind_some, h2, Option.bind_some]
  dsimp only
  rw [Option.bind_some, Option.bind_some]
  dsimp only
  unfold W.ownOf
  rw [hd, if_pos rfl]
  dsimp only
  rw [h5, Option.bind_some]
theorem findObj_data {o : Option Obj} (h1 : (clsIn K C).isSome = true) (h2 : findIn K (.ref C) name = some (some a)) (h3 : specialIn K a "__get__" = some (some g)) (h4 : takesIn K a = some true) :
    findObj K C o name = some (.bind g a) := by
  obtain ⟨cd, hc⟩ := Option.isSome_iff_exists.mp h1
  unfold findObj
  rw [hc, Option.bind_some, h2, Option.bind_some]
  dsimp only
  rw [h3, Option.bind_some]
  dsimp only
  rw [h4, Option.bind_some]
end

/-- a method of the text entered: b stands below, nw is the ledger that it may write -/
theorem enterC {w : World} {A : Around} {h b : Heap} {g : Array GenState} {d : Drawn} {t : Nat} {os : OsState} {Q : Value → Shared → Prop} {f : Addr} {oc : Value} {od : Option Addr} {osl : Array (Option Value)}
    {body : List Stmt} {args : List Value} {binds : List (Str × Value)} {ns : List Str} {vs : List (Option Value)} {nw : List (Addr × Obj)}
    (W : Wd w b) (hroom : A.depth < recursionLimit) (hbh : b.StaysIn h) (hnw : ∀ p ∈ nw, h.get? p.1 = some p.2 ∧ b.get? p.1 = none)
    (ho : (KK w).lookup f = some ⟨oc, od, .func (fdOf w f), osl⟩) (hcd : codeIn (KK w) (fdOf w f).code (fdOf w f).qualname = true)
    (hbody : (fdOf w f).body = .stmts body) (hbind : bindArgs (fdOf w f) ⟨args, []⟩ = pure binds)
    (hloc : (binds.all fun y => (fdOf w f).scope.names.lookup y.1 == some .local) = true)
    (hcell : ((fdOf w f).scope.names.all fun x => x.2 != .cell) = true)
    (hvs : ∀ x, binds.reverse.lookup x = lkp ns vs x)
    (hb : ∀ h₁ k, St w b h.objs.size h₁ ns vs nw →
      WP w (A.deeper (callEnv (fdOf w f) h.objs.size f)) (execs body (callEnv (fdOf w f) h.objs.size f))
        (fun fl s' => Q (match fl with | .ret v => v | _ => .none) s') (fun _ _ => False) ⟨h₁, g, d, k, os⟩)
    (hco : (fdOf w f).scope.isCoroutine = false) (hgen : (fdOf w f).scope.isGenerator = false) (hk : (fdOf w f).scope.kind = .function) :
    CC w A (.call (.ref f) ⟨args, []⟩) (RQ Q) ⟨h, g, d, t, os⟩ := by
  have Wh := W.keeps hbh
  refine ⟨codeAny_call_def (fd := fdOf w f) (body := body) (binds := binds) hroom (Wh.X _ _ ho) rfl Wh.nolimit (codeRec_of Wh.X hcd) hbody (BindsTo.of_eq hbind)
    (fun x hx => by simpa using List.all_eq_true.mp hcell x hx) (fun x hx => by simpa using List.all_eq_true.mp hloc x hx) (fun h₁ hns hk₁ => ?_) hco hgen hk⟩
  refine wpAny_mono (hb h₁ _ ⟨?_, fun c o e => hk₁ _ _ (hbh _ _ e), ?_, fun p hp => ⟨hk₁ _ _ (hnw p hp).1, Nat.ne_of_lt (Heap.lt_size (hnw p hp).1), (hnw p hp).2⟩, W⟩).out (fun _ _ x => x) (fun _ _ x => x.elim)
  · have e : (fun x => binds.reverse.lookup x) = lkp ns vs := funext hvs
    rw [← e]; exact hns
  · cases q : b.get? h.objs.size with
    | none => rfl
    | some o => exact absurd (Heap.lt_size (hbh _ _ q)) (Nat.lt_irrefl _)

section
variable {w : World} {A : Around} {E : Value → Shared → Prop} {h₀ h : Heap} {g : Array GenState} {d : Drawn} {t : Nat} {os : OsState} {L x C dx f : Addr} {ns : List Str} {vs : List (Option Value)} {nw : List (Addr × Obj)} {od : Obj} {name : Str}

/-- an object of a text's class, its dict -/
structure At (h : Heap) (x C dx : Addr) (od : Obj) : Prop where
  x : h.get? x = some (instObj C dx)
  d : h.get? dx = some od
theorem At.inst (I : At h x C dx od) : InstAt h x (instObj C dx) C (some od) := ⟨I.x, rfl, rfl, I.d⟩
theorem At.keeps {h' : Heap} (I : At h x C dx od) (k : h.StaysIn h') : At h' x C dx od := ⟨k _ _ I.x, k _ _ I.d⟩

/-- what the text's class C needs, so that its instances are read by the plain road -/
structure Cls (w : World) (C : Addr) : Prop where
  ga : findIn (KK w) (.ref C) "__getattribute__" = some (some (.builtin "object.__getattribute__"))
  sa : findIn (KK w) (.ref C) "__setattr__" = some (some (.builtin "object.__setattr__"))
  hd : (clsIn (KK w) C).any (·.hasDict) = true
  hook : ∃ r, findIn (KK w) (.ref C) "__getattr__" = some r
  over : plainOver (KK w) C = true

theorem r_attr_of {o : Expr} {apos : Pos} {env : Env} {s : Shared} {Q : Value → Shared → Prop} (h : WP w A (eval o env) (fun ov s₁ => WP w A (getAttr ov name true) Q E s₁) E s)
    (hbase : attributeBase o name env (eval o env) = eval o env := by rfl) (ht : ∀ ov r, letTemporaryGo o ov r = pure () := by intro _ _; rfl) : WP w A (eval (.Attribute o name apos) env) Q E s := by
  refine ⟨?_⟩
  rw [arm_eval_Attribute, hbase]
  exact wpAny_bind (h.to fun ov s₁ h₁ => wpAny_bind (wpAny_standAt (wpAny_bind (wpAny_holding (h₁.to fun r s₂ h₂ => wpAny_bind (wpAny_of_eq (ht ov r) (wpAny_pure h₂)))))))
theorem b_attr {v : Value} {expr : Bool} {Q : Value → Shared → Prop} (W : Wd w h) (I : At h x C dx od) (Y : Cls w C) (hn : findIn (KK w) (.ref C) name = some none) (hv : lookIn name od = some (some v)) (hh : handedIn v = true)
    (q : ∀ t', Q v ⟨h, g, d, t', os⟩) : WP w A (getAttr (.ref x) name expr) Q E ⟨h, g, d, t, os⟩ := ⟨get_value W.X I.inst Y.ga (findObj_val Y.hd hn hv) hh (q _)⟩

theorem r_seta {o : Expr} {attr : Str} {value : Expr} {pos' pos : Pos} {env : Env} {s : Shared} {Q : Flow → Shared → Prop}
    (h : WP w A (eval value env) (fun v s₁ => WP w A (eval o env) (fun ov s₂ => WP w A (setAttr ov attr v) (fun _ => Q .next) E s₂) E s₁) E s)
    (hs : swapsWith value (some (.Attribute o attr pos')) pos.line env = pure false := by rfl) : WP w A (exec (.Assign [.Attribute o attr pos'] value pos) env) Q E s :=
  ⟨plainObj_wpAny_Assign_Attribute (h.to fun _ _ x => x.to fun _ _ x => x.out) hs⟩

theorem b_setattr {v : Value} {Q : Unit → Shared → Prop} (pre post : List (Addr × Obj)) (S : St w h₀ L h ns vs (pre ++ (dx, od) :: post)) (hb : h₀.objs.size ≤ L) (I : At h x C dx od) (Y : Cls w C) (ht : takerIn (KK w) C name = some none)
    (hl : (lookIn name od).isSome = true) (h1 : ∀ p ∈ pre, p.1 ≠ dx) (h2 : ∀ p ∈ post, p.1 ≠ dx)
    (hz : ∀ tk, ∃ es n, (Obj.putName name (PyData.keyHash w.params name) (.str name tk) v od).data = .dict (es : List DictEntry).toArray n ∧ es.length ≤ 1000)
    (q : ∀ h' tk t', St w h₀ L h' ns vs (pre ++ (dx, Obj.putName name (PyData.keyHash w.params name) (.str name tk) v od) :: post) → Q () ⟨h', g, d, t', os⟩) :
    WP w A (setAttr (.ref x) name v) Q E ⟨h, g, d, t, os⟩ := by
  obtain ⟨es, n, e', hz⟩ := hz (t + 1)
  have F : Fr h₀ L h (lkp ns vs) := ⟨S.F, S.keep, hb⟩
  refine ⟨set_plain S.world.X I.inst Y.sa (osa_dict (s := ⟨h, g, d, t + 1, os⟩) F S.N S.world.X I.inst rfl Y.over ht Y.hd hl h1 h2 rfl e' hz fun h' F' N' => ?_)⟩
  exact q h' _ _ ⟨F'.ns, F'.keep, S.off, N', S.W⟩

/-- a bound method -/
theorem m_inst {pl : Sem Bool} {Q : Value × List Value → Shared → Prop} (W : Wd w h) (I : At h x C dx od) (Y : Cls w C) {hook : Value} (hh : findIn (KK w) (.ref C) "__getattr__" = some (some hook))
    (hn : findIn (KK w) (.ref C) name = some (some (.ref f))) (hg : specialIn (KK w) (.ref f) "__get__" = some (some (.builtin "function.__get__"))) (ht : takesIn (KK w) (.ref f) = some false) (hl : lookIn name od = some none) (hc : copiedNames.contains name = false)
    (hty : typeIn (KK w) (.ref f) = some (.type "function"))
    (q : ∀ h' t', h.StaysIn h' → h'.get? h.objs.size = some (methodObj (.ref f) (.ref x)) → Q (.ref h.objs.size, []) ⟨h', g, d, t', os⟩) : WP w A (getMethod (.ref x) name pl) Q E ⟨h, g, d, t, os⟩ := by
  have hcan := PySem.F.canon_object_ga
  refine ⟨?_⟩
  unfold getMethod specialOf
  refine wpAny_bind (wpAny_bind (I.inst.type.here ((looks_findIn W.X Y.ga).here ?_)))
  dsimp only
  rw [hcan, if_neg (by decide)]
  refine wpAny_bind (wpAny_bind (I.inst.type.here ((looks_findIn W.X hh).here ?_)))
  rw [if_pos (show (some hook).isSome = true from rfl)]
  unfold getAttr
  refine wpAny_bind (wpAny_bind (wpAny_mkText ?_))
  refine gab_open (s := ⟨h, g, d, t + 1, os⟩) W.X I.inst Y.ga (hooked_bind (s := ⟨h, g, d, t + 1, os⟩) W.X I.inst (findObj_bind Y.hd hn hg ht hl hc) hh (wpAny_call (fn_get (s := ⟨h, g, d, t + 1, os⟩) W.X hty ?_)))
  refine wpAny_of_eq (handedOut_of (v := .ref h.objs.size) rfl) ?_
  exact wpAny_pure (q _ _ (fun b o e => Heap.get?_push_of_some _ e) (Heap.get?_push_size _ rfl))

theorem m_plain {pl : Sem Bool} {Q : Value × List Value → Shared → Prop} (W : Wd w h) (I : At h x C dx od) (Y : Cls w C) (hh : findIn (KK w) (.ref C) "__getattr__" = some none)
    (hn : findIn (KK w) (.ref C) name = some (some (.ref f))) (hty : typeIn (KK w) (.ref f) = some (.type "function")) (hl : lookIn name od = some none)
    (q : Q (.ref f, [.ref x]) ⟨h, g, d, t, os⟩) : WP w A (getMethod (.ref x) name pl) Q E ⟨h, g, d, t, os⟩ :=
  ⟨method_fn W.X I.inst Y.ga hh hn hty (by show (lookIn name od).map _ = _; rw [hl]; rfl) q⟩

def MB (w : World) (p f x : Addr) (h : Heap) : Prop := Wd w h ∧ h.get? p = some (methodObj (.ref f) (.ref x))
variable {p : Addr} {Q : Value → Shared → Prop} {env : Env} {pos : Pos} {s : Shared}
theorem keeps_B (hf : fnIn (KK w) f = true) (h : Heap) (X : MB w p f x h) : ∃ k, (k = Keeper.frame ∨ k = Keeper.machine ∨ k = Keeper.boundFrame) ∧ Looks (MM w) h (keeperOf (.ref p)) k := keeps_M hf h ⟨X.2, X.1.X⟩
theorem cwb0 (hf : fnIn (KK w) f = true) (h : MB w p f x s.heap ∧ WP w A (call (.ref p) []) Q E s) : WP w A (callWith pos (.ref p) [] (backTo pos (starEach [] env)) []) Q E s :=
  ⟨callWith_of (P := MB w p f x) rfl (keeps_B hf) (evalArgs_nil3 ⟨h.1, h.2.out⟩)⟩
theorem cwb_args {e : Expr} {rest : List Expr} (hf : fnIn (KK w) f = true) (hplain : (backTo pos (starEach (e :: rest) env)).any (·.1) = false)
    (h : WP w A (spliced (backTo pos (starEach (e :: rest) env))) (fun vs s₁ => MB w p f x s₁.heap ∧ WP w A (call (.ref p) vs) Q E s₁) E s)
    (he : starEach (e :: rest) env = (false, eval e env) :: starEach rest env := by assumption) : WP w A (callWith pos (.ref p) [] (backTo pos (starEach (e :: rest) env)) []) Q E s := by
  rw [he] at h hplain ⊢
  exact ⟨callWith_of (P := MB w p f x) (by rw [hplain]; rfl) (keeps_B hf) (evalArgs_plain (h.to fun _ _ x => ⟨x.1, x.2.out⟩))⟩
theorem cwb2 {e₁ e₂ : Expr} (hf : fnIn (KK w) f = true) (h : WP w A (eval e₁ env) (fun v₁ s₁ => WP w A (eval e₂ env) (fun v₂ s₂ => MB w p f x s₂.heap ∧ WP w A (call (.ref p) [v₁, v₂]) Q E s₂) E s₁) E s)
    (he₁ : starEach [e₁, e₂] env = (false, eval e₁ env) :: starEach [e₂] env := by rfl) (he₂ : starEach [e₂] env = (false, eval e₂ env) :: starEach [] env := by rfl) :
    WP w A (callWith pos (.ref p) [] (backTo pos (starEach [e₁, e₂] env)) []) Q E s :=
  cwb_args hf (by rw [he₁, he₂]; rfl) (sp_cons he₁ (h.monoQ fun _ _ x => sp_cons he₂ (x.monoQ fun _ _ x => sp_nil x)))
theorem cwb3 {e₁ e₂ e₃ : Expr} (hf : fnIn (KK w) f = true) (h : WP w A (eval e₁ env) (fun v₁ s₁ => WP w A (eval e₂ env) (fun v₂ s₂ => WP w A (eval e₃ env) (fun v₃ s₃ => MB w p f x s₃.heap ∧ WP w A (call (.ref p) [v₁, v₂, v₃]) Q E s₃) E s₂) E s₁) E s)
    (he₁ : starEach [e₁, e₂, e₃] env = (false, eval e₁ env) :: starEach [e₂, e₃] env := by rfl) (he₂ : starEach [e₂, e₃] env = (false, eval e₂ env) :: starEach [e₃] env := by rfl) (he₃ : starEach [e₃] env = (false, eval e₃ env) :: starEach [] env := by rfl) :
    WP w A (callWith pos (.ref p) [] (backTo pos (starEach [e₁, e₂, e₃] env)) []) Q E s :=
  cwb_args hf (by rw [he₁, he₂, he₃]; rfl) (sp_cons he₁ (h.monoQ fun _ _ x => sp_cons he₂ (x.monoQ fun _ _ x => sp_cons he₃ (x.monoQ fun _ _ x => sp_nil x))))
theorem b_bound {args : List Value} (X : MB w p f x s.heap) (h : CC w A (.call (.ref f) ⟨.ref x :: args, []⟩) (RQ Q) s) : WP w A (call (.ref p) args) Q E s :=
  ⟨wpAny_call (method_call X.2 (codeAny_mono h.out fun r s' z => by rcases r with e | (v | _ | _ | _) <;> first | exact z | exact z.elim))⟩
theorem b_fn {v : Value} {args : List Value} (h : CC w A (.call v ⟨args, []⟩) (RQ Q) s) : WP w A (call v args) Q E s :=
  ⟨wpAny_call (codeAny_mono h.out fun r s' z => by rcases r with e | (v | _ | _ | _) <;> first | exact z | exact z.elim)⟩

/-- an object made: its `__init__` runs over what stood before -/
theorem b_make {args : List Value} (W : Wd w h) (hm : makesIn (KK w) C = true) (hi : findIn (KK w) (.ref C) "__init__" = some (some (.ref f))) (hf : typeIn (KK w) (.ref f) = some (.type "function"))
    (q : ∀ h', h.StaysIn h' → At h' (h.objs.size + 1) C h.objs.size emptyDict → h'.objs.size = h.objs.size + 2 → CC w (A.under (.builtin "type.__call__" ⟨.ref C :: args, []⟩)) (.call (.ref f) ⟨.ref (h.objs.size + 1) :: args, []⟩) (RQ fun v s' => v = .none ∧ Q (.ref (h.objs.size + 1)) s') ⟨h', g, d, t, os⟩) :
    WP w A (call (.ref C) args) Q E ⟨h, g, d, t, os⟩ := by
  refine ⟨wpAny_call (make_core (makes_of W.X hm) (looks_findIn W.X hi) (fun self => bind_fn W.X self hf) (.inl rfl) ?_)⟩
  refine codeAny_mono (q _ (fun b o e => Heap.get?_push_of_some _ (Heap.get?_push_of_some _ e)) ⟨?_, ?_⟩ (by rw [Heap.size_push, Heap.size_push])).out fun r s' z => by rcases r with e | (v | _ | _ | _) <;> first | exact z | exact z.elim
  · have := Heap.get?_push_size (h.push emptyDict) (o := instObj C h.objs.size) rfl
    rwa [Heap.size_push] at this
  · exact Heap.get?_push_of_some _ (Heap.get?_push_size _ rfl)
end
end Mine
end
section
open PySem PySem.W PyProof.Rows PySem.Calls Builtin.ObjectAttr Builtin.Getset_descriptor
set_option Elab.async false
set_option maxRecDepth 100000
set_option maxHeartbeats 8000000
namespace Mine
noncomputable def put (w : World) (name : Str) (tk : Tok) (v : Value) (od : Obj) : Obj := Obj.putName name (PyData.keyHash w.params name) (.str name tk) v od
noncomputable def sT : Str := Str.ofString "talker"
noncomputable def sY : Str := Str.ofString "sentence_type"
noncomputable def sD : Str := Str.ofString "data"
noncomputable def sM : Str := Str.ofString "manufacturer"
noncomputable def odT (w : World) (t₁ t₂ t₃ : Tok) (v₁ v₂ v₃ : Value) : Obj := put w sD t₃ v₃ (put w sY t₂ v₂ (put w sT t₁ v₁ emptyDict))
noncomputable def odP (w : World) (t₁ t₃ : Tok) (v₁ v₃ : Value) : Obj := put w sD t₃ v₃ (put w sM t₁ v₁ emptyDict)
section
variable {w : World} {t₁ t₂ t₃ : Tok} {v₁ v₂ v₃ : Value}
theorem odT_1 : lookIn sT (odT w t₁ t₂ t₃ v₁ v₂ v₃) = some (some v₁) := by kernel_rfl
theorem odT_2 : lookIn sY (odT w t₁ t₂ t₃ v₁ v₂ v₃) = some (some v₂) := by kernel_rfl
theorem odT_3 : lookIn sD (odT w t₁ t₂ t₃ v₁ v₂ v₃) = some (some v₃) := by kernel_rfl
theorem odT_r : lookIn (Str.ofString "render") (odT w t₁ t₂ t₃ v₁ v₂ v₃) = some none := by kernel_rfl
theorem odT_i : lookIn (Str.ofString "identifier") (odT w t₁ t₂ t₃ v₁ v₂ v₃) = some none := by kernel_rfl
theorem odP_1 : lookIn sM (odP w t₁ t₃ v₁ v₃) = some (some v₁) := by kernel_rfl
theorem odP_3 : lookIn sD (odP w t₁ t₃ v₁ v₃) = some (some v₃) := by kernel_rfl
theorem odP_r : lookIn (Str.ofString "render") (odP w t₁ t₃ v₁ v₃) = some none := by kernel_rfl
theorem odP_i : lookIn (Str.ofString "identifier") (odP w t₁ t₃ v₁ v₃) = some none := by kernel_rfl
end
theorem cls_291 (w : World) : Cls w 291 := ⟨by kernel_rfl, by kernel_rfl, by kernel_rfl, ⟨some (.ref 132), by kernel_rfl⟩, by kernel_rfl⟩
theorem cls_309 (w : World) : Cls w 309 := ⟨by kernel_rfl, by kernel_rfl, by kernel_rfl, ⟨some (.ref 132), by kernel_rfl⟩, by kernel_rfl⟩
theorem cls_244 (w : World) : Cls w 244 := ⟨by kernel_rfl, by kernel_rfl, by kernel_rfl, ⟨some (.ref 132), by kernel_rfl⟩, by kernel_rfl⟩
theorem cls_273 (w : World) : Cls w 273 := ⟨by kernel_rfl, by kernel_rfl, by kernel_rfl, ⟨none, by kernel_rfl⟩, by kernel_rfl⟩

/-- the three classes of sentences: the talkers' two and the proprietary one -/
def IsTalk (C : Addr) : Prop := C = 291 ∨ C = 309
theorem IsTalk.cls {w : World} {C : Addr} (h : IsTalk C) : Cls w C := by rcases h with rfl | rfl; exact cls_291 w; exact cls_309 w
theorem IsTalk.makes {w : World} {C : Addr} (h : IsTalk C) : makesIn (KK w) C = true := by rcases h with rfl | rfl <;> kernel_rfl
theorem IsTalk.init {w : World} {C : Addr} (h : IsTalk C) : findIn (KK w) (.ref C) "__init__" = some (some (.ref 182)) := by rcases h with rfl | rfl <;> kernel_rfl
theorem fn_182 (w : World) : typeIn (KK w) (.ref 182) = some (.type "function") := by kernel_rfl
theorem fn_234 (w : World) : typeIn (KK w) (.ref 234) = some (.type "function") := by kernel_rfl
theorem IsTalk.taker {w : World} {C : Addr} (h : IsTalk C) : takerIn (KK w) C sT = some none ∧ takerIn (KK w) C sY = some none ∧ takerIn (KK w) C sD = some none := by
  rcases h with rfl | rfl <;> exact ⟨by kernel_rfl, by kernel_rfl, by kernel_rfl⟩
theorem makes_244 (w : World) : makesIn (KK w) 244 = true := by kernel_rfl
theorem init_244 (w : World) : findIn (KK w) (.ref 244) "__init__" = some (some (.ref 234)) := by kernel_rfl
theorem taker_244 (w : World) : takerIn (KK w) 244 sM = some none ∧ takerIn (KK w) 244 sD = some none := ⟨by kernel_rfl, by kernel_rfl⟩
theorem n_list (w : World) : nsIn (KK w) mainGlobals (Str.ofString "list") = some none ∧ bootBuiltins (Str.ofString "list") = some (.type "list") ∧ Str.ofString "list" ≠ "__name__" := ⟨by kernel_rfl, by decide +kernel, by decide +kernel⟩

section
variable {w : World} {A : Around} {E : Value → Shared → Prop} {h₀ h b : Heap} {g : Array GenState} {d : Drawn} {t : Nat} {os : OsState} {L x C dx D : Addr} {ns : List Str} {vs : List (Option Value)} {nw : List (Addr × Obj)} {its : Array Value} {Q : Value → Shared → Prop}
theorem b_list {n : Nat} (S : St w h₀ L h ns vs nw) (hl : h.get? D = some { cls := .type "list", data := .seq its n }) (hz : its.size ≤ sizeLine)
    (q : ∀ h' c, St w h₀ L h' ns vs ((h.objs.size, { cls := .type "list", data := .seq its c }) :: nw) → h.StaysIn h' → Q (.ref h.objs.size) ⟨h', g, d, t, os⟩) :
    WP w A (call (.type "list") [.ref D]) Q E ⟨h, g, d, t, os⟩ :=
  ⟨call_list_seq D (.inl rfl) hl rfl rfl (fun h' c k e => q h' c ((S.keeps k).add e S.newL S.new0) k) hz⟩

noncomputable def ns182 : List Str := [Str.ofString "self", sT, sY, sD]
theorem init_182 {v₁ v₂ : Value} {n : Nat} (W : Wd w b) (hroom : A.depth < 950) (hC : IsTalk C) (hbh : b.StaysIn h) (hbz : b.objs.size ≤ h.objs.size) (I : At h x C dx emptyDict) (hxd : x ≠ dx) (hbx : b.get? x = none) (hbd : b.get? dx = none)
    (hD : b.get? D = some { cls := .type "list", data := .seq its n }) (hz : its.size ≤ sizeLine)
    (q : ∀ h' t₁ t₂ t₃ Dn c k, b.StaysIn h' → At h' x C dx (odT w t₁ t₂ t₃ v₁ v₂ (.ref Dn)) → h'.get? Dn = some { cls := .type "list", data := .seq its c } → b.get? Dn = none → Q .none ⟨h', g, d, k, os⟩) :
    CC w A (.call (.ref 182) ⟨[.ref x, v₁, v₂, .ref D], []⟩) (RQ Q) ⟨h, g, d, t, os⟩ := by
  refine enterC (b := b) (nw := [(x, instObj C dx), (dx, emptyDict)]) (ns := ns182) (vs := [some (.ref x), some v₁, some v₂, some (.ref D)]) (binds := [(Str.ofString "self", .ref x), (sT, v₁), (sY, v₂), (sD, .ref D)]) W (Nat.lt_trans hroom (by decide)) hbh
    (fun p hp => by rcases List.mem_cons.mp hp with rfl | hp; exact ⟨I.x, hbx⟩; rcases List.mem_cons.mp hp with rfl | hp; exact ⟨I.d, hbd⟩; cases hp)
    rfl (by kernel_rfl) rfl (by kernel_rfl) (by kernel_rfl) (by kernel_rfl) (lkp_of (n := 0) (lookup_rev (l := ns182) rfl (by decide +kernel)) (by kernel_rfl)) (fun h₁ k S => ?_) (by kernel_rfl) (by kernel_rfl) (by kernel_rfl)
  have T := hC.taker (w := w)
  refine r_cons (r_seta (r_name S 1 (q := r_name S 0 (q := ?_))))
  refine b_setattr [(x, _)] [] S hbz ⟨S.at (.head _), S.at (.tail _ (.head _))⟩ hC.cls T.1 (by kernel_rfl) (fun p hp => by rw [List.mem_singleton.mp hp]; exact hxd) (fun _ hp => nomatch hp) (fun _ => ⟨[_], _, rfl, by simp⟩) fun h₂ t₁ _ S => ?_
  refine r_cons (r_seta (r_name S 2 (q := r_name S 0 (q := ?_))))
  refine b_setattr [(x, _)] [] S hbz ⟨S.at (.head _), S.at (.tail _ (.head _))⟩ hC.cls T.2.1 (by kernel_rfl) (fun p hp => by rw [List.mem_singleton.mp hp]; exact hxd) (fun _ hp => nomatch hp) (fun _ => ⟨[_, _], _, rfl, by simp⟩) fun h₃ t₂ _ S₃ => ?_
  refine r_cons (r_seta (r_call (r_boot S₃ (n_list w) (cw1 kept_type (r_name S₃ 3 (q := ⟨S₃.world, b_list S₃ (S₃.keep _ _ hD) hz fun h₄ c S k => r_name S 0 (q := ?_)⟩))))))
  refine b_setattr [_, (x, _)] [] S hbz ⟨S.at (.tail _ (.head _)), S.at (.tail _ (.tail _ (.head _)))⟩ hC.cls T.2.2 (by kernel_rfl) (fun p hp => ?_) (fun _ hp => nomatch hp) (fun _ => ⟨[_, _, _], _, rfl, by simp⟩) fun h₅ t₃ _ S => ?_
  · rcases List.mem_cons.mp hp with rfl | hp
    · exact Nat.ne_of_gt (Heap.lt_size (S₃.at (.tail _ (.head _))))
    · rw [List.mem_singleton.mp hp]; exact hxd
  · exact r_nil (q _ _ _ _ _ _ _ S.keep ⟨S.at (.tail _ (.head _)), S.at (.tail _ (.tail _ (.head _)))⟩ (S.at (.head _)) (S.N _ (.head _)).2.2)
noncomputable def ns234 : List Str := [Str.ofString "self", sM, sD]
theorem init_234 {v₁ : Value} {n : Nat} (W : Wd w b) (hroom : A.depth < 950) (hbh : b.StaysIn h) (hbz : b.objs.size ≤ h.objs.size) (I : At h x 244 dx emptyDict) (hxd : x ≠ dx) (hbx : b.get? x = none) (hbd : b.get? dx = none)
    (hD : b.get? D = some { cls := .type "list", data := .seq its n }) (hz : its.size ≤ sizeLine)
    (q : ∀ h' t₁ t₃ Dn c k, b.StaysIn h' → At h' x 244 dx (odP w t₁ t₃ v₁ (.ref Dn)) → h'.get? Dn = some { cls := .type "list", data := .seq its c } → b.get? Dn = none → Q .none ⟨h', g, d, k, os⟩) :
    CC w A (.call (.ref 234) ⟨[.ref x, v₁, .ref D], []⟩) (RQ Q) ⟨h, g, d, t, os⟩ := by
  refine enterC (b := b) (nw := [(x, instObj 244 dx), (dx, emptyDict)]) (ns := ns234) (vs := [some (.ref x), some v₁, some (.ref D)]) (binds := [(Str.ofString "self", .ref x), (sM, v₁), (sD, .ref D)]) W (Nat.lt_trans hroom (by decide)) hbh
    (fun p hp => by rcases List.mem_cons.mp hp with rfl | hp; exact ⟨I.x, hbx⟩; rcases List.mem_cons.mp hp with rfl | hp; exact ⟨I.d, hbd⟩; cases hp)
    rfl (by kernel_rfl) rfl (by kernel_rfl) (by kernel_rfl) (by kernel_rfl) (lkp_of (n := 0) (lookup_rev (l := ns234) rfl (by decide +kernel)) (by kernel_rfl)) (fun h₁ k S => ?_) (by kernel_rfl) (by kernel_rfl) (by kernel_rfl)
  have T := taker_244 w
  refine r_cons (r_seta (r_name S 1 (q := r_name S 0 (q := ?_))))
  refine b_setattr [(x, _)] [] S hbz ⟨S.at (.head _), S.at (.tail _ (.head _))⟩ (cls_244 w) T.1 (by kernel_rfl) (fun p hp => by rw [List.mem_singleton.mp hp]; exact hxd) (fun _ hp => nomatch hp) (fun _ => ⟨[_], _, rfl, by simp⟩) fun h₃ t₁ _ S₃ => ?_
  refine r_cons (r_seta (r_call (r_boot S₃ (n_list w) (cw1 kept_type (r_name S₃ 2 (q := ⟨S₃.world, b_list S₃ (S₃.keep _ _ hD) hz fun h₄ c S k => r_name S 0 (q := ?_)⟩))))))
  refine b_setattr [_, (x, _)] [] S hbz ⟨S.at (.tail _ (.head _)), S.at (.tail _ (.tail _ (.head _)))⟩ (cls_244 w) T.2 (by kernel_rfl) (fun p hp => ?_) (fun _ hp => nomatch hp) (fun _ => ⟨[_, _], _, rfl, by simp⟩) fun h₅ t₃ _ S => ?_
  · rcases List.mem_cons.mp hp with rfl | hp
    · exact Nat.ne_of_gt (Heap.lt_size (S₃.at (.tail _ (.head _))))
    · rw [List.mem_singleton.mp hp]; exact hxd
  · exact r_nil (q _ _ _ _ _ _ S.keep ⟨S.at (.tail _ (.head _)), S.at (.tail _ (.tail _ (.head _)))⟩ (S.at (.head _)) (S.N _ (.head _)).2.2)

theorem under_depth {a : Args} : (A.under (.builtin "type.__call__" a)).depth ≤ A.depth + 2 := by
  show A.depth + Code.weight _ ≤ _
  have e1 : (Code.builtin "type.__call__" a).frames = 0 := by kernel_rfl
  have e2 : (Code.builtin "type.__call__" a).isCaller = false := by kernel_rfl
  have : (Code.builtin "type.__call__" a).weight ≤ 2 := by
    unfold Code.weight
    rw [e1, e2]
    simp only [Bool.false_eq_true, if_false]
    split <;> split <;> decide
  omega
theorem get_size1 (h : Heap) : h.get? (h.objs.size + 1) = none := by
  cases q' : h.get? (h.objs.size + 1) with
  | none => rfl
  | some o => exact absurd (Heap.lt_size q') (Nat.not_lt_of_le (Nat.le_succ _))
/-- a talker's sentence made -/
theorem new_talk {v₁ v₂ : Value} {n : Nat} (W : Wd w h) (hroom : A.depth < 940) (hC : IsTalk C) (hD : h.get? D = some { cls := .type "list", data := .seq its n }) (hz : its.size ≤ sizeLine)
    (q : ∀ h' x dx t₁ t₂ t₃ Dn c k, h.StaysIn h' → At h' x C dx (odT w t₁ t₂ t₃ v₁ v₂ (.ref Dn)) → h'.get? Dn = some { cls := .type "list", data := .seq its c } → h.get? x = none → h.get? dx = none → h.get? Dn = none → Q (.ref x) ⟨h', g, d, k, os⟩) :
    WP w A (call (.ref C) [v₁, v₂, .ref D]) Q E ⟨h, g, d, t, os⟩ :=
  b_make W hC.makes hC.init (fn_182 w) fun h' k I e => init_182 W (Nat.lt_of_le_of_lt under_depth (by omega)) hC k (by omega) I (Nat.succ_ne_self _) (get_size1 h) (get_size h) hD hz fun h₂ t₁ t₂ t₃ Dn c k₂ kk I₂ l₂ f₂ => ⟨rfl, q _ _ _ _ _ _ _ _ _ kk I₂ l₂ (get_size1 h) (get_size h) f₂⟩
theorem new_prop {v₁ : Value} {n : Nat} (W : Wd w h) (hroom : A.depth < 940) (hD : h.get? D = some { cls := .type "list", data := .seq its n }) (hz : its.size ≤ sizeLine)
    (q : ∀ h' x dx t₁ t₃ Dn c k, h.StaysIn h' → At h' x 244 dx (odP w t₁ t₃ v₁ (.ref Dn)) → h'.get? Dn = some { cls := .type "list", data := .seq its c } → h.get? x = none → h.get? dx = none → h.get? Dn = none → Q (.ref x) ⟨h', g, d, k, os⟩) :
    WP w A (call (.ref 244) [v₁, .ref D]) Q E ⟨h, g, d, t, os⟩ :=
  b_make W (makes_244 w) (init_244 w) (fn_234 w) fun h' k I e => init_234 W (Nat.lt_of_le_of_lt under_depth (by omega)) k (by omega) I (Nat.succ_ne_self _) (get_size1 h) (get_size h) hD hz fun h₂ t₁ t₃ Dn c k₂ kk I₂ l₂ f₂ => ⟨rfl, q _ _ _ _ _ _ _ _ kk I₂ l₂ (get_size1 h) (get_size h) f₂⟩
end
end Mine
end
section
open PySem PySem.W PyProof.Rows PySem.Calls Builtin Builtin.Str
set_option Elab.async false
set_option maxRecDepth 100000
set_option maxHeartbeats 8000000
namespace Mine
def fX : Percent := { zero := true, width := some 2, type := 88 }
def hexL (n : Int) : List Nat := match percentField fX true (percentInt fX (decide (n < 0)) ((Nat.toDigits 16 n.natAbs).map Char.toNat)) with
  | none => percentInt fX (decide (n < 0)) ((Nat.toDigits 16 n.natAbs).map Char.toNat)
  | some l => l
def hexT (n : Int) : PySem.Str := ⟨(hexL n).toArray⟩
section
variable {M : Model} {A : Around} {E : Value → Shared → Prop} {s : Shared} {l : List Nat} {p : List Value} {r : List Nat}
  {f : Nat → List Value × Writer × List Nat → Sem (ForInStep (List Value × Writer × List Nat))} {Q : List Value × Writer × List Nat → Shared → Prop}
  {w : Writer} {T x : PySem.Str} {N : Nat} {o : Option Value} {n : Int}
theorem after_hex (g : KPc.Good w T N) (hx : x = hexT n) (hn : (hexT n).length ≤ 10) (ho : KPc.Obj o x) (h : ∀ w', KPc.Good w' (T ++ hexT n) (N + 10) → wpAny M A (forIn l (p, w', r) f) Q E s) : wpAny M A (forIn l (p, w.add x o, r) f) Q E s := by
  subst hx
  exact h _ (KPc.good_mono (KPc.good_add g ho) (Nat.add_le_add_left hn _))
theorem after_hex0 (g : KPc.Good w PySem.Str.empty N) (hx : x = hexT n) (hn : (hexT n).length ≤ 10) (ho : KPc.Obj o x) (h : ∀ w', KPc.Good w' (hexT n) (N + 10) → wpAny M A (forIn l (p, w', r) f) Q E s) : wpAny M A (forIn l (p, w.add x o, r) f) Q E s :=
  after_hex g hx hn ho fun w' g' => h w' (by rw [KPc.empty_app] at g'; exact g')
end
theorem hex_none {n : Int} (h : percentField fX true (percentInt fX (decide (n < 0)) ((Nat.toDigits 16 n.natAbs).map Char.toNat)) = none) : (⟨(percentInt fX (decide (n < 0)) ((Nat.toDigits 16 n.natAbs).map Char.toNat)).toArray⟩ : PySem.Str) = hexT n := by
  unfold hexT hexL; rw [h]
theorem hex_some {n : Int} {l : List Nat} (h : percentField fX true (percentInt fX (decide (n < 0)) ((Nat.toDigits 16 n.natAbs).map Char.toNat)) = some l) : (⟨l.toArray⟩ : PySem.Str) = hexT n := by
  unfold hexT hexL; rw [h]
theorem meets_X {n : Int} {t u : Tok} (hn : (hexT n).length ≤ 10) : Meets («str.__mod__» ⟨[.str ⟨#[42,37,48,50,88]⟩ t, .int n u], []⟩) (fun _ R s => ∀ t' k, R (.ok (.ret (.str (PySem.Str.ofString "*" ++ hexT n) t'))) { s with toks := k }) := by
  apply KPc.meets_of
  intro _ _ _ _ _ _ _
  rw [KPc.entry_is]
  unfold Builtin.Str.percentFormat
  refine wpAny_bind (wpAny_isInstance (typeIs_int _ _ _) F.sub_int_tuple ?_)
  refine wpAny_bind (wpAny_of_eq (a := none) rfl ?_)
  refine wpAny_bind (wpAny_of_eq (KPc.fills _ _) ?_)
  kpc_if
  refine wpAny_bind (wpAny_pure ?_)
  refine wpAny_bind ?_
  rw [KPc.range_list]
  refine KPc.start ?_
  intro _ _
  refine KPc.turn ?_; kpc_check; (repeat kpc_if)
  refine wpAny_pure ?_; kpc_piece
  refine KPc.turn ?_; kpc_check; (repeat kpc_if)
  refine wpAny_bind ?_; refine wpAny_holding ?_; (repeat kpc_if)
  refine wpAny_bind (wpAny_of_eq (a := _) rfl ?_); (repeat kpc_if)
  refine wpAny_bind (wpAny_pure ?_)
  refine wpAny_pure ?_
  dsimp only
  generalize hpf : percentField _ true _ = pf
  cases pf with
  | none =>
    refine wpAny_pure ?_
    refine after_hex (by assumption) (hex_none hpf) hn (by kpc_obj) ?_
    intro _ _
    refine KPc.turn ?_; kpc_check; (repeat kpc_if)
    kpc_close
  | some l =>
    refine wpAny_pure ?_
    refine after_hex (by assumption) (hex_some hpf) hn (by kpc_obj) ?_
    intro _ _
    refine KPc.turn ?_; kpc_check; (repeat kpc_if)
    kpc_close
end Mine
end
section
open PySem PySem.W PyProof.Rows PySem.Calls Builtin Builtin.Str
set_option Elab.async false
set_option maxRecDepth 100000
set_option maxHeartbeats 8000000
namespace Mine
theorem meets_P {t u : Tok} : ∀ z : PySem.Str, z.length ≤ 1000000 → Meets («str.__mod__» ⟨[.str ⟨#[80,37,115]⟩ t, .str z u], []⟩) (fun _ R s => ∀ t' k, R (.ok (.ret (.str (PySem.Str.ofString "P" ++ z) t'))) { s with toks := k }) := by
  k_dflt kpc_run_s
theorem meets_T {b : Addr} {t u v : Tok} {x y : PySem.Str} (hx : x.length ≤ 1000) (hy : y.length ≤ 1000) : Meets («str.__mod__» ⟨[.str ⟨#[37,115,37,115,44]⟩ t, .ref b], []⟩)
    (fun _ R s => IsTup s.heap b #[.str x u, .str y v] ∧ ∀ t' k, R (.ok (.ret (.str (x ++ y ++ PySem.Str.ofString ",") t'))) { s with toks := k }) := by
  k_dflt kpt_run
end Mine
end
section
open PySem PySem.W PyProof.Rows PySem.Calls Builtin Builtin.Str
set_option Elab.async false
set_option maxRecDepth 100000
set_option maxHeartbeats 8000000
namespace Mine
-- "$%s*%02X"
theorem meets_D {b : Addr} {t u v : Tok} {x : PySem.Str} {n : Int} (hx : x.length ≤ 1000000) (hn : (hexT n).length ≤ 10) : Meets («str.__mod__» ⟨[.str ⟨#[36,37,115,42,37,48,50,88]⟩ t, .ref b], []⟩)
    (fun _ R s => IsTup s.heap b #[.str x u, .int n v] ∧ ∀ t' k, R (.ok (.ret (.str (PySem.Str.ofString "$" ++ x ++ PySem.Str.ofString "*" ++ hexT n) t'))) { s with toks := k }) := by
  apply KPt.meets_tup
  intro _ _ _ _ _ _ kptH _
  obtain ⟨kptO, kptG, kptC, kptN, kptD⟩ := kptH
  rw [KPt.entry_is_r]
  unfold Builtin.Str.percentFormat
  refine wpAny_bind (wpAny_isInstance (T := "tuple") ⟨kptO, kptG, kptC⟩ KPt.sub_tt ?_)
  refine wpAny_bind (KPt.asStr_ref kptG kptD ?_)
  refine wpAny_bind (KPt.fills_ref ⟨kptO, kptG, kptC⟩ ?_)
  intro _
  kpc_if
  refine wpAny_bind (wpAny_seqItems kptG kptD ?_)
  refine wpAny_bind (wpAny_pure ?_)
  refine wpAny_bind ?_
  rw [KPc.range_list]
  refine KPc.start ?_
  intro _ _
  -- "$"
  refine KPc.turn ?_; kpc_check; (repeat kpc_if)
  refine wpAny_pure ?_; kpt_piece
  -- %s
  refine KPc.turn ?_; kpc_check; (repeat kpc_if)
  refine wpAny_bind ?_; refine wpAny_holding ?_; (repeat kpc_if); kpt_conv; refine wpAny_pure ?_; refine wpAny_pure ?_
  refine KPc.after_str (by kpc_g) hx (by kpc_obj) ?_; intro _ _
  -- "*"
  refine KPc.turn ?_; kpc_check; (repeat kpc_if)
  refine wpAny_pure ?_; kpt_piece
  -- %02X
  refine KPc.turn ?_; kpc_check; (repeat kpc_if)
  refine wpAny_bind ?_; refine wpAny_holding ?_; (repeat kpc_if)
  refine wpAny_bind (wpAny_of_eq (a := _) rfl ?_); (repeat kpc_if)
  refine wpAny_bind (wpAny_pure ?_)
  refine wpAny_pure ?_
  dsimp only
  generalize hpf : percentField _ true _ = pf
  cases pf with
  | none =>
    refine wpAny_pure ?_
    refine after_hex (by assumption) (hex_none hpf) hn (by kpc_obj) ?_
    intro _ _
    refine KPc.turn ?_; kpc_check; (repeat kpc_if)
    kpc_close
  | some l =>
    refine wpAny_pure ?_
    refine after_hex (by assumption) (hex_some hpf) hn (by kpc_obj) ?_
    intro _ _
    refine KPc.turn ?_; kpc_check; (repeat kpc_if)
    kpc_close
end Mine
end
section
open PySem PySem.W PyProof.Rows PySem.Calls Builtin Builtin.Str
set_option Elab.async false
set_option maxRecDepth 100000
set_option maxHeartbeats 8000000
namespace Mine
-- "checksum does not match: %02X != %02X"
theorem meets_C {b : Addr} {t u v : Tok} {m n : Int} (hm : (hexT m).length ≤ 10) (hn : (hexT n).length ≤ 10) : Meets («str.__mod__» ⟨[.str ⟨#[99, 104, 101, 99, 107, 115, 117, 109, 32, 100, 111, 101, 115, 32, 110, 111, 116, 32, 109, 97, 116, 99, 104, 58, 32, 37, 48, 50, 88, 32, 33, 61, 32, 37, 48, 50, 88]⟩ t, .ref b], []⟩)
    (fun _ R s => IsTup s.heap b #[.int m u, .int n v] ∧ ∀ t' k, R (.ok (.ret (.str (PySem.Str.ofString "checksum does not match: " ++ hexT m ++ PySem.Str.ofString " != " ++ hexT n) t'))) { s with toks := k }) := by
  apply KPt.meets_tup
  intro _ _ _ _ _ _ kptH _
  obtain ⟨kptO, kptG, kptC, kptN, kptD⟩ := kptH
  rw [KPt.entry_is_r]
  unfold Builtin.Str.percentFormat
  refine wpAny_bind (wpAny_isInstance (T := "tuple") ⟨kptO, kptG, kptC⟩ KPt.sub_tt ?_)
  refine wpAny_bind (KPt.asStr_ref kptG kptD ?_)
  refine wpAny_bind (KPt.fills_ref ⟨kptO, kptG, kptC⟩ ?_)
  intro _
  kpc_if
  refine wpAny_bind (wpAny_seqItems kptG kptD ?_)
  refine wpAny_bind (wpAny_pure ?_)
  refine wpAny_bind ?_
  rw [KPc.range_list]
  refine KPc.start ?_
  intro _ _
  refine KPc.turn ?_; kpc_check; (repeat kpc_if)
  refine wpAny_pure ?_; kpt_piece
  -- %02X
  refine KPc.turn ?_; kpc_check; (repeat kpc_if)
  refine wpAny_bind ?_; refine wpAny_holding ?_; (repeat kpc_if)
  refine wpAny_bind (wpAny_of_eq (a := _) rfl ?_); (repeat kpc_if)
  refine wpAny_bind (wpAny_pure ?_)
  refine wpAny_pure ?_
  dsimp only
  generalize hpf : percentField _ true _ = pf
  cases pf with
  | none =>
    refine wpAny_pure ?_
    refine after_hex (by assumption) (hex_none hpf) hm (by kpc_obj) ?_
    intro _ _
    refine KPc.turn ?_; kpc_check; (repeat kpc_if)
    refine wpAny_pure ?_; refine KPc.after_add (y := PySem.Str.ofString " != ") (by kpc_g) (by show (⟨((List.span (fun x => x != 37) [32, 33, 61, 32, 37, 48, 50, 88]).1.toArray)⟩ : PySem.Str) = _; decide +kernel) (by first | kpc_obj | exact KPc.obj_none (if_neg (by decide +kernel))) ?_; intro _ _
    refine KPc.turn ?_; kpc_check; (repeat kpc_if)
    refine wpAny_bind ?_; refine wpAny_holding ?_; (repeat kpc_if)
    refine wpAny_bind (wpAny_of_eq (a := _) rfl ?_); (repeat kpc_if)
    refine wpAny_bind (wpAny_pure ?_)
    refine wpAny_pure ?_
    dsimp only
    generalize hpg : percentField _ true _ = pg
    cases pg with
    | none =>
      refine wpAny_pure ?_
      refine after_hex (by assumption) (hex_none hpg) hn (by kpc_obj) ?_
      intro _ _
      refine KPc.turn ?_; kpc_check; (repeat kpc_if)
      kpc_close
    | some l =>
      refine wpAny_pure ?_
      refine after_hex (by assumption) (hex_some hpg) hn (by kpc_obj) ?_
      intro _ _
      refine KPc.turn ?_; kpc_check; (repeat kpc_if)
      kpc_close
  | some l =>
    refine wpAny_pure ?_
    refine after_hex (by assumption) (hex_some hpf) hm (by kpc_obj) ?_
    intro _ _
    refine KPc.turn ?_; kpc_check; (repeat kpc_if)
    refine wpAny_pure ?_; refine KPc.after_add (y := PySem.Str.ofString " != ") (by kpc_g) (by show (⟨((List.span (fun x => x != 37) [32, 33, 61, 32, 37, 48, 50, 88]).1.toArray)⟩ : PySem.Str) = _; decide +kernel) (by first | kpc_obj | exact KPc.obj_none (if_neg (by decide +kernel))) ?_; intro _ _
    refine KPc.turn ?_; kpc_check; (repeat kpc_if)
    refine wpAny_bind ?_; refine wpAny_holding ?_; (repeat kpc_if)
    refine wpAny_bind (wpAny_of_eq (a := _) rfl ?_); (repeat kpc_if)
    refine wpAny_bind (wpAny_pure ?_)
    refine wpAny_pure ?_
    dsimp only
    generalize hpg : percentField _ true _ = pg
    cases pg with
    | none =>
      refine wpAny_pure ?_
      refine after_hex (by assumption) (hex_none hpg) hn (by kpc_obj) ?_
      intro _ _
      refine KPc.turn ?_; kpc_check; (repeat kpc_if)
      kpc_close
    | some l =>
      refine wpAny_pure ?_
      refine after_hex (by assumption) (hex_some hpg) hn (by kpc_obj) ?_
      intro _ _
      refine KPc.turn ?_; kpc_check; (repeat kpc_if)
      kpc_close
end Mine
end
section
open PySem PySem.W PyProof.Rows PySem.Calls PySem.NumText
set_option Elab.async false
set_option maxRecDepth 100000
set_option maxHeartbeats 1000000
namespace Mine
theorem wp_text16 {M : Model} {A : Around} {E : Value → Shared → Prop} {s : Shared} {Q : Value → Shared → Prop} {v : Value} {text : List Nat} {n : Int}
    (hs : (text.takeWhile (· != 0)).length ≤ 640) (hr : (int_private% "readNumeral") 0 16 (text.takeWhile (· != 0)) = (int_private% "Numeral.value") n)
    (ha : ((text.takeWhile (· != 0)).length == text.length) = true) (h : Q (.int n s.toks) { s with toks := s.toks + 1 }) :
    wpAny M A ((int_private% "intFromText") v text 16) Q E s := by
  obtain ⟨hp, g, d, tk, os⟩ := s
  repeat (any_goals (first
    | assumption
    | (with_reducible refine wpAny_ite_true (decide_eq_true hs) ?_)
    | (with_reducible refine wpAny_ite_true (decide_eq_true ha) ?_)
    | wp_step))
  all_goals (try rw [hr])
  all_goals (try dsimp only)
  repeat (any_goals (first
    | assumption
    | (with_reducible refine wpAny_ite_true (decide_eq_true hs) ?_)
    | (with_reducible refine wpAny_ite_true (decide_eq_true ha) ?_)
    | wp_step))
/-- the text reads as a number in base 16 -/
structure Hex (x : PySem.Str) (n : Int) : Prop where
  asc : (x.cps.all (· < 128)) = true
  hs : (x.cps.toList.takeWhile (· != 0)).length ≤ 640
  hr : (int_private% "readNumeral") 0 16 (x.cps.toList.takeWhile (· != 0)) = (int_private% "Numeral.value") n
  ha : ((x.cps.toList.takeWhile (· != 0)).length == x.cps.toList.length) = true
theorem gives_16 {x : PySem.Str} {u k : Tok} {n : Int} (H : Hex x n) : Gives (Builtin.«int.__new__» ⟨[.type "int", .str x u, .int 16 k], []⟩) (.int n) :=
  .of_wp fun M A E s Q h => by
    obtain ⟨hp, g, d, tk, os⟩ := s
    have f1 := F.conv_sub_int
    have f2 := F.madeHere_int
    have f6 : typeOf (.str x u) = pure (.type "str") := rfl
    have hasc := H.asc
    repeat (any_goals (first
      | assumption
      | ((with_reducible show wpAny _ _ ((int_private% "intFromText") _ _ _) _ _ _); rw [if_pos hasc]; refine wp_text16 H.hs H.hr H.ha ?_)
      | wp_step))
    all_goals first | exact ⟨_, rfl, h⟩ | skip
theorem b_int16 {w : World} {A : Around} {E : Value → Shared → Prop} {h : Heap} {g : Array GenState} {d : Drawn} {t : Nat} {os : OsState} {Q : Value → Shared → Prop} {x : PySem.Str} {u k : Tok} {n : Int} (H : Hex x n)
    (q : ∀ t' k', Q (.int n t') ⟨h, g, d, k', os⟩) : WP w A (call (.type "int") [.str x u, .int 16 k]) Q E ⟨h, g, d, t, os⟩ :=
  ⟨callType_new F.called_int F.newNe_int (by kernel_rfl) (by kernel_rfl) (fun obj => by unfold argsOk; kernel_rfl) F.entry_int_new (gives_16 H).meets (show (Made.int n).post _ _ from ⟨rfl, q _ _⟩)⟩
theorem hex_all : ∀ m : Fin 128, ((hexT (m.val : Int)).cps.all (· < 128)) = true ∧ ((hexT (m.val : Int)).cps.toList.takeWhile (· != 0)).length ≤ 640 ∧ (hexT (m.val : Int)).cps.size = 2 := by decide +kernel
def numVal (x : (int_private% "Numeral")) : Option Int := (int_private% "Numeral.casesOn") (motive := fun _ => Option Int) x none (fun _ => none) none (fun i => some i)
theorem hex_hr : ∀ m : _root_.Fin 128, numVal ((int_private% "readNumeral") 0 16 ((hexT (m.val : Int)).cps.toList.takeWhile (· != 0))) = some (m.val : Int) := by decide +kernel
theorem numVal_eq {x : (int_private% "Numeral")} {n : Int} (h : numVal x = some n) : x = (int_private% "Numeral.value") n := by
  cases x with
  | value i => exact congrArg _ (Option.some.inj h)
  | _ => cases h
theorem hex_ha : ∀ m : _root_.Fin 128, (((hexT (m.val : Int)).cps.toList.takeWhile (· != 0)).length == (hexT (m.val : Int)).cps.toList.length) = true := by decide +kernel
theorem hexOk (m : Nat) (h : m < 128) : Hex (hexT m) m :=
  ⟨(hex_all ⟨m, h⟩).1, (hex_all ⟨m, h⟩).2.1, numVal_eq (hex_hr ⟨m, h⟩), hex_ha ⟨m, h⟩⟩
theorem hex_len (m : Nat) (h : m < 128) : (hexT (m : Int)).length = 2 := (hex_all ⟨m, h⟩).2.2
end Mine
end
section
open PySem PySem.W PyProof.Rows PySem.Calls Builtin.ObjectAttr Builtin.Getset_descriptor
set_option Elab.async false
set_option maxRecDepth 100000
set_option maxHeartbeats 8000000
namespace Mine
section
variable {w : World} {A : Around} {E : Value → Shared → Prop} {h₀ h : Heap} {g : Array GenState} {d : Drawn} {t : Nat} {os : OsState} {L x C dx D : Addr} {ns : List Str} {vs : List (Option Value)} {nw : List (Addr × Obj)} {its : Array Value} {Q : Value → Shared → Prop} {env : Env} {pos : Pos} {s : Shared}
/-- a tuple of two -/
theorem r_tup2 {e₁ e₂ : Expr} {kd : Nat} (hv : WP w A (eval e₁ env) (fun v₁ s₁ => WP w A (eval e₂ env) (fun v₂ s₂ => Q (.ref s₂.heap.objs.size) { s₂ with heap := s₂.heap.push { cls := .type "tuple", data := .seq #[v₁, v₂] } }) E s₁) E s)
    (he₁ : starEach [e₁, e₂] env = (false, eval e₁ env) :: starEach [e₂] env := by rfl) (he₂ : starEach [e₂] env = (false, eval e₂ env) :: starEach [] env := by rfl) :
    WP w A (eval (.Tuple [e₁, e₂] kd pos) env) Q E s := by
  refine ⟨?_⟩
  rw [arm_eval_Tuple]
  refine wpAny_bind (wpAny_standAt (wpAny_bind ((sp_cons (pos := pos) he₁ (hv.monoQ fun v₁ s₁ x₁ => sp_cons he₂ (x₁.monoQ fun v₂ s₂ x₂ => sp_nil ?_))).to fun _ _ z => z)))
  simp only [newTuple]
  exact wpAny_newObj_type x₂ (by size_fits)
theorem b_mod_T {a : Addr} {x y : Str} {u v k : Tok} (hl : h.get? a = some { cls := .type "tuple", data := .seq #[.str x u, .str y v] }) (hx : x.length ≤ 1000) (hy : y.length ≤ 1000)
    (q : ∀ t' k', Q (.str (x ++ y ++ Str.ofString ",") t') ⟨h, g, d, k', os⟩) : WP w A (binaryOp .Mod (.str (Str.ofString "%s%s,") k) (.ref a)) Q E ⟨h, g, d, t, os⟩ := by
  refine ⟨KPt.mod_tuple (h₀ := {}) (L := a + 1) (news := [(a, { cls := .type "tuple", data := .seq #[.str x u, .str y v] })]) (fun p hp => ?_) (.head _) (by decide +kernel) (meets_T hx hy) fun t' k' => q t' k'⟩
  rw [List.mem_singleton.mp hp]
  exact ⟨hl, Nat.ne_of_lt (Nat.lt_succ_self _), rfl⟩
theorem b_mod_P {x : Str} {u k : Tok} (hx : x.length ≤ 1000000) (q : ∀ t' k', Q (.str (Str.ofString "P" ++ x) t') ⟨h, g, d, k', os⟩) : WP w A (binaryOp .Mod (.str (Str.ofString "P%s") k) (.str x u)) Q E ⟨h, g, d, t, os⟩ :=
  ⟨KPc.mod_str (X' := ⟨#[80,37,115]⟩) (T := fun z => Str.ofString "P" ++ z) (by decide +kernel) hx meets_P fun t' k' => q t' k'⟩
theorem b_mod_X {n : Int} {u k : Tok} (hd : n.natAbs.log2 < 1920) (hx : (hexT n).length ≤ 10) (q : ∀ t' k', Q (.str (Str.ofString "*" ++ hexT n) t') ⟨h, g, d, k', os⟩) : WP w A (binaryOp .Mod (.str (Str.ofString "*%02X") k) (.int n u)) Q E ⟨h, g, d, t, os⟩ :=
  ⟨KPc.mod_lit (X' := ⟨#[42,37,48,50,88]⟩) (T := Str.ofString "*" ++ hexT n) (by decide +kernel) hd (fun _ _ => meets_X hx) fun t' k' => q t' k'⟩
end
end Mine
end
section
open PySem PySem.W PyProof.Rows PySem.Calls Builtin.ObjectAttr Builtin.Getset_descriptor
set_option Elab.async false
set_option maxRecDepth 100000
set_option maxHeartbeats 8000000
namespace Mine
/-- the binder over a tuple of defaults -/
theorem binds_by {fd : FuncData} {pos : List Value} {names : List Str} {T : Addr} {o : Obj} {items : Array Value} {n : Nat} {s : Shared} {binds : List (Str × Value)}
    (hp : fd.params.posonlyargs = []) (ha : fd.params.args.map (·.arg) = names) (hk : fd.params.kwonlyargs = []) (hv : fd.params.vararg = none) (hw : fd.params.kwarg = none)
    (hd : fd.defaults = .ref T) (ho : s.heap.get? T = some o) (hs : o.data = .seq items n)
    (h1 : pos.length ≤ names.length) (h2 : (items.toList.drop (items.toList.length - names.length)) = items.toList)
    (h3 : (((names.take (names.length - items.toList.length)).filter fun n => ((names.zip pos).lookup n).isNone).isEmpty) = true)
    (h4 : (names.filterMap fun n => (((((names.drop (names.length - items.toList.length)).zip items.toList).foldl (fun sl p => if (sl.lookup p.1).isNone then sl ++ [(p.1, p.2)] else sl) (names.zip pos)).lookup n).map (n, ·))) = binds) :
    BindsTo s fd ⟨pos, []⟩ binds := by
  intro M A E Q q
  unfold bindArgs
  simp only [hp, ha, hk, hv, hw, hd, List.map_nil, List.nil_append, List.append_nil, List.forIn_nil, pure_bind, Option.isNone_none, Bool.and_true]
  refine wpAny_bind (wpAny_seqItems ho hs ?_)
  have h1' : decide (pos.length > names.length) = false := decide_eq_false (by omega)
  simp only [Option.getD_some, h1', Bool.false_eq_true, if_false, h2, h3, Bool.not_true]
  have loop : ∀ (l : List (Str × Value)) (b : List (Str × Value)), (forIn l b fun x sl => if (List.lookup x.1 sl).isNone = true then (pure (ForInStep.yield (sl ++ [(x.1, x.2)])) : Sem _) else pure (ForInStep.yield sl)) =
      pure (l.foldl (fun sl p => if (sl.lookup p.1).isNone then sl ++ [(p.1, p.2)] else sl) b) := by
    intro l
    induction l with
    | nil => intro b; rfl
    | cons a r ih =>
      intro b
      rw [List.forIn_cons]
      by_cases c : (List.lookup a.1 b).isNone = true
      · rw [if_pos c, pure_bind, List.foldl_cons, if_pos c]; exact ih _
      · rw [if_neg c, pure_bind, List.foldl_cons, if_neg c]; exact ih _
  rw [loop, pure_bind]
  have e : (![].isEmpty (α := Str)) = false := rfl
  simp only [List.isEmpty_nil, Bool.not_true, Bool.false_eq_true, if_false]
  refine wpAny_pure ?_
  rw [h4]
  exact q
noncomputable def nm154 : List Str := [Str.ofString "self", Str.ofString "checksum", Str.ofString "dollar", Str.ofString "newline"]
noncomputable def ns154 : List Str := nm154 ++ [Str.ofString "res"]
theorem look_147 (w : World) : (KK w).lookup 147 = some { cls := .type "tuple", data := .seq #[.bool true, .bool true, .bool false] } := by kernel_rfl
theorem binds_154 {w : World} {pos : List Value} {binds : List (Str × Value)} {s : Shared} (X : (KK w).In s.heap) (h1 : pos.length ≤ 4)
    (h3 : (((nm154.take 1).filter fun n => ((nm154.zip pos).lookup n).isNone).isEmpty) = true)
    (h4 : (nm154.filterMap fun n => (((((nm154.drop 1).zip [Value.bool true, .bool true, .bool false]).foldl (fun sl p => if (sl.lookup p.1).isNone then sl ++ [(p.1, p.2)] else sl) (nm154.zip pos)).lookup n).map (n, ·))) = binds) :
    BindsTo s (fdOf w 154) ⟨pos, []⟩ binds :=
  binds_by (names := nm154) (by kernel_rfl) (by kernel_rfl) (by kernel_rfl) (by kernel_rfl) (by kernel_rfl) (T := 147) (by kernel_rfl) (X _ _ (look_147 w)) rfl h1 rfl h3 h4
theorem binds_render0 {w : World} {x : Value} {s : Shared} (X : (KK w).In s.heap) : BindsTo s (fdOf w 154) ⟨[x], []⟩ (nm154.zip [x, .bool true, .bool true, .bool false]) := binds_154 X (by simp) (by kernel_rfl) (by kernel_rfl)
theorem binds_render2 {w : World} {x a b : Value} {s : Shared} (X : (KK w).In s.heap) : BindsTo s (fdOf w 154) ⟨[x, a, b], []⟩ (nm154.zip [x, a, b, .bool false]) := binds_154 X (by simp) (by kernel_rfl) (by kernel_rfl)
theorem binds_render3 {w : World} {x a b c : Value} {s : Shared} (X : (KK w).In s.heap) : BindsTo s (fdOf w 154) ⟨[x, a, b, c], []⟩ (nm154.zip [x, a, b, c]) := binds_154 X (by simp) (by kernel_rfl) (by kernel_rfl)

theorem enterB {w : World} {A : Around} {h b : Heap} {g : Array GenState} {d : Drawn} {t : Nat} {os : OsState} {Q : Value → Shared → Prop} {f : Addr} {oc : Value} {od : Option Addr} {osl : Array (Option Value)}
    {body : List Stmt} {args : List Value} {binds : List (Str × Value)} {ns : List Str} {vs : List (Option Value)} {nw : List (Addr × Obj)}
    (W : Wd w b) (hroom : A.depth < recursionLimit) (hbh : b.StaysIn h) (hnw : ∀ p ∈ nw, h.get? p.1 = some p.2 ∧ b.get? p.1 = none)
    (ho : (KK w).lookup f = some ⟨oc, od, .func (fdOf w f), osl⟩) (hcd : codeIn (KK w) (fdOf w f).code (fdOf w f).qualname = true)
    (hbody : (fdOf w f).body = .stmts body) (hbind : BindsTo ⟨h, g, d, t, os⟩ (fdOf w f) ⟨args, []⟩ binds)
    (hloc : (binds.all fun y => (fdOf w f).scope.names.lookup y.1 == some .local) = true)
    (hcell : ((fdOf w f).scope.names.all fun x => x.2 != .cell) = true)
    (hvs : ∀ x, binds.reverse.lookup x = lkp ns vs x)
    (hb : ∀ h₁ k, St w b h.objs.size h₁ ns vs nw →
      WP w (A.deeper (callEnv (fdOf w f) h.objs.size f)) (execs body (callEnv (fdOf w f) h.objs.size f))
        (fun fl s' => Q (match fl with | .ret v => v | _ => .none) s') (fun _ _ => False) ⟨h₁, g, d, k, os⟩)
    (hco : (fdOf w f).scope.isCoroutine = false) (hgen : (fdOf w f).scope.isGenerator = false) (hk : (fdOf w f).scope.kind = .function) :
    CC w A (.call (.ref f) ⟨args, []⟩) (RQ Q) ⟨h, g, d, t, os⟩ := by
  have Wh := W.keeps hbh
  refine ⟨codeAny_call_def (fd := fdOf w f) (body := body) (binds := binds) hroom (Wh.X _ _ ho) rfl Wh.nolimit (codeRec_of Wh.X hcd) hbody hbind
    (fun x hx => by simpa using List.all_eq_true.mp hcell x hx) (fun x hx => by simpa using List.all_eq_true.mp hloc x hx) (fun h₁ hns hk₁ => ?_) hco hgen hk⟩
  refine wpAny_mono (hb h₁ _ ⟨?_, fun c o e => hk₁ _ _ (hbh _ _ e), ?_, fun p hp => ⟨hk₁ _ _ (hnw p hp).1, Nat.ne_of_lt (Heap.lt_size (hnw p hp).1), (hnw p hp).2⟩, W⟩).out (fun _ _ x => x) (fun _ _ x => x.elim)
  · have e : (fun x => binds.reverse.lookup x) = lkp ns vs := funext hvs
    rw [← e]; exact hns
  · cases q : b.get? h.objs.size with
    | none => rfl
    | some o => exact absurd (Heap.lt_size (hbh _ _ q)) (Nat.lt_irrefl _)

/-- what a sentence is: its class and its head -/
inductive Knd
  | talk (C : Addr) (ta ty : Str)
  | prop (m : Str)
noncomputable def Knd.head : Knd → Str
  | .talk _ ta ty => ta ++ ty ++ Str.ofString ","
  | .prop m => Str.ofString "P" ++ m
def Knd.cls : Knd → Addr
  | .talk C _ _ => C
  | .prop _ => 244
def Knd.fits : Knd → Prop
  | .talk C ta ty => IsTalk C ∧ ta.length ≤ 100 ∧ ty.length ≤ 100
  | .prop m => m.length ≤ 100
def ListAt (h : Heap) (D : Addr) (ws : List Str) : Prop := ∃ c l, h.get? D = some { cls := .type "list", data := .seq (strValues l).toArray c } ∧ l.map (·.1) = ws
theorem ListAt.keeps {h h' : Heap} {D : Addr} {ws : List Str} (I : ListAt h D ws) (k : h.StaysIn h') : ListAt h' D ws := let ⟨c, l, e, r⟩ := I; ⟨c, l, k _ _ e, r⟩
theorem ListAt.isList {h : Heap} {D : Addr} {ws : List Str} (I : ListAt h D ws) : ∃ its : Array Value, h.IsList D its ∧ StrsAre its.toList ws := by
  obtain ⟨c, l, e, rfl⟩ := I
  exact ⟨_, ⟨_, e, rfl, c, rfl⟩, strsAre_of_values l⟩
def Sent (w : World) (h : Heap) (x : Addr) : Knd → List Str → Prop
  | .talk C ta ty, ws => ∃ dx t₁ t₂ t₃ u₁ u₂ Dn, At h x C dx (odT w t₁ t₂ t₃ (.str ta u₁) (.str ty u₂) (.ref Dn)) ∧ ListAt h Dn ws
  | .prop m, ws => ∃ dx t₁ t₃ u₁ Dn, At h x 244 dx (odP w t₁ t₃ (.str m u₁) (.ref Dn)) ∧ ListAt h Dn ws
theorem Sent.keeps {w : World} {h h' : Heap} {x : Addr} {ws : List Str} : ∀ {k : Knd}, Sent w h x k ws → h.StaysIn h' → Sent w h' x k ws
  | .talk C ta ty, ⟨dx, t₁, t₂, t₃, u₁, u₂, Dn, I, l⟩, k => ⟨dx, t₁, t₂, t₃, u₁, u₂, Dn, I.keeps k, l.keeps k⟩
  | .prop m, ⟨dx, t₁, t₃, u₁, Dn, I, l⟩, k => ⟨dx, t₁, t₃, u₁, Dn, I.keeps k, l.keeps k⟩
/-- a sentence none of whose objects stood before -/
def SentF (w : World) (b h : Heap) (x : Addr) : Knd → List Str → Prop
  | .talk C ta ty, ws => ∃ dx t₁ t₂ t₃ u₁ u₂ Dn, At h x C dx (odT w t₁ t₂ t₃ (.str ta u₁) (.str ty u₂) (.ref Dn)) ∧ ListAt h Dn ws ∧ b.get? x = none ∧ b.get? dx = none ∧ b.get? Dn = none
  | .prop m, ws => ∃ dx t₁ t₃ u₁ Dn, At h x 244 dx (odP w t₁ t₃ (.str m u₁) (.ref Dn)) ∧ ListAt h Dn ws ∧ b.get? x = none ∧ b.get? dx = none ∧ b.get? Dn = none
theorem SentF.hide {w : World} {b h : Heap} {x : Addr} {ws : List Str} {as : List Addr} (ha : ∀ a ∈ as, b.get? a ≠ none) : ∀ {k : Knd}, SentF w b h x k ws → Sent w (hideAll h as) x k ws
  | .talk C ta ty, ⟨dx, t₁, t₂, t₃, u₁, u₂, Dn, I, ⟨c, l, e, r⟩, f₁, f₂, f₃⟩ => ⟨dx, t₁, t₂, t₃, u₁, u₂, Dn, ⟨hideAll_get _ I.x fun q => ha _ q f₁, hideAll_get _ I.d fun q => ha _ q f₂⟩, ⟨c, l, hideAll_get _ e fun q => ha _ q f₃, r⟩⟩
  | .prop m, ⟨dx, t₁, t₃, u₁, Dn, I, ⟨c, l, e, r⟩, f₁, f₂, f₃⟩ => ⟨dx, t₁, t₃, u₁, Dn, ⟨hideAll_get _ I.x fun q => ha _ q f₁, hideAll_get _ I.d fun q => ha _ q f₂⟩, ⟨c, l, hideAll_get _ e fun q => ha _ q f₃, r⟩⟩
theorem IsTalk.none {w : World} {C : Addr} (h : IsTalk C) : findIn (KK w) (.ref C) sT = some none ∧ findIn (KK w) (.ref C) sY = some none ∧ findIn (KK w) (.ref C) sD = some none := by
  rcases h with rfl | rfl <;> exact ⟨by kernel_rfl, by kernel_rfl, by kernel_rfl⟩
theorem none_244 (w : World) : findIn (KK w) (.ref 244) sM = some none ∧ findIn (KK w) (.ref 244) sD = some none := ⟨by kernel_rfl, by kernel_rfl⟩

section
variable {w : World} {A : Around} {E : Value → Shared → Prop} {h₀ h b : Heap} {g : Array GenState} {d : Drawn} {t : Nat} {os : OsState} {L x C dx D : Addr} {ns : List Str} {vs : List (Option Value)} {nw : List (Addr × Obj)} {its : Array Value} {Q : Value → Shared → Prop}
theorem r_fstr3 {env : Env} {pos : Pos} {v₁ v₂ v₃ : Expr} {s : Shared} (h : WP w A (eval v₁ env) (fun a s₁ => ∃ x u, a = .str x u ∧ x.length ≤ sizeLine ∧ WP w A (eval v₂ env) (fun b s₂ => ∃ y v, b = .str y v ∧ (x ++ y).length ≤ sizeLine ∧ WP w A (eval v₃ env) (fun c s₃ => ∃ z r, c = .str z r ∧
      (x ++ y ++ z).length ≤ sizeLine ∧ Q (.str (x ++ y ++ z) s₃.toks) { s₃ with toks := s₃.toks + 1 }) E s₂) E s₁) E s) :
    WP w A (eval (.JoinedStr [v₁, v₂, v₃] pos) env) Q E s := by
  refine ⟨wpAny_JoinedStr ?_⟩
  refine h.to fun a s₁ ⟨x, u, ea, z₁, h₁⟩ => ⟨x, u, ea, by rw [KPc.empty_app]; exact z₁, ?_⟩
  rw [KPc.empty_app]
  refine h₁.to fun b s₂ ⟨y, v, eb, z₂, h₂⟩ => ⟨y, v, eb, z₂, ?_⟩
  exact h₂.to fun c s₃ ⟨z, r, ec, z₃, q⟩ => ⟨z, r, ec, z₃, z₃, q⟩
theorem r_fs {env : Env} {pos : Pos} {value : Expr} {s : Shared} (h : WP w A (eval value env) (fun v s₁ => ∃ x u, v = .str x u ∧ x.length ≤ sizeLine ∧ ∀ t' k', Q (.str x t') { s₁ with toks := k' }) E s) :
    WP w A (eval (.FormattedValue value 115 none pos) env) Q E s := by
  refine ⟨?_⟩
  rw [arm_eval_FormattedValue]
  refine wpAny_bind (h.to fun v s₁ h₁ => wpAny_bind (wpAny_standAt ?_))
  obtain ⟨x, u, rfl, hz, h₁⟩ := h₁
  have fin : ∀ u' k, wpAny (MM w) A (formatField (.str x u') Str.empty) Q E { s₁ with toks := k } := fun u' k => wpAny_formatField_str (h₁ _ _) (h₁ _ _) hz
  show wpAny _ _ (do let v' ← holding [.str x u] (habitSame "fstring-hands-on-the-str" (.str x u)); formatField v' Str.empty) Q E s₁
  exact wpAny_bind (wpAny_holding (wpAny_habitSame_str (fin _ _) (fin _ _) hz))
noncomputable def nsS : List Str := [Str.ofString "self"]
theorem ident_189 {t₁ t₂ t₃ u₁ u₂ : Tok} {ta ty : Str} {v₃ : Value} (W : Wd w h) (hroom : A.depth < 950) (hC : IsTalk C) (I : At h x C dx (odT w t₁ t₂ t₃ (.str ta u₁) (.str ty u₂) v₃)) (h1 : ta.length ≤ 100) (h2 : ty.length ≤ 100)
    (q : ∀ h' t' k', h.StaysIn h' → Q (.str (ta ++ ty ++ Str.ofString ",") t') ⟨h', g, d, k', os⟩) : CC w A (.call (.ref 189) ⟨[.ref x], []⟩) (RQ Q) ⟨h, g, d, t, os⟩ := by
  refine enterC (b := h) (nw := []) (ns := nsS) (vs := [some (.ref x)]) (binds := [(Str.ofString "self", .ref x)]) W (Nat.lt_trans hroom (by decide)) (fun _ _ e => e) (fun p hp => nomatch hp)
    rfl (by kernel_rfl) rfl (by kernel_rfl) (by kernel_rfl) (by kernel_rfl) (lkp_of (n := 0) (lookup_rev (l := nsS) rfl (by decide +kernel)) (by kernel_rfl)) (fun h₁ k S => ?_) (by kernel_rfl) (by kernel_rfl) (by kernel_rfl)
  have N := hC.none (w := w)
  have z : sizeLine = 16777216 := sizeLine_eq
  have e1 : (Str.ofString ",").length = 1 := by decide +kernel
  refine r_cons (r_ret (r_fstr3 ?_))
  refine r_fs (r_attr_of (r_name S 0 (q := b_attr S.world (I.keeps S.keep) hC.cls N.1 odT_1 rfl fun _ => ⟨_, _, rfl, by rw [z]; omega, fun _ _ => ⟨_, _, rfl, by rw [z]; omega, ?_⟩⟩)))
  refine r_fs (r_attr_of (r_name S 0 (q := b_attr S.world (I.keeps S.keep) hC.cls N.2.1 odT_2 rfl fun _ => ⟨_, _, rfl, by rw [z]; omega, fun _ _ => ⟨_, _, rfl, by rw [Str.length_append, z]; omega, ?_⟩⟩)))
  refine r_cstr fun _ _ => ⟨_, _, rfl, ?_, q _ _ _ S.keep⟩
  rw [Str.length_append, Str.length_append, z, e1]; omega
theorem ident_241 {t₁ t₃ u₁ : Tok} {m : Str} {v₃ : Value} (W : Wd w h) (hroom : A.depth < 950) (I : At h x 244 dx (odP w t₁ t₃ (.str m u₁) v₃)) (h1 : m.length ≤ 100)
    (q : ∀ h' t' k', h.StaysIn h' → Q (.str (Str.ofString "P" ++ m) t') ⟨h', g, d, k', os⟩) : CC w A (.call (.ref 241) ⟨[.ref x], []⟩) (RQ Q) ⟨h, g, d, t, os⟩ := by
  refine enterC (b := h) (nw := []) (ns := nsS) (vs := [some (.ref x)]) (binds := [(Str.ofString "self", .ref x)]) W (Nat.lt_trans hroom (by decide)) (fun _ _ e => e) (fun p hp => nomatch hp)
    rfl (by kernel_rfl) rfl (by kernel_rfl) (by kernel_rfl) (by kernel_rfl) (lkp_of (n := 0) (lookup_rev (l := nsS) rfl (by decide +kernel)) (by kernel_rfl)) (fun h₁ k S => ?_) (by kernel_rfl) (by kernel_rfl) (by kernel_rfl)
  have N := none_244 w
  refine r_cons (r_ret (r_bin (r_cstr fun _ _ => r_attr_of (r_name S 0 (q := b_attr S.world (I.keeps S.keep) (cls_244 w) N.1 odP_1 rfl fun _ => ?_)))))
  exact b_mod_P (by omega) fun _ _ => q _ _ _ S.keep
end
end Mine
end
section
open PySem PySem.W PyProof.Rows PySem.Calls Builtin.ObjectAttr Builtin.Getset_descriptor
set_option Elab.async false
set_option maxRecDepth 100000
set_option maxHeartbeats 8000000
namespace Mine
section
variable {w : World} {A : Around} {E : Value → Shared → Prop} {h₀ h b : Heap} {g : Array GenState} {d : Drawn} {t : Nat} {os : OsState} {L x C dx D : Addr} {ns : List Str} {vs : List (Option Value)} {nw : List (Addr × Obj)} {its : Array Value} {env : Env} {pos : Pos}

theorem r_if_join {test : Expr} {body orelse : List Stmt} {Q : Flow → Shared → Prop} {s : Shared} (J : Shared → Prop)
    (h : WP w A (isTrue test env (eval test env)) (fun b s₂ => if b then WP w A (execs body env) (fun f s' => f = .next ∧ J s') E s₂ else WP w A (execs orelse env) (fun f s' => f = .next ∧ J s') E s₂) E s)
    (k : ∀ s', J s' → Q .next s') : WP w A (exec (.If test body orelse pos) env) Q E s :=
  r_if (h.monoQ fun b s₂ x => by
    cases b
    · exact x.monoQ fun f s' ⟨e, j⟩ => e ▸ k s' j
    · exact x.monoQ fun f s' ⟨e, j⟩ => e ▸ k s' j)

variable {Q : Value → Shared → Prop}
theorem n_164 (w : World) : nsIn (KK w) mainGlobals (Str.ofString "NMEASentence") = some (some (.ref 164)) := by kernel_rfl
theorem m_static {pl : Sem Bool} {name : Str} {p f : Addr} {rest : List Value} {Q : Value × List Value → Shared → Prop} (W : Wd w h) (hg : specialIn (KK w) (.ref C) "__getattribute__" = some (some (.builtin "type.__getattribute__"))) (hr : readsIn (KK w) C (.type "type") = true)
    (e : findCls (KK w) (.ref C) (.type "type") name = some (.get (.builtin "staticmethod.__get__") (.ref p) .none (.ref C))) (hp : recIn (KK w) p "staticmethod" = some (.ref f :: rest))
    (q : ∀ t', Q (.ref f, []) ⟨h, g, d, t', os⟩) : WP w A (getMethod (.ref C) name pl) Q E ⟨h, g, d, t, os⟩ := by
  refine ⟨method_cls W.X hg (cls_bind W.X hr e (wpAny_call (sm_get (s := ⟨h, g, d, t + 1, os⟩) W.X hp ?_)))⟩
  exact handed_on rfl (q _)
theorem g_164 (w : World) : specialIn (KK w) (.ref 164) "__getattribute__" = some (some (.builtin "type.__getattribute__")) := by kernel_rfl
theorem rd_164 (w : World) : readsIn (KK w) 164 (.type "type") = true := by kernel_rfl
theorem fc_checksum (w : World) : findCls (KK w) (.ref 164) (.type "type") (Str.ofString "checksum") = some (.get (.builtin "staticmethod.__get__") (.ref 115) .none (.ref 164)) := by kernel_rfl
theorem rc_115 (w : World) : recIn (KK w) 115 "staticmethod" = some [.ref 113, .bool false] := by kernel_rfl
theorem keep_113 (w : World) : keepIn (KK w) (.ref 113) = true := by kernel_rfl
theorem fn_189 (w : World) : fnIn (KK w) 189 = true := by kernel_rfl
theorem fn_241 (w : World) : fnIn (KK w) 241 = true := by kernel_rfl
theorem fn_154 (w : World) : fnIn (KK w) 154 = true := by kernel_rfl

theorem IsTalk.mi {C : Addr} (h : IsTalk C) : findIn (KK w) (.ref C) "__getattr__" = some (some (.ref 132)) ∧ findIn (KK w) (.ref C) (Str.ofString "identifier") = some (some (.ref 189)) ∧ findIn (KK w) (.ref C) (Str.ofString "render") = some (some (.ref 154)) := by
  rcases h with rfl | rfl <;> exact ⟨by kernel_rfl, by kernel_rfl, by kernel_rfl⟩
theorem mi_244 (w : World) : findIn (KK w) (.ref 244) "__getattr__" = some (some (.ref 132)) ∧ findIn (KK w) (.ref 244) (Str.ofString "identifier") = some (some (.ref 241)) ∧ findIn (KK w) (.ref 244) (Str.ofString "render") = some (some (.ref 154)) :=
  ⟨by kernel_rfl, by kernel_rfl, by kernel_rfl⟩
theorem sp_189 (w : World) : specialIn (KK w) (.ref 189) "__get__" = some (some (.builtin "function.__get__")) ∧ takesIn (KK w) (.ref 189) = some false ∧ typeIn (KK w) (.ref 189) = some (.type "function") := ⟨by kernel_rfl, by kernel_rfl, by kernel_rfl⟩
theorem sp_241 (w : World) : specialIn (KK w) (.ref 241) "__get__" = some (some (.builtin "function.__get__")) ∧ takesIn (KK w) (.ref 241) = some false ∧ typeIn (KK w) (.ref 241) = some (.type "function") := ⟨by kernel_rfl, by kernel_rfl, by kernel_rfl⟩
theorem sp_154 (w : World) : specialIn (KK w) (.ref 154) "__get__" = some (some (.builtin "function.__get__")) ∧ takesIn (KK w) (.ref 154) = some false ∧ typeIn (KK w) (.ref 154) = some (.type "function") := ⟨by kernel_rfl, by kernel_rfl, by kernel_rfl⟩
theorem cp_i : copiedNames.contains (Str.ofString "identifier") = false := by decide +kernel
theorem cp_r : copiedNames.contains (Str.ofString "render") = false := by decide +kernel

/-- `x.identifier()` -/
theorem s_ident {pl : Sem Bool} {k : Knd} {ws : List Str} (W : Wd w h) (hroom : A.depth < 950) (I : Sent w h x k ws) (hk : k.fits) (q : ∀ h' t' k', h.StaysIn h' → Q (.str k.head t') ⟨h', g, d, k', os⟩) :
    WP w A (getMethod (.ref x) (Str.ofString "identifier") pl) (fun fp s₂ => WP w A (callWith pos fp.1 fp.2 (backTo pos (starEach [] env)) []) Q E s₂) E ⟨h, g, d, t, os⟩ := by
  cases k with
  | talk C ta ty =>
    obtain ⟨dx, t₁, t₂, t₃, u₁, u₂, Dn, I, l⟩ := I
    obtain ⟨hC, h1, h2⟩ := hk
    refine m_inst W I hC.cls hC.mi.1 hC.mi.2.1 (sp_189 w).1 (sp_189 w).2.1 odT_i cp_i (sp_189 w).2.2 fun h₁ t' k₁ hm => ?_
    exact cwb0 (x := x) (fn_189 w) ⟨⟨W.keeps k₁, hm⟩, b_bound (f := 189) ⟨W.keeps k₁, hm⟩ (ident_189 (W.keeps k₁) hroom hC (I.keeps k₁) h1 h2 fun h₂ _ _ k₂ => q _ _ _ fun b o e => k₂ _ _ (k₁ _ _ e))⟩
  | prop m =>
    obtain ⟨dx, t₁, t₃, u₁, Dn, I, l⟩ := I
    refine m_inst W I (cls_244 w) (mi_244 w).1 (mi_244 w).2.1 (sp_241 w).1 (sp_241 w).2.1 odP_i cp_i (sp_241 w).2.2 fun h₁ t' k₁ hm => ?_
    exact cwb0 (x := x) (fn_241 w) ⟨⟨W.keeps k₁, hm⟩, b_bound (f := 241) ⟨W.keeps k₁, hm⟩ (ident_241 (W.keeps k₁) hroom (I.keeps k₁) hk fun h₂ _ _ k₂ => q _ _ _ fun b o e => k₂ _ _ (k₁ _ _ e))⟩
/-- `x.data` -/
theorem s_data {k : Knd} {ws : List Str} {expr : Bool} (W : Wd w h) (I : Sent w h x k ws) (hk : k.fits) (q : ∀ Dn t', ListAt h Dn ws → Q (.ref Dn) ⟨h, g, d, t', os⟩) : WP w A (getAttr (.ref x) (Str.ofString "data") expr) Q E ⟨h, g, d, t, os⟩ := by
  cases k with
  | talk C ta ty =>
    obtain ⟨dx, t₁, t₂, t₃, u₁, u₂, Dn, I, l⟩ := I
    exact b_attr W I hk.1.cls hk.1.none.2.2 odT_3 rfl fun _ => q _ _ l
  | prop m =>
    obtain ⟨dx, t₁, t₃, u₁, Dn, I, l⟩ := I
    exact b_attr W I (cls_244 w) (none_244 w).2 odP_3 rfl fun _ => q _ _ l
/-- `x.render` -/
theorem s_render {pl : Sem Bool} {k : Knd} {ws : List Str} {Q : Value × List Value → Shared → Prop} (W : Wd w h) (I : Sent w h x k ws) (hk : k.fits) (q : ∀ p h' t', h.StaysIn h' → MB w p 154 x h' → Q (.ref p, []) ⟨h', g, d, t', os⟩) :
    WP w A (getMethod (.ref x) (Str.ofString "render") pl) Q E ⟨h, g, d, t, os⟩ := by
  cases k with
  | talk C ta ty =>
    obtain ⟨dx, t₁, t₂, t₃, u₁, u₂, Dn, I, l⟩ := I
    exact m_inst W I hk.1.cls hk.1.mi.1 hk.1.mi.2.2 (sp_154 w).1 (sp_154 w).2.1 odT_r cp_r (sp_154 w).2.2 fun h₁ t' k₁ hm => q _ _ _ k₁ ⟨W.keeps k₁, hm⟩
  | prop m =>
    obtain ⟨dx, t₁, t₃, u₁, Dn, I, l⟩ := I
    exact m_inst W I (cls_244 w) (mi_244 w).1 (mi_244 w).2.2 (sp_154 w).1 (sp_154 w).2.1 odP_r cp_r (sp_154 w).2.2 fun h₁ t' k₁ hm => q _ _ _ k₁ ⟨W.keeps k₁, hm⟩

theorem b_join {y : Str} {u : Tok} {ws : List Str} (I : ListAt h D ws) (hsep : y.length ≤ 64) (hok : (ws.map (·.length)).sum + ws.length * 64 ≤ 16777216) (q : ∀ t' k', Q (.str (Txt.join y ws) t') ⟨h, g, d, k', os⟩) :
    WP w A (call (.builtin "str.join") [.str y u, .ref D]) Q E ⟨h, g, d, t, os⟩ := by
  obtain ⟨its, hl, hs⟩ := I.isList
  exact ⟨join_listC hl hs hsep hok fun _ _ => q _ _⟩
theorem b_true_str {y : Str} {u : Tok} {Q : Bool → Shared → Prop} (hy : y.length ≤ 16777216) (q : ∀ k', Q ((y.length : Int) != 0) ⟨h, g, d, k', os⟩) : WP w A (truthy (.str y u)) Q E ⟨h, g, d, t, os⟩ := ⟨P.truthy_str (by omega) (q _)⟩
theorem n_isi (w : World) : nsIn (KK w) mainGlobals (Str.ofString "isinstance") = some none ∧ bootBuiltins (Str.ofString "isinstance") = some (.builtin "isinstance") ∧ Str.ofString "isinstance" ≠ "__name__" := ⟨by kernel_rfl, by decide +kernel, by decide +kernel⟩
theorem n_bool (w : World) : nsIn (KK w) mainGlobals (Str.ofString "bool") = some none ∧ bootBuiltins (Str.ofString "bool") = some (.type "bool") ∧ Str.ofString "bool" ≠ "__name__" := ⟨by kernel_rfl, by decide +kernel, by decide +kernel⟩

noncomputable def bareT (k : Knd) (ws : List Str) : Str := k.head ++ Txt.join (Str.ofString ",") ws
noncomputable def renderT (r : Str) (sum dol nl : Bool) : Str :=
  let r := if sum then r ++ (Str.ofString "*" ++ hexT (xsum r 0 0)) else r
  let r := if dol then Str.ofString "$" ++ r else r
  if nl then r ++ Str.ofString "\n" else r

theorem render_spec {k : Knd} {ws : List Str} {args : List Value} {sum dol nlB : Bool} {nl : Value} (W : Wd w h) (hroom : A.depth < 890) (hh : A.handled = none) (I : Sent w h x k ws) (hk : k.fits)
    (ha : ((bareT k ws).cps.all (· < 128)) = true) (hlen : (bareT k ws).length ≤ 10000) (hok : (ws.map (·.length)).sum + ws.length * 64 ≤ 16777216) (hx : (hexT (xsum (bareT k ws) 0 0)).length ≤ 10) (hd : (xsum (bareT k ws) 0 0).natAbs.log2 < 1920)
    (hb : ∀ s : Shared, (KK w).In s.heap → BindsTo s (fdOf w 154) ⟨args, []⟩ (nm154.zip [.ref x, .bool sum, .bool dol, nl])) (hnl : (nl = .bool false ∧ nlB = false) ∨ (∃ u, nl = .str (Str.ofString "\n") u ∧ nlB = true))
    (q : ∀ h' t' k', h.StaysIn h' → Q (.str (renderT (bareT k ws) sum dol nlB) t') ⟨h', g, d, k', os⟩) : CC w A (.call (.ref 154) ⟨args, []⟩) (RQ Q) ⟨h, g, d, t, os⟩ := by
  have z : sizeLine = 16777216 := sizeLine_eq
  refine enterB (b := h) (nw := []) (ns := ns154) (vs := [some (.ref x), some (.bool sum), some (.bool dol), some nl, none]) (binds := nm154.zip [.ref x, .bool sum, .bool dol, nl]) W (Nat.lt_trans hroom (by decide)) (fun _ _ e => e) (fun p hp => nomatch hp)
    rfl (by kernel_rfl) rfl (hb _ W.X) (by kernel_rfl) (by kernel_rfl) (lkp_of (n := 1) (lookup_rev (l := nm154) rfl (by decide +kernel)) (by kernel_rfl)) (fun h₁ k₁ S => ?_) (by kernel_rfl) (by kernel_rfl) (by kernel_rfl)
  refine r_cons (r_asg (r_bin (r_meth (r_name S 0 (q := s_ident S.world (Nat.lt_trans (Nat.succ_lt_succ hroom) (by decide)) (I.keeps S.keep) hk fun h₂ u₂ k₂ s₂ => ?_)))))
  have S := S.keeps s₂
  refine r_meth (r_cstr fun _ _ => m_str F.slot_str_join F.type_str_join (cwm1 kept_builtin (r_attr_of (r_name S 0 (q := s_data S.world (I.keeps S.keep) hk fun Dn _ l => ⟨S.world, b_join l (by decide +kernel) hok fun _ _ => b_add_str ?_ fun _ _ => ?_⟩)))))
  · rw [← Str.length_append]; show (bareT k ws).length ≤ _; rw [z]; omega
  refine r_store S 4 (hi := by simp) (q := fun h₃ t₃ S => ?_)
  refine r_cons (r_if_join (fun s' => ∃ h' t' u, s' = ⟨h', g, d, t', os⟩ ∧ St w h h.objs.size h' ns154 [some (.ref x), some (.bool sum), some (.bool dol), some nl, some (.str (if sum then bareT k ws ++ (Str.ofString "*" ++ hexT (xsum (bareT k ws) 0 0)) else bareT k ws) u)] [])
    (t_plain (r_name S 1 (q := b_true ?_))) ?_)
  · cases sum with
    | false => exact c_ff (r_nil ⟨rfl, _, _, _, rfl, S⟩)
    | true =>
      refine c_tt (r_cons (r_aug (r_load S 4 (q := r_bin (r_cstr fun _ _ => r_meth (r_glob S (n_164 w) (m_static S.world (g_164 w) (rd_164 w) (fc_checksum w) (rc_115 w) fun _ => ?_)))))))
      refine cw1 (kept_K (keep_113 w)) (r_name S 4 (q := ⟨S.world, checksum_spec S.world (Nat.lt_trans (Nat.succ_lt_succ hroom) (by decide)) (by exact hh) ha fun h₄ u₄ k₄ s₄ => b_mod_X hd hx fun _ _ => b_iadd_str ?_ fun _ _ => ?_⟩))
      · show (bareT k ws).length + _ ≤ _; rw [Str.length_append, z, show (Str.ofString "*").length = 1 from by decide +kernel]; omega
      · exact r_store (S.keeps s₄) 4 (hi := by simp) (q := fun h₅ t₅ S => r_nil ⟨rfl, _, _, _, rfl, S⟩)
  rintro s' ⟨h₄, t₄, u₄, rfl, S⟩
  have hl1 : (if sum then bareT k ws ++ (Str.ofString "*" ++ hexT (xsum (bareT k ws) 0 0)) else bareT k ws).length ≤ 11000 := by
    cases sum
    · simp only [Bool.false_eq_true, if_false]; omega
    · simp only [if_true]
      rw [Str.length_append, Str.length_append, show (Str.ofString "*").length = 1 from by decide +kernel]; omega
  have e_def : renderT (bareT k ws) sum dol nlB = (let r := if dol then Str.ofString "$" ++ (if sum then bareT k ws ++ (Str.ofString "*" ++ hexT (xsum (bareT k ws) 0 0)) else bareT k ws) else (if sum then bareT k ws ++ (Str.ofString "*" ++ hexT (xsum (bareT k ws) 0 0)) else bareT k ws); if nlB then r ++ Str.ofString "\n" else r) := rfl
  rw [e_def] at q
  generalize (if sum then bareT k ws ++ (Str.ofString "*" ++ hexT (xsum (bareT k ws) 0 0)) else bareT k ws) = r at *
  have e1 : (Str.ofString "$").length = 1 := by decide +kernel
  have e2 : (Str.ofString "\n").length = 1 := by decide +kernel
  refine r_cons (r_if_join (fun s' => ∃ h' t' u, s' = ⟨h', g, d, t', os⟩ ∧ St w h h.objs.size h' ns154 [some (.ref x), some (.bool sum), some (.bool dol), some nl, some (.str (if dol then Str.ofString "$" ++ r else r) u)] [])
    (t_plain (r_name S 2 (q := b_true ?_))) ?_)
  · cases dol with
    | false => exact c_ff (r_nil ⟨rfl, _, _, _, rfl, S⟩)
    | true =>
      refine c_tt (r_cons (r_asg (r_bin (r_cstr fun _ _ => r_name S 4 (q := b_add_str ?_ fun _ _ => r_store S 4 (hi := by simp) (q := fun h₅ t₅ S => r_nil ⟨rfl, _, _, _, rfl, S⟩))))))
      rw [e1, z]; omega
  rintro s' ⟨h₄, t₄, u₄, rfl, S⟩
  have hl2 : (if dol then Str.ofString "$" ++ r else r).length ≤ 11001 := by
    cases dol
    · simp only [Bool.false_eq_true, if_false]; omega
    · simp only [if_true]; rw [Str.length_append, e1]; omega
  dsimp only at q
  generalize (if dol then Str.ofString "$" ++ r else r) = r2 at *
  refine r_cons (r_if_join (fun s' => ∃ h' t' u, s' = ⟨h', g, d, t', os⟩ ∧ St w h h.objs.size h' ns154 [some (.ref x), some (.bool sum), some (.bool dol), some nl, some (.str (if nlB then r2 ++ Str.ofString "\n" else r2) u)] [])
    (t_plain (r_name S 3 (q := ?_))) ?_)
  · rcases hnl with ⟨rfl, rfl⟩ | ⟨u, rfl, rfl⟩
    · exact b_true (c_ff (r_nil ⟨rfl, _, _, _, rfl, S⟩))
    · refine b_true_str (by rw [e2]; decide) fun _ => c_t (by rw [e2]; decide) ?_
      refine r_cons (r_aug (r_load S 4 (q := r_or (r_and (r_call (r_boot S (n_isi w) (cw2 kept_builtin (r_name S 3 (q := r_boot S (n_bool w) ⟨S.world, ⟨IsiPair.str_bool ?_⟩⟩)))))))))
      refine b_true (c_ff (b_true (c_ff (r_one (r_name S 3 (q := b_iadd_str ?_ fun _ _ => r_store S 4 (hi := by simp) (q := fun h₅ t₅ S => r_nil ⟨rfl, _, _, _, rfl, S⟩)))))))
      rw [e2, z]; omega
  rintro s' ⟨h₄, t₄, u₄, rfl, S⟩
  exact r_cons (r_ret (r_name S 4 (q := q _ _ _ S.keep)))
end
end Mine
end
section
open PySem PySem.W PyProof.Rows PySem.Calls Builtin.ObjectAttr Builtin.Getset_descriptor
set_option Elab.async false
set_option maxRecDepth 100000
set_option maxHeartbeats 8000000
namespace Mine
section
variable {w : World} {A : Around} {E : Value → Shared → Prop} {h₀ h b : Heap} {g : Array GenState} {d : Drawn} {t : Nat} {os : OsState} {L x C dx D : Addr} {ns : List Str} {vs : List (Option Value)} {nw : List (Addr × Obj)} {its : Array Value} {env : Env} {pos : Pos} {Q : Value → Shared → Prop}
structure ClsA (w : World) (D : Addr) : Prop where
  c : (clsIn (KK w) D).isSome = true
  f : findIn (KK w) (.ref D) "__class__" = some (some (.builtin "object.__class__"))
  m : mroIn (KK w) D (.type "object") = some true
  ga : findIn (KK w) (.ref D) "__getattribute__" = some (some (.builtin "object.__getattribute__"))
  hook : ∃ r, findIn (KK w) (.ref D) "__getattr__" = some r
theorem bi_class (w : World) : specialIn (KK w) (.builtin "object.__class__") "__get__" = some (some (.builtin "getset_descriptor.__get__")) ∧ takesIn (KK w) (.builtin "object.__class__") = some true := ⟨by kernel_rfl, by kernel_rfl⟩
theorem clsA_291 (w : World) : ClsA w 291 := ⟨by kernel_rfl, by kernel_rfl, by kernel_rfl, by kernel_rfl, ⟨some (.ref 132), by kernel_rfl⟩⟩
theorem clsA_309 (w : World) : ClsA w 309 := ⟨by kernel_rfl, by kernel_rfl, by kernel_rfl, by kernel_rfl, ⟨some (.ref 132), by kernel_rfl⟩⟩
theorem clsA_244 (w : World) : ClsA w 244 := ⟨by kernel_rfl, by kernel_rfl, by kernel_rfl, by kernel_rfl, ⟨some (.ref 132), by kernel_rfl⟩⟩
theorem b_is_no {ox : Obj} {od : Option Obj} (W : Wd w h) (I : InstAt h x ox D od) (Y : ClsA w D) (e : isNotObj (KK w) D C = true) (q : ∀ t', Q (.bool false) ⟨h, g, d, t', os⟩) : WP w A (call (.builtin "isinstance") [.ref x, .ref C]) Q E ⟨h, g, d, t, os⟩ := by
  obtain ⟨r, hk⟩ := Y.hook
  exact ⟨no_call (s := ⟨h, g, d, t, os⟩) W.X I e Y.ga (findObj_data Y.c Y.f (bi_class w).1 (bi_class w).2) hk Y.m (q _)⟩
theorem b_is_yes {o : Obj} (W : Wd w h) (hx : h.get? x = some o) (hc : o.cls = .ref D) (e : isIn (KK w) (.ref D) C = true) (q : Q (.bool true) ⟨h, g, d, t, os⟩) : WP w A (call (.builtin "isinstance") [.ref x, .ref C]) Q E ⟨h, g, d, t, os⟩ :=
  ⟨isi_call (s := ⟨h, g, d, t, os⟩) (t := .ref D) W.X (fun M => hc ▸ (Looks.ld hx).andThen .now) e (by intro e; cases e) q⟩
theorem Sent.at {k : Knd} {ws : List Str} : ∀ {k : Knd}, Sent w h x k ws → ∃ dx od, At h x k.cls dx od
  | .talk C ta ty, ⟨dx, _, _, _, _, _, _, I, _⟩ => ⟨dx, _, I⟩
  | .prop m, ⟨dx, _, _, _, _, I, _⟩ => ⟨dx, _, I⟩
theorem Knd.clsA : ∀ {k : Knd}, k.fits → ClsA w k.cls
  | .talk C _ _, h => by rcases h.1 with e | e <;> (show ClsA w C; rw [e]); exact clsA_291 w; exact clsA_309 w
  | .prop _, _ => clsA_244 w
theorem n_291 (w : World) : nsIn (KK w) mainGlobals (Str.ofString "WCV") = some (some (.ref 291)) := by kernel_rfl
theorem n_309 (w : World) : nsIn (KK w) mainGlobals (Str.ofString "XTE") = some (some (.ref 309)) := by kernel_rfl
theorem n_244 (w : World) : nsIn (KK w) mainGlobals (Str.ofString "ProprietarySentence") = some (some (.ref 244)) := by kernel_rfl
theorem nots (w : World) : isNotObj (KK w) 309 291 = true ∧ isNotObj (KK w) 244 291 = true ∧ isNotObj (KK w) 244 309 = true := ⟨by kernel_rfl, by kernel_rfl, by kernel_rfl⟩
theorem ises (w : World) : isIn (KK w) (.ref 291) 291 = true ∧ isIn (KK w) (.ref 309) 309 = true ∧ isIn (KK w) (.ref 244) 244 = true := ⟨by kernel_rfl, by kernel_rfl, by kernel_rfl⟩
theorem nots89 (w : World) : isNotObj (KK w) 291 89 = true ∧ isNotObj (KK w) 309 89 = true ∧ isNotObj (KK w) 244 89 = true ∧ isIn (KK w) (.ref 89) 89 = true := ⟨by kernel_rfl, by kernel_rfl, by kernel_rfl, by kernel_rfl⟩
noncomputable def kindT : Addr → Str
  | 291 => Str.ofString "WCV"
  | 309 => Str.ofString "XTE"
  | _ => Str.ofString "BCD"
noncomputable def nsX : List Str := [Str.ofString "x"]
theorem kind_spec {k : Knd} {ws : List Str} (W : Wd w h) (hroom : A.depth < 900) (I : Sent w h x k ws) (hk : k.fits)
    (q : ∀ h' t' k', h.StaysIn h' → Q (.str (kindT k.cls) t') ⟨h', g, d, k', os⟩) : WP w A (call (.ref 341) [.ref x]) Q E ⟨h, g, d, t, os⟩ := by
  refine enterP (ns := nsX) (vs := [some (.ref x)]) (binds := [(Str.ofString "x", .ref x)]) W (Nat.lt_trans hroom (by decide))
    rfl (by kernel_rfl) rfl (by kernel_rfl) (by kernel_rfl) (by kernel_rfl) (lkp_of (n := 0) (lookup_rev (l := nsX) rfl (by decide +kernel)) (by kernel_rfl)) (fun h₁ k₁ S => ?_) (by kernel_rfl) (by kernel_rfl) (by kernel_rfl)
  obtain ⟨dx, od, I⟩ := I.at (k := k) (ws := ws)
  have I := I.keeps S.keep
  have Y : ClsA w k.cls := k.clsA hk
  have hC : k.cls = 291 ∨ k.cls = 309 ∨ k.cls = 244 := by
    cases k with
    | talk C _ _ => exact hk.1.elim .inl fun e => .inr (.inl e)
    | prop _ => exact .inr (.inr rfl)
  generalize k.cls = C at *
  refine r_cons (r_if (t_plain (r_call (r_boot S (n_isi w) (cw2 kept_builtin (r_name S 0 (q := r_glob S (n_291 w) ⟨S.world, ?_⟩)))))))
  rcases hC with rfl | rfl | rfl
  · exact b_is_yes S.world I.x rfl (ises w).1 (b_true (c_tt (r_cons (r_ret (r_cstr fun _ _ => q _ _ _ S.keep)))))
  · refine b_is_no S.world I.inst Y (nots w).1 fun _ => b_true (c_ff (r_nil (r_cons (r_if (t_plain (r_call (r_boot S (n_isi w) (cw2 kept_builtin (r_name S 0 (q := r_glob S (n_309 w) ⟨S.world, ?_⟩))))))))))
    exact b_is_yes S.world I.x rfl (ises w).2.1 (b_true (c_tt (r_cons (r_ret (r_cstr fun _ _ => q _ _ _ S.keep)))))
  · refine b_is_no S.world I.inst Y (nots w).2.1 fun _ => b_true (c_ff (r_nil (r_cons (r_if (t_plain (r_call (r_boot S (n_isi w) (cw2 kept_builtin (r_name S 0 (q := r_glob S (n_309 w) ⟨S.world, ?_⟩))))))))))
    refine b_is_no S.world I.inst Y (nots w).2.2 fun _ => b_true (c_ff (r_nil (r_cons (r_if (t_plain (r_call (r_boot S (n_isi w) (cw2 kept_builtin (r_name S 0 (q := r_glob S (n_244 w) ⟨S.world, ?_⟩))))))))))
    exact b_is_yes S.world I.x rfl (ises w).2.2 (b_true (c_tt (r_cons (r_ret (r_cstr fun _ _ => q _ _ _ S.keep)))))
end
end Mine
end
section
open PySem PySem.W PyProof.Rows PySem.Calls Builtin.ObjectAttr Builtin.Getset_descriptor
set_option Elab.async false
set_option maxRecDepth 100000
set_option maxHeartbeats 1000000
namespace Mine
section
variable {w : World} {A : Around} {E : Value → Shared → Prop} {R : Result → Shared → Prop} {h₀ h b : Heap} {g : Array GenState} {d : Drawn} {t : Nat} {os : OsState} {L x C dx D so : Addr} {ns : List Str} {vs : List (Option Value)} {nw : List (Addr × Obj)} {env : Env} {pos : Pos} {Q : Value → Shared → Prop}
abbrev obj89 : Obj := excClassObj (Str.ofString "ChecksumError") (Str.ofString "ChecksumError") 89 88 [.ref 64] [.ref 64, .type "ValueError", .type "Exception", .type "BaseException", .type "object"] true [] [] false none none
  (some (.ref 80)) none (some (.str (Str.ofString "ChecksumError") 422)) (some (.str (Str.ofString "ChecksumError") 430)) (some (.bool true)) "ValueError.__new__"
theorem look89 (w : World) : (KK w).lookup 89 = some obj89 := by kernel_rfl
theorem at89 (W : Wd w h) : h.get? 89 = some obj89 := W.X _ _ (look89 w)
abbrev excObj (T : Addr) : Obj := { cls := .ref 89, data := .fields #[.ref T, .none, .none, .none, .bool false, .none] }
theorem exc_new {rest : List Value} (W : Wd w h) (hz : rest.length ≤ sizeLine)
    (hq : R (.ok (.ret (.ref (h.objs.size + 1)))) ⟨(h.push { cls := .type "tuple", data := .seq rest.toArray }).push (excObj h.objs.size), g, d, t, os⟩) :
    codeAny (MM w) A (.builtin "ValueError.__new__" ⟨.ref 89 :: rest, []⟩) R ⟨h, g, d, t, os⟩ := by
  have Fn := PySem.F.excBase_ValueError
  have hC := at89 W
  have hends := Fn.ends
  refine codeAny_builtinAt Fn.entry ?_
  unfold Builtin.«BaseException.__new__»
  refine PySem.wpAt_bind ?_
  show PySem.wpAt _ _ _ (stack >>= _) _ _ _
  refine PySem.wpAt_bind (PySem.wpAt_stack fun p below => PySem.wpAt_of_wpAny ?_)
  wp_walk
  refine PySem.wpAt_of_wpAny ?_
  rw [Fn.owner]
  have c1 : (Value.ref 89 :: [.ref 64, .type "ValueError", .type "Exception", .type "BaseException", .type "object"]).contains (.type "ValueError") = true := by decide +kernel
  have c2 : (Value.ref 89 :: [.ref 64, .type "ValueError", .type "Exception", .type "BaseException", .type "object"]).contains (.type "AttributeError") = false := by decide +kernel
  have c3 : (Value.ref 89 :: [.ref 64, .type "ValueError", .type "Exception", .type "BaseException", .type "object"]).contains (.type "NameError") = false := by decide +kernel
  repeat (first | with_reducible refine wpAny_madeHere_exc Fn.canon hC ?_ | with_reducible refine wpAny_loadPart_at hC ?_ | (with_reducible refine wpAny_isSubtype_exc hC ?_; first | rw [c1] | rw [c2] | rw [c3]) | wp_step)
  show R _ _
  rw [Heap.size_push]
  exact hq

theorem ve_type : ∀ s : Shared, s.TypeIs (.builtin "ValueError.__init__") "wrapper_descriptor" := fun _ => (by show builtinType _ = _; rw [builtinType_eq_fast]; kernel_rfl)
theorem slot_wd : Slot "wrapper_descriptor" "__get__" "wrapper_descriptor.__get__" := .of (owner := "wrapper_descriptor") (n := "__get__") (by rw [typeLookup_type, builtinLookup_eq_fast]; kernel_rfl) (by decide +kernel) (by decide +kernel) (by decide +kernel)
  (by first | exact .inl (by decide +kernel) | exact .inr (by decide +kernel)) (by rw [isSubtype_type]; kernel_rfl)
theorem entry_wd : entryFor table "wrapper_descriptor.__get__" = some Builtin.«wrapper_descriptor.__get__» := entryFor_of_tree (by kernel_rfl)
theorem args_wd (a b c : Value) : argsOk "wrapper_descriptor.__get__" ⟨[a, b, c], []⟩ := by unfold argsOk; kernel_rfl
theorem ve_along (w : World) : alongIn (KK w) (Str.ofString "__init__") [.type "ValueError", .type "Exception", .type "BaseException", .type "object"] = some (some (.builtin "ValueError.__init__")) := by kernel_rfl
abbrev wrapObj (x : Addr) : Obj := { cls := .type "method-wrapper", data := .fields #[.builtin "ValueError.__init__", .ref x] }
abbrev superObj (x : Addr) : Obj := { cls := .type "super", dict := none, data := .fields #[.ref 64, .ref x, .ref 89], slots := #[] }

theorem wd_get {prog : Program} {Q : Fin → Shared → Prop} {T : Addr} (hC : h.get? 89 = some obj89) (hx : h.get? x = some (excObj T)) (hq : Q (.done (.ret (.ref h.objs.size))) ⟨h.push (wrapObj x), g, d, t, os⟩) :
    wpAny (model prog w) A (Builtin.«wrapper_descriptor.__get__» ⟨[.builtin "ValueError.__init__", .ref x, .ref 89], []⟩) Q E ⟨h, g, d, t, os⟩ := by
  have c1 : (Value.ref 89 :: [.ref 64, .type "ValueError", .type "Exception", .type "BaseException", .type "object"]).contains (.type "ValueError") = true := by decide +kernel
  have e1 : "ValueError.__init__".cutAt '.' = ["ValueError", "__init__"] := by decide +kernel
  unfold Builtin.«wrapper_descriptor.__get__»
  k_delta "getArgs"
  k_delta "bindBuiltin"
  k_delta "checkInstance"
  k_delta "nameAndClass"
  k_delta "ownerAndName"
  unfold isInstance
  refine wpAny_bind (wpAny_of_eq (a := (.builtin "ValueError.__init__", some (.ref x), some (.ref 89))) rfl ?_)
  dsimp only
  refine wpAny_bind (wpAny_bind (wpAny_of_eq (a := (Str.ofString "__init__", .type "ValueError")) (by rw [e1]; rfl) (wpAny_bind ?_)))
  dsimp only
  have L : Looks (model prog w) h (typeOf (.ref x)) (.ref 89) := (Looks.ld hx).andThen .now
  refine wpAny_bind (L.at ?_)
  refine wpAny_isSubtype_exc hC ?_
  rw [c1]
  simp only [Bool.not_true, Bool.false_eq_true, if_false]
  refine wpAny_pure ?_
  refine wpAny_bind (wpAny_newObj_type ?_ (by size_fits))
  exact wpAny_pure hq

theorem super_ga {prog : Program} {K : Frag} {Q : Fin → Shared → Prop} {T : Addr} {tk : Tok} {name : Str} (hn : (name == ("__class__" : Str)) = false) (X : K.In h) (h89 : h.get? 89 = some obj89) (hno : Looks (model prog w) h (opaqueClassAbove (.ref 89)) none)
    (hf : alongIn K name [.type "ValueError", .type "Exception", .type "BaseException", .type "object"] = some (some (.builtin "ValueError.__init__")))
    (hso : h.get? so = some (superObj x)) (hx : h.get? x = some (excObj T)) (hxC : x ≠ 89)
    (hq : Q (.done (.ret (.ref h.objs.size))) ⟨h.push (wrapObj x), g, d, t, os⟩) :
    wpAny (model prog w) A (Builtin.«super.__getattribute__» ⟨[.ref so, .str name tk], []⟩) Q E ⟨h, g, d, t, os⟩ := by
  have hC : Looks (model prog w) h (mroOf (.ref 89)) [.ref 89, .ref 64, .type "ValueError", .type "Exception", .type "BaseException", .type "object"] := fun A Q E s k q => wpAny_mroOf_exc (h := s.heap) (k _ _ h89) q
  have hl : (([.ref 89, .ref 64, .type "ValueError", .type "Exception", .type "BaseException", .type "object"] : List Value).dropWhile (· != .ref 64)).drop 1 = [.type "ValueError", .type "Exception", .type "BaseException", .type "object"] := by decide +kernel
  have hlk := slot_wd.lookup
  have hne : (Value.ref x == Value.ref 89) = false := by simp [hxC]
  have hTf := ve_type
  have hdt : (superObj x).data = .fields #[.ref 64, .ref x, .ref 89] := rfl
  have f0 : (#[.ref 64, .ref x, .ref 89] : Array Value)[0]? = some (.ref 64) := rfl
  have f1 : (#[.ref 64, .ref x, .ref 89] : Array Value)[1]? = some (.ref x) := rfl
  have f2 : (#[.ref 64, .ref x, .ref 89] : Array Value)[2]? = some (.ref 89) := rfl
  unfold Builtin.«super.__getattribute__»
  repeat (first
    | (with_reducible refine wpAny_field hso hdt f0 ?_) | (with_reducible refine wpAny_field hso hdt f1 ?_) | (with_reducible refine wpAny_field hso hdt f2 ?_)
    | (with_reducible refine ks_wpAny_notOpaque hno ?_)
    | (with_reducible refine Looks.at hC ?_; rw [hl])
    | (refine ks_forIn_along X (fun _ _ => rfl) rfl ?_ hf)
    | (with_reducible refine wpAny_typeOf (hTf _) ?_)
    | (with_reducible refine wpAny_call_entry slot_wd (hTf _) entry_wd ?_ (args_wd _ _ _))
    | (with_reducible refine wd_get h89 hx ?_)
    | (with_reducible refine ⟨_, rfl, ?_⟩)
    | (simp only [hn, hne, Bool.or_false, Bool.false_eq_true, if_false])
    | wp_step
    | dsimp only)
  all_goals exact hq

theorem super_meth {pl : Sem Bool} {Q : Value × List Value → Shared → Prop} {T : Addr} (W : Wd w h) (hso : h.get? so = some (superObj x)) (hx : h.get? x = some (excObj T)) (hxC : x ≠ 89)
    (hq : Q (.ref h.objs.size, []) ⟨h.push (wrapObj x), g, d, t + 1, os⟩) : WP w A (getMethod (.ref so) (Str.ofString "__init__") pl) Q E ⟨h, g, d, t, os⟩ := by
  have hlk := F.ks_slot_super_ga.lookup
  have hcan := F.ks_canon_super_ga
  have hT : ∀ t', (⟨h, g, d, t', os⟩ : Shared).TypeIs (.ref so) "super" := fun _ => ⟨_, hso, rfl⟩
  refine ⟨?_⟩
  unfold getMethod
  refine wpAny_bind (wpAny_specialOf (hT _) hlk ?_)
  show wpAny _ _ (if (Manifest.canonical "super.__getattribute__" != "object.__getattribute__") = true then _ else _) _ _ _
  rw [if_pos hcan]
  unfold getAttr getAttrBy
  refine wpAny_bind (wpAny_bind (wpAny_mkText (wpAny_holding (wpAny_bind (wpAny_typeOf (hT _) (wpAny_bind (wpAny_of_eq hlk ?_)))))))
  show wpAny _ _ (getAttrByItsOwn (.ref so) (.str _ t) (.type "super") (.builtin "super.__getattribute__") true false) _ _ _
  unfold getAttrByItsOwn hookBefore callGetattribute boundAndCalled
  refine wpAny_bind (wpAny_of_eq (show (if onTheHeap (.type "super") then typeLookup (.type "super") "__getattr__" else pure none) = pure none from rfl) ?_)
  refine wpAny_bind (wpAny_attempt (wpAny_holding ?_))
  show wpAny _ _ (bindSpecial (.builtin "super.__getattribute__") (.ref so) >>= _) _ _ _
  refine wpAny_bind (wpAny_of_eq (F.ks_slot_super_ga.bind _) ?_)
  refine wpAny_mono (Q := fun v s' => v = .ref h.objs.size ∧ s' = ⟨h.push (wrapObj x), g, d, t + 1, os⟩) (E := fun _ _ => False)
    (wpAny_call_entry F.ks_slot_super_ga (hT _) F.ks_entry_super_ga (super_ga (by decide +kernel) W.X (at89 W) (looks_opaque W.X (by kernel_rfl)) (ve_along w) hso hx hxC ⟨_, rfl, rfl, rfl⟩) (F.ks_gaArgs_super _ _)) (fun v s' hv => ?_) fun _ _ z => z.elim
  obtain ⟨rfl, rfl⟩ := hv
  exact wpAny_pure (wpAny_pure hq)
end
end Mine
end
section
open PySem PySem.W PyProof.Rows PySem.Calls Builtin.ObjectAttr Builtin.Getset_descriptor
set_option Elab.async false
set_option maxRecDepth 100000
set_option maxHeartbeats 1000000
namespace Mine
section
variable {w : World} {A : Around} {E : Value → Shared → Prop} {R : Result → Shared → Prop} {h₀ h b : Heap} {g : Array GenState} {d : Drawn} {t : Nat} {os : OsState} {L x C dx D so mw T : Addr} {ns : List Str} {vs : List (Option Value)} {nw : List (Addr × Obj)} {env : Env} {pos : Pos} {Q : Value → Shared → Prop} {s : Shared}
theorem n_super (w : World) : nsIn (KK w) mainGlobals (Str.ofString "super") = some none ∧ bootBuiltins (Str.ofString "super") = some (.type "super") ∧ Str.ofString "super" ≠ "__name__" := ⟨by kernel_rfl, by decide +kernel, by decide +kernel⟩
theorem n_64 (w : World) : nsIn (KK w) mainGlobals (Str.ofString "ParseError") = some (some (.ref 64)) := by kernel_rfl
theorem n_89 (w : World) : nsIn (KK w) mainGlobals (Str.ofString "ChecksumError") = some (some (.ref 89)) := by kernel_rfl
abbrev obj64 : Obj := excClassObj (Str.ofString "ParseError") (Str.ofString "ParseError") 64 63 [.type "ValueError"] [.type "ValueError", .type "Exception", .type "BaseException", .type "object"] true [] [.ref 77, .ref 89] false none none
  (some (.ref 46)) none (some (.str (Str.ofString "ParseError") 377)) (some (.str (Str.ofString "ParseError") 385)) (some (.bool true)) "ValueError.__new__"
theorem look64 (w : World) : (KK w).lookup 64 = some obj64 := by kernel_rfl
theorem b_super (W : Wd w h) (hx : h.get? x = some (excObj T)) (q : ∀ h', h'.get? h.objs.size = some (superObj x) → h.StaysIn h' → Q (.ref h.objs.size) ⟨h', g, d, t, os⟩) :
    WP w A (call (.type "super") [.ref 64, .ref x]) Q E ⟨h, g, d, t, os⟩ := by
  have c1 : (Value.ref 89 :: [.ref 64, .type "ValueError", .type "Exception", .type "BaseException", .type "object"]).contains (.ref 64) = true := by decide +kernel
  exact ⟨ks_wpAny_call_super (W.X _ _ (look64 w)) rfl hx rfl (fun _ => by intro e; cases e) (fun A Q E s k q => wpAny_isSubtype_exc (h := s.heap) (k _ _ (at89 W)) (by rw [c1]; exact q)) fun h' a b => q h' a b⟩

theorem keeps_W (hm : s.heap.get? mw = some (wrapObj x)) : Looks (MM w) s.heap (keeperOf (.ref mw)) .machine := by
  refine (Looks.ld hm).andThen ?_
  exact .now
theorem cww1 {e₁ : Expr} (h : WP w A (eval e₁ env) (fun v₁ s₁ => s₁.heap.get? mw = some (wrapObj x) ∧ WP w A (call (.ref mw) [v₁]) Q E s₁) E s)
    (he₁ : starEach [e₁] env = (false, eval e₁ env) :: starEach [] env := by rfl) : WP w A (callWith pos (.ref mw) [] (backTo pos (starEach [e₁] env)) []) Q E s := by
  refine ⟨callWith_of (P := fun h => h.get? mw = some (wrapObj x)) (by rw [he₁]; rfl) (fun h hm => ⟨.machine, .inr (.inl rfl), (Looks.ld hm).andThen .now⟩) ?_⟩
  rw [he₁]
  have := sp_cons (pos := pos) (Q := fun vs s₂ => s₂.heap.get? mw = some (wrapObj x) ∧ WP w A (call (.ref mw) vs) Q E s₂) he₁ (h.monoQ fun v s₁ z => sp_nil z)
  rw [he₁] at this
  exact evalArgs_plain (this.to fun _ _ z => ⟨z.1, z.2.out⟩)

theorem b_wrap {v : Value} (W : Wd w h) (hm : h.get? mw = some (wrapObj x)) (hx : h.get? x = some (excObj T))
    (q : ∀ h' T', h'.get? x = some (excObj T') → (∀ b o, b ≠ x → h.get? b = some o → h'.get? b = some o) → Q .none ⟨h', g, d, t, os⟩) : WP w A (call (.ref mw) [v]) Q E ⟨h, g, d, t, os⟩ := by
  refine ⟨wpAny_call (codeAny_of_tree ?_)⟩
  show wpAny _ _ (callAny (.ref mw) _) _ _ _
  refine nd_load hm ?_
  show wpAny _ _ (checkBoundCall "ValueError.__init__" ⟨[.ref x, v], []⟩ >>= _) _ _ _
  have FF := PySem.F.excBase_ValueError
  have hshort := FF.noStar
  have fin : ∀ (A : Around) (Q' : Unit → Shared → Prop) E', Q' () ⟨h, g, d, t, os⟩ → wpAny (MM w) A (checkBoundCall "ValueError.__init__" ⟨[.ref x, v], []⟩) Q' E' ⟨h, g, d, t, os⟩ := by
    intro A Q' E' hq
    simp only [checkBoundCall, FF.initKind, FF.initRow]
    have hC := at89 W
    have c1 : (Value.ref 89 :: [.ref 64, .type "ValueError", .type "Exception", .type "BaseException", .type "object"]).contains (.type "ValueError") = true := by decide +kernel
    repeat (first | with_reducible refine wpAny_loadPart_at hx ?_ | with_reducible refine wpAny_loadPart_at hC ?_ | with_reducible refine wpAny_bind (wpAny_load hC ?_) | (with_reducible refine wpAny_isSubtype_exc hC ?_; rw [c1]) | with_reducible refine wpAny_load hC ?_ | wp_step)
    exact hq
  refine wpAny_bind (fin _ _ _ (wpAny_pure ⟨Code.quiet_builtin _ (by decide +kernel), codeAny_builtin FF.initEntry ?_⟩))
  have hget := hx
  wp_walk
  refine q _ h.objs.size ?_ fun b o hb e => ?_
  · exact Heap.get?_update_self _ (Heap.get?_push_of_some _ hx) rfl
  · rw [Heap.get?_update_other _ _ (Ne.symm hb)]
    exact Heap.get?_push_of_some _ e

noncomputable def ns61 : List Str := [Str.ofString "self", Str.ofString "message", Str.ofString "data"]
theorem init_61 {v₁ v₂ : Value} (W : Wd w b) (hroom : A.depth < 950) (hbh : b.StaysIn h) (hx : h.get? x = some (excObj T)) (hbx : b.get? x = none) (hx89 : x ≠ 89)
    (q : ∀ h' T' k, b.StaysIn h' → h'.get? x = some (excObj T') → Q .none ⟨h', g, d, k, os⟩) :
    CC w A (.call (.ref 61) ⟨[.ref x, v₁, v₂], []⟩) (RQ Q) ⟨h, g, d, t, os⟩ := by
  refine enterC (b := b) (nw := [(x, excObj T)]) (ns := ns61) (vs := [some (.ref x), some v₁, some v₂]) (binds := [(Str.ofString "self", .ref x), (Str.ofString "message", v₁), (Str.ofString "data", v₂)]) W (Nat.lt_trans hroom (by decide)) hbh
    (fun p hp => by rw [List.mem_singleton.mp hp]; exact ⟨hx, hbx⟩)
    rfl (by kernel_rfl) rfl (by kernel_rfl) (by kernel_rfl) (by kernel_rfl) (lkp_of (n := 0) (lookup_rev (l := ns61) rfl (by decide +kernel)) (by kernel_rfl)) (fun h₁ k S => ?_) (by kernel_rfl) (by kernel_rfl) (by kernel_rfl)
  refine r_cons (r_expr (r_meth (r_call (r_boot S (n_super w) (cw2 kept_type (r_glob S (n_64 w) (r_name S 0 (q := ⟨S.world, b_super S.world (S.at (.head _)) fun h₂ hso k₂ => ?_⟩))))))))
  have S₂ := S.keeps k₂
  refine super_meth S₂.world hso (S₂.at (.head _)) hx89 ?_
  have k₃ : h₂.StaysIn (h₂.push (wrapObj x)) := fun b o e => Heap.get?_push_of_some _ e
  have S₃ := S₂.keeps k₃
  have hm : (h₂.push (wrapObj x)).get? h₂.objs.size = some (wrapObj x) := Heap.get?_push_size _ rfl
  refine cww1 (x := x) (r_tup2 (r_name S₃ 1 (q := r_name S₃ 2 (q := ⟨Heap.get?_push_of_some _ hm, ?_⟩))))
  have S₄ := S₃.keeps (h' := (h₂.push (wrapObj x)).push { cls := .type "tuple", data := .seq #[v₁, v₂] }) fun b o e => Heap.get?_push_of_some _ e
  refine b_wrap S₄.world (Heap.get?_push_of_some _ hm) (S₄.at (.head _)) fun h₅ T' hx' k₅ => ?_
  exact r_nil (q _ _ _ (fun c o e => k₅ _ _ (fun e' => by rw [e', hbx] at e; cases e) (S₄.keep _ _ e)) hx')
end
end Mine
end
section
open PySem PySem.W PyProof.Rows PySem.Calls Builtin.ObjectAttr Builtin.Getset_descriptor
set_option Elab.async false
set_option maxRecDepth 100000
set_option maxHeartbeats 1000000
namespace Mine
section
variable {w : World} {A : Around} {E : Value → Shared → Prop} {R : Result → Shared → Prop} {h₀ h b : Heap} {g : Array GenState} {d : Drawn} {t : Nat} {os : OsState} {L x C dx D so mw T : Addr} {ns : List Str} {vs : List (Option Value)} {nw : List (Addr × Obj)} {env : Env} {pos : Pos} {Q : Value → Shared → Prop} {s : Shared}
theorem init_89 (w : World) : findIn (KK w) (.ref 89) "__init__" = some (some (.ref 61)) := by kernel_rfl
theorem fn_61 (w : World) : typeIn (KK w) (.ref 61) = some (.type "function") := by kernel_rfl
theorem new_exc {v₁ v₂ : Value} (W : Wd w h) (hroom : A.depth < 940) (q : ∀ h' x T k, h.StaysIn h' → h.get? x = none → h'.get? x = some (excObj T) → Q (.ref x) ⟨h', g, d, k, os⟩) :
    WP w A (call (.ref 89) [v₁, v₂]) Q E ⟨h, g, d, t, os⟩ := by
  have Fn := PySem.F.excBase_ValueError
  have hC := at89 W
  have h89 := Heap.lt_size hC
  have f1 := tc_lookup
  have f2 := tc_bind (.ref 89)
  have hT : (⟨h, g, d, t, os⟩ : Shared).TypeIs (.ref 89) "type" := ⟨_, hC, rfl⟩
  have c1 : (Value.ref 89 :: [.ref 64, .type "ValueError", .type "Exception", .type "BaseException", .type "object"]).contains (.type "ValueError") = true := by decide +kernel
  have c2 : (Value.ref 89 :: [.ref 64, .type "ValueError", .type "Exception", .type "BaseException", .type "object"]).contains (.ref 89) = true := by decide +kernel
  refine ⟨wpAny_call (codeAny_of_tree ?_)⟩
  show wpAny _ _ (callAny (.ref 89) _) _ _ _
  repeat (any_goals (first | assumption | with_reducible refine wpAny_loadPart_at hC ?_ | wp_step))
  refine ⟨rfl, ?_⟩
  refine codeAny_call_builtin_at (Code.quiet_builtin _ (by decide +kernel)) entry_typeCall (wpAny_check_type_call_sub hC ?_)
  repeat (first | with_reducible refine wpAny_loadPart_at hC ?_ | with_reducible refine wpAny_madeBy_exc hC ?_ | wp_step)
  refine codeAny_call_builtin_code (Code.quiet_builtin _ Fn.quiet) ?_
  have hstar := Fn.noStar
  simp only [checkBuiltinCall, Fn.newKind, Fn.newSplit, Fn.newRow]
  repeat (first | refine wpAny_loadPart_at hC ?_ | (refine wpAny_isSubtype_exc hC ?_; rw [c1]) | refine wpAny_staticBase_exc hC ?_ | refine wpAny_madeBy_exc hC ?_ | simp only [bne_self_eq_false, Bool.false_eq_true, if_false] | wp_step)
  refine exc_new W (by show 2 ≤ sizeLine; decide) ?_
  change wpAny _ _ _ _ _ ⟨(h.push { cls := .type "tuple", data := .seq [v₁, v₂].toArray }).push (excObj h.objs.size), g, d, t, os⟩
  have k1 : h.StaysIn ((h.push { cls := .type "tuple", data := .seq [v₁, v₂].toArray }).push (excObj h.objs.size)) := fun b o e => Heap.get?_push_of_some _ (Heap.get?_push_of_some _ e)
  have hget : ((h.push { cls := .type "tuple", data := .seq [v₁, v₂].toArray }).push (excObj h.objs.size)).get? (h.objs.size + 1) = some (excObj h.objs.size) := by heap_get
  have W₁ := W.keeps k1
  have hC₁ := at89 W₁
  have i1 := looks_findIn (M := MM w) W₁.X (init_89 w)
  have b1 := bind_fn (M := MM w) W₁.X (.ref (h.objs.size + 1)) (fn_61 w)
  generalize ((h.push { cls := .type "tuple", data := .seq [v₁, v₂].toArray }).push (excObj h.objs.size)) = h1 at *
  unfold isInstance
  repeat (first | with_reducible refine wpAny_loadPart_at hget ?_ | (with_reducible refine wpAny_isSubtype_exc hC₁ ?_; rw [c2]) | wp_step)
  show wpAny _ _ (typeLookup (.ref 89) _) _ _ _
  refine i1.at ?_
  refine wpAny_holding (wpAny_bind (b1.at ?_))
  have hA := under_depth (A := A) (a := ⟨.ref 89 :: [v₁, v₂], []⟩)
  refine wpAny_bind (wpAny_call (codeAny_mono (init_61 (b := h) (T := h.objs.size) (v₁ := v₁) (v₂ := v₂) W (Nat.lt_of_le_of_lt hA (by omega)) k1 hget (get_size1 h) (Nat.ne_of_gt (Nat.lt_succ_of_lt h89)) (Q := fun v s' => v = .none ∧ Q (.ref (h.objs.size + 1)) s') fun h' T' k k' hx' => ⟨rfl, q _ _ _ _ k' (get_size1 h) hx'⟩).out fun r s' z => ?_))
  rcases r with e | (v | _ | _ | _) <;> first | exact z.elim | skip
  obtain ⟨rfl, z⟩ := z
  exact wpAny_pure (wpAny_pure z)
theorem r_raise {e : Expr} {Q : Flow → Shared → Prop} (hh : A.handled = none) (h : WP w A (eval e env) (fun v s₁ => ∃ x T, v = .ref x ∧ Wd w s₁.heap ∧ s₁.heap.get? x = some (excObj T) ∧ E (.ref x) s₁) E s) :
    WP w A (exec (.Raise (some e) none pos) env) Q E s := by
  refine ⟨?_⟩
  rw [arm_exec_Raise]
  refine wpAny_bind (wpAny_standAt (wpAny_raiseStmt_made_sub (C := 89) (nm := Str.ofString "ChecksumError") (q := Str.ofString "ChecksumError") (N := 88) (bs := [.ref 64]) (bm := [.ref 64, .type "ValueError", .type "Exception", .type "BaseException", .type "object"]) (hdct := true) (sn := []) (sub := []) (ab := false) (col := none) (dd := none)
    (k0 := some (.ref 80)) (k1 := none) (k2 := some (.str (Str.ofString "ChecksumError") 422)) (k3 := some (.str (Str.ofString "ChecksumError") 430)) (k5 := some (.bool true)) (newId := "ValueError.__new__") (by decide +kernel) hh ?_))
  refine wpAny_bind (h.to fun v s₁ z => wpAny_bind (wpAny_standAt (wpAny_pure ?_)))
  obtain ⟨x, T, rfl, W, hx, z⟩ := z
  exact ⟨x, T, rfl, at89 W, hx, z⟩
end
end Mine
end
section
open PySem PySem.W PyProof.Rows PySem.Calls Builtin.ObjectAttr Builtin.Getset_descriptor
set_option Elab.async false
set_option maxRecDepth 100000
set_option maxHeartbeats 1000000
namespace Mine
section
variable {w : World} {A : Around} {E : Value → Shared → Prop} {R : Result → Shared → Prop} {h₀ h b : Heap} {g : Array GenState} {d : Drawn} {t : Nat} {os : OsState} {L x C dx D T a : Addr} {ns : List Str} {vs : List (Option Value)} {nw : List (Addr × Obj)} {env : Env} {pos : Pos} {s : Shared}
abbrev tup (vs : List Value) : Obj := { cls := .type "tuple", data := .seq vs.toArray }
theorem r_tup3 {e₁ e₂ e₃ : Expr} {kd : Nat} {Q : Value → Shared → Prop} (hv : WP w A (eval e₁ env) (fun v₁ s₁ => WP w A (eval e₂ env) (fun v₂ s₂ => WP w A (eval e₃ env) (fun v₃ s₃ => Q (.ref s₃.heap.objs.size) { s₃ with heap := s₃.heap.push (tup [v₁, v₂, v₃]) }) E s₂) E s₁) E s)
    (he₁ : starEach [e₁, e₂, e₃] env = (false, eval e₁ env) :: starEach [e₂, e₃] env := by rfl) (he₂ : starEach [e₂, e₃] env = (false, eval e₂ env) :: starEach [e₃] env := by rfl) (he₃ : starEach [e₃] env = (false, eval e₃ env) :: starEach [] env := by rfl) :
    WP w A (eval (.Tuple [e₁, e₂, e₃] kd pos) env) Q E s := by
  refine ⟨?_⟩
  rw [arm_eval_Tuple]
  refine wpAny_bind (wpAny_standAt (wpAny_bind ((sp_cons (pos := pos) he₁ (hv.monoQ fun v₁ s₁ x₁ => sp_cons he₂ (x₁.monoQ fun v₂ s₂ x₂ => sp_cons he₃ (x₂.monoQ fun v₃ s₃ x₃ => sp_nil ?_)))).to fun _ _ z => z)))
  simp only [newTuple]
  exact wpAny_newObj_type x₃ (by size_fits)
/-- `x, y, z = value` of a value that is no tuple's display -/
theorem r_unpack3 {n₁ n₂ n₃ : Str} {p₁ p₂ p₃ tpos : Pos} {kd : Nat} {value : Expr} {Q : Flow → Shared → Prop} (hh : A.handled = none)
    (h : WP w A (eval value env) (fun v s₁ => ∃ t a b c, v = .ref t ∧ s₁.heap.get? t = some (tup [a, b, c]) ∧ ∀ h', s₁.heap.StaysIn h' → WP w A (storeName env n₁ a) (fun _ s₂ => WP w A (storeName env n₂ b) (fun _ s₃ => WP w A (storeName env n₃ c) (fun _ => Q .next) E s₃) E s₂) E { s₁ with heap := h' }) E s)
    (hs : swapsWithSole [.Tuple [.Name n₁ p₁, .Name n₂ p₂, .Name n₃ p₃] kd tpos] value pos.line env = pure false := by rfl) (hw : swappedStores [.Tuple [.Name n₁ p₁, .Name n₂ p₂, .Name n₃ p₃] kd tpos] value env = pure none := by rfl) :
    WP w A (exec (.Assign [.Tuple [.Name n₁ p₁, .Name n₂ p₂, .Name n₃ p₃] kd tpos] value pos) env) Q E s := by
  refine ⟨Assign_Tuple (h.to fun v s₁ z => ?_) hs hw⟩
  obtain ⟨t, a, b, c, rfl, ht, z⟩ := z
  refine wpAny_assign_Tuple (items := #[a, b, c]) hh ⟨_, ht, rfl, 0, rfl⟩ rfl rfl fun h' k => ?_
  have z := z h' fun b o e => k b o (Nat.ne_of_lt (Heap.lt_size e)) e
  refine wpAny_bind (wpAny_holding (assign_Name (z.to fun _ s₂ z => ?_)))
  refine wpAny_bind (wpAny_holding (assign_Name (z.to fun _ s₃ z => ?_)))
  refine wpAny_bind (wpAny_holding (assign_Name (z.to fun _ s₄ z => ?_)))
  exact wpAny_pure z
theorem r_swap3 {n₁ n₂ n₃ : Str} {p₁ p₂ p₃ tpos : Pos} {kd : Nat} {value : Expr} {Q : Flow → Shared → Prop} (hh : A.handled = none)
    (h : WP w A (eval value env) (fun v s₁ => ∃ t a b c, v = .ref t ∧ s₁.heap.get? t = some (tup [a, b, c]) ∧ ∀ h', s₁.heap.StaysIn h' → WP w A (storeName env n₃ c) (fun _ s₂ => WP w A (storeName env n₂ b) (fun _ s₃ => WP w A (storeName env n₁ a) (fun _ => Q .next) E s₃) E s₂) E { s₁ with heap := h' }) E s)
    (hs : swapsWithSole [.Tuple [.Name n₁ p₁, .Name n₂ p₂, .Name n₃ p₃] kd tpos] value pos.line env = pure false := by rfl) (hw : swappedStores [.Tuple [.Name n₁ p₁, .Name n₂ p₂, .Name n₃ p₃] kd tpos] value env = pure (some [n₁, n₂, n₃]) := by rfl) :
    WP w A (exec (.Assign [.Tuple [.Name n₁ p₁, .Name n₂ p₂, .Name n₃ p₃] kd tpos] value pos) env) Q E s := by
  refine ⟨Assign_Tuple_swapped (names := [n₁, n₂, n₃]) (h.to fun v s₁ z => ?_) hs hw⟩
  obtain ⟨t, a, b, c, rfl, ht, z⟩ := z
  refine wpAny_unpackItems_tuple (items := #[a, b, c]) hh ⟨_, ht, rfl, 0, rfl⟩ fun h' k => ?_
  have z := z h' fun b o e => k b o (Nat.ne_of_lt (Heap.lt_size e)) e
  refine wpAny_bind (wpAny_holding (bindName_ (z.to fun _ s₂ z => ?_)))
  refine wpAny_bind (wpAny_holding (bindName_ (z.to fun _ s₃ z => ?_)))
  refine wpAny_bind (wpAny_holding (bindName_ (z.to fun _ s₄ z => ?_)))
  exact wpAny_pure z
theorem r_swap2 {n₁ n₂ : Str} {p₁ p₂ tpos : Pos} {kd : Nat} {value : Expr} {Q : Flow → Shared → Prop} (hh : A.handled = none)
    (h : WP w A (eval value env) (fun v s₁ => ∃ t a b, v = .ref t ∧ s₁.heap.get? t = some (tup [a, b]) ∧ ∀ h', s₁.heap.StaysIn h' → WP w A (storeName env n₂ b) (fun _ s₃ => WP w A (storeName env n₁ a) (fun _ => Q .next) E s₃) E { s₁ with heap := h' }) E s)
    (hs : swapsWithSole [.Tuple [.Name n₁ p₁, .Name n₂ p₂] kd tpos] value pos.line env = pure false := by rfl) (hw : swappedStores [.Tuple [.Name n₁ p₁, .Name n₂ p₂] kd tpos] value env = pure (some [n₁, n₂]) := by rfl) :
    WP w A (exec (.Assign [.Tuple [.Name n₁ p₁, .Name n₂ p₂] kd tpos] value pos) env) Q E s := by
  refine ⟨Assign_Tuple_swapped (names := [n₁, n₂]) (h.to fun v s₁ z => ?_) hs hw⟩
  obtain ⟨t, a, b, rfl, ht, z⟩ := z
  refine wpAny_unpackItems_tuple (items := #[a, b]) hh ⟨_, ht, rfl, 0, rfl⟩ fun h' k => ?_
  have z := z h' fun b o e => k b o (Nat.ne_of_lt (Heap.lt_size e)) e
  refine wpAny_bind (wpAny_holding (bindName_ (z.to fun _ s₂ z => ?_)))
  refine wpAny_bind (wpAny_holding (bindName_ (z.to fun _ s₃ z => ?_)))
  exact wpAny_pure z

variable {Q : Value → Shared → Prop}
theorem b_in2 {x y z : Str} {u v r : Tok} (ht : h.get? a = some (tup [.str y v, .str z r])) (q : Q (.bool (y == x || z == x)) ⟨h, g, d, t, os⟩) : WP w A (compareOp .In (.str x u) (.ref a)) Q E ⟨h, g, d, t, os⟩ :=
  ⟨in_tuple_strs (ys := [y, z]) (items := #[.str y v, .str z r]) ⟨_, ht, rfl, 0, rfl⟩ (by exact strsAre_of_values [(y, v), (z, r)]) (by simpa using q)⟩
theorem b_true_cls {Q : Bool → Shared → Prop} (W : Wd w h) (hc : typeIn (KK w) (.ref C) = some (.type "type")) (q : Q true ⟨h, g, d, t, os⟩) : WP w A (truthy (.ref C)) Q E ⟨h, g, d, t, os⟩ := by
  have L := looks_typeIn (M := MM w) W.X hc
  have n1 : typeLookup (.type "type") "__bool__" = pure none := by rw [typeLookup_type, builtinLookup_eq_fast]; kernel_rfl
  have n2 : typeLookup (.type "type") "__len__" = pure none := by rw [typeLookup_type, builtinLookup_eq_fast]; kernel_rfl
  refine ⟨?_⟩
  unfold truthy callSpecial? specialOf
  refine wpAny_bind (wpAny_bind (wpAny_bind (L.at (wpAny_of_eq n1 (wpAny_pure ?_)))))
  refine wpAny_bind (wpAny_bind (L.at (wpAny_of_eq n2 ?_)))
  exact wpAny_pure q
/-- the table of the kinds -/
noncomputable def kindTab : List (Str × Value) := [(Str.ofString "WCV", .ref 291), (Str.ofString "XTE", .ref 309)]
def Kinds (w : World) (h : Heap) (D : Addr) : Prop := h.DictOf (strKind pg w) D kindTab ∧ (D == sysModules) = false
theorem Kinds.keeps {h h' : Heap} (K : Kinds w h D) (k : h.StaysIn h') : Kinds w h' D := let ⟨⟨o, es, ep, e, r⟩, n⟩ := K; ⟨⟨o, es, ep, k _ _ e, r⟩, n⟩
theorem m_get {pl : Sem Bool} {Q : Value × List Value → Shared → Prop} (K : Kinds w h D) (q : Q (.builtin "dict.get", [.ref D]) ⟨h, g, d, t, os⟩) : WP w A (getMethod (.ref D) (Str.ofString "get") pl) Q E ⟨h, g, d, t, os⟩ :=
  ⟨getMethod_builtin (K.1.mapOf.typeIs (s := ⟨h, g, d, t, os⟩)) PySem.F.plainAttrs_dict PySem.F.slot_dict_get PySem.F.type_dict_get K.1.mapOf.noDict q⟩
theorem b_get1 {x : Str} {u : Tok} (K : Kinds w h D) (q : ∀ t', Q ((valueAt kindTab x).getD .none) ⟨h, g, d, t', os⟩) : WP w A (call (.builtin "dict.get") [.ref D, .str x u]) Q E ⟨h, g, d, t, os⟩ :=
  ⟨call_meetsIn PySem.F.slot_dict_get (K.1.mapOf.typeIs (s := ⟨h, g, d, t, os⟩)) PySem.F.entry_dict_get (PySem.F.args_dict_get_2 _ _) (meets_dict_get (strKind pg w) D (strKind_is pg w x u) K.2) ⟨_, K.1.mapOf, q _⟩⟩
theorem b_get2 {x : Str} {u : Tok} {v : Value} (K : Kinds w h D) (q : ∀ t', Q ((valueAt kindTab x).getD v) ⟨h, g, d, t', os⟩) : WP w A (call (.builtin "dict.get") [.ref D, .str x u, v]) Q E ⟨h, g, d, t, os⟩ :=
  ⟨call_meetsIn PySem.F.slot_dict_get (K.1.mapOf.typeIs (s := ⟨h, g, d, t, os⟩)) PySem.F.entry_dict_get (PySem.F.args_dict_get_3 _ _ _) (meets_dict_get_default (strKind pg w) D (strKind_is pg w x u) K.2 v) ⟨_, K.1.mapOf, q _⟩⟩
theorem b_lstrip {x : Str} {u : Tok} (hz : x.length ≤ sizeLine) (q : ∀ t' k', Q (.str (Txt.lstrip x) t') ⟨h, g, d, k', os⟩) : WP w A (call (.builtin "str.lstrip") [.str x u]) Q E ⟨h, g, d, t, os⟩ := ⟨SC.lstrip (fun _ _ => q _ _) hz⟩
theorem b_strip {x : Str} {u : Tok} (hz : x.length ≤ sizeLine) (q : ∀ t' k', Q (.str (Txt.strip x) t') ⟨h, g, d, k', os⟩) : WP w A (call (.builtin "str.strip") [.str x u]) Q E ⟨h, g, d, t, os⟩ := ⟨SC.strip (fun _ _ => q _ _) hz⟩
theorem b_strip2 {x y : Str} {u v : Tok} (hz : x.length ≤ sizeLine) (q : ∀ t' k', Q (.str (Txt.stripChars x y) t') ⟨h, g, d, k', os⟩) : WP w A (call (.builtin "str.strip") [.str x u, .str y v]) Q E ⟨h, g, d, t, os⟩ := ⟨SC.stripChars (fun _ _ => q _ _) hz⟩
theorem b_upper {x : Str} {u : Tok} (hz : (Txt.upper x).length ≤ 16777216) (q : ∀ t' k', Q (.str (Txt.upper x) t') ⟨h, g, d, k', os⟩) : WP w A (call (.builtin "str.upper") [.str x u]) Q E ⟨h, g, d, t, os⟩ := ⟨SC.upper (Bool.eq_false_iff.mpr (KPc.short hz)) (q _ _)⟩
theorem b_partition {x y : Str} {u v : Tok} (S : St w h₀ L h ns vs nw) (hy : (y.length == 0) = false) (hz : x.length ≤ sizeLine)
    (q : ∀ ta tb tc h' k, St w h₀ L h' ns vs ((h.objs.size, tup [.str (Txt.partition x y).1 ta, .str (Txt.partition x y).2.1 tb, .str (Txt.partition x y).2.2 tc]) :: nw) → h.StaysIn h' → Q (.ref h.objs.size) ⟨h', g, d, k, os⟩) :
    WP w A (call (.builtin "str.partition") [.str x u, .str y v]) Q E ⟨h, g, d, t, os⟩ := by
  refine ⟨call_meets F.slot_str_partition (typeIs_str _ _ _) F.entry_str_partition (F.args_str_partition_2 _ _) (meets_str_partition x y u v hy hz) ?_⟩
  have fin : ∀ ta tb tc k, Q (.ref h.objs.size) ⟨h.push (tup [.str (Txt.partition x y).1 ta, .str (Txt.partition x y).2.1 tb, .str (Txt.partition x y).2.2 tc]), g, d, k, os⟩ := fun ta tb tc k =>
    q ta tb tc _ k ((S.keeps (fun b o e => Heap.get?_push_of_some _ e)).add (Heap.get?_push_size _ rfl) S.newL S.new0) (fun b o e => Heap.get?_push_of_some _ e)
  unfold Txt.partition at fin
  revert fin
  cases Builtin.Str.occurrences x y 0 x.length 1 with
  | nil => intro fin; exact fin _ _ _ _
  | cons i r => intro fin; exact fin _ _ _ _
theorem b_ne_int {a b : Int} {u v : Tok} (q : Q (.bool (a != b)) ⟨h, g, d, t, os⟩) : WP w A (compareOp .NotEq (.int a u) (.int b v)) Q E ⟨h, g, d, t, os⟩ := ⟨P.ne_int q⟩
theorem b_gt_int {a b : Int} {u v : Tok} (q : Q (.bool (decide (a > b))) ⟨h, g, d, t, os⟩) : WP w A (compareOp .Gt (.int a u) (.int b v)) Q E ⟨h, g, d, t, os⟩ := ⟨P.gt_int q⟩
theorem b_mod_C {a : Addr} {m n : Int} {u v k : Tok} (hl : h.get? a = some (tup [.int m u, .int n v])) (hm : (hexT m).length ≤ 10) (hn : (hexT n).length ≤ 10)
    (q : ∀ x t' k', Q (.str x t') ⟨h, g, d, k', os⟩) : WP w A (binaryOp .Mod (.str (Str.ofString "checksum does not match: %02X != %02X") k) (.ref a)) Q E ⟨h, g, d, t, os⟩ := by
  refine ⟨KPt.mod_tuple (h₀ := {}) (L := a + 1) (news := [(a, { cls := .type "tuple", data := .seq #[.int m u, .int n v] })]) (fun p hp => ?_) (.head _) (by decide +kernel) (meets_C hm hn) fun t' k' => q _ t' k'⟩
  rw [List.mem_singleton.mp hp]
  exact ⟨hl, Nat.ne_of_lt (Nat.lt_succ_self _), rfl⟩
theorem b_mod_D {a : Addr} {x : Str} {n : Int} {u v k : Tok} (hl : h.get? a = some (tup [.str x u, .int n v])) (hx : x.length ≤ 1000000) (hn : (hexT n).length ≤ 10)
    (q : ∀ t' k', Q (.str (Str.ofString "$" ++ x ++ Str.ofString "*" ++ hexT n) t') ⟨h, g, d, k', os⟩) : WP w A (binaryOp .Mod (.str (Str.ofString "$%s*%02X") k) (.ref a)) Q E ⟨h, g, d, t, os⟩ := by
  refine ⟨KPt.mod_tuple (h₀ := {}) (L := a + 1) (news := [(a, { cls := .type "tuple", data := .seq #[.str x u, .int n v] })]) (fun p hp => ?_) (.head _) (by decide +kernel) (meets_D hx hn) fun t' k' => q t' k'⟩
  rw [List.mem_singleton.mp hp]
  exact ⟨hl, Nat.ne_of_lt (Nat.lt_succ_self _), rfl⟩
end
end Mine
end
section
open PySem PySem.W PyProof.Rows PySem.Calls Builtin.ObjectAttr Builtin.Getset_descriptor
set_option Elab.async false
set_option maxRecDepth 100000
set_option maxHeartbeats 1000000
namespace Mine
def RX (Q EX : Value → Shared → Prop) : Result → Shared → Prop := fun r s' => match r with | .ok (.ret v) => Q v s' | .ok _ => False | .error e => EX e s'

theorem enterX {w : World} {A : Around} {h b : Heap} {g : Array GenState} {d : Drawn} {t : Nat} {os : OsState} {Q EX : Value → Shared → Prop} {f : Addr} {oc : Value} {od : Option Addr} {osl : Array (Option Value)}
    {body : List Stmt} {args : List Value} {binds : List (Str × Value)} {ns : List Str} {vs : List (Option Value)} {nw : List (Addr × Obj)}
    (W : Wd w b) (hroom : A.depth < recursionLimit) (hbh : b.StaysIn h) (hnw : ∀ p ∈ nw, h.get? p.1 = some p.2 ∧ b.get? p.1 = none)
    (ho : (KK w).lookup f = some ⟨oc, od, .func (fdOf w f), osl⟩) (hcd : codeIn (KK w) (fdOf w f).code (fdOf w f).qualname = true)
    (hbody : (fdOf w f).body = .stmts body) (hbind : BindsTo ⟨h, g, d, t, os⟩ (fdOf w f) ⟨args, []⟩ binds)
    (hloc : (binds.all fun y => (fdOf w f).scope.names.lookup y.1 == some .local) = true)
    (hcell : ((fdOf w f).scope.names.all fun x => x.2 != .cell) = true)
    (hvs : ∀ x, binds.reverse.lookup x = lkp ns vs x)
    (hb : ∀ h₁ k, St w b h.objs.size h₁ ns vs nw →
      WP w (A.deeper (callEnv (fdOf w f) h.objs.size f)) (execs body (callEnv (fdOf w f) h.objs.size f))
        (fun fl s' => Q (match fl with | .ret v => v | _ => .none) s')
        (fun e s' => WP w (A.deeper (callEnv (fdOf w f) h.objs.size f)) (leaving (callEnv (fdOf w f) h.objs.size f) e) (fun _ s'' => EX e s'') (fun _ _ => False) s') ⟨h₁, g, d, k, os⟩)
    (hco : (fdOf w f).scope.isCoroutine = false) (hgen : (fdOf w f).scope.isGenerator = false) (hk : (fdOf w f).scope.kind = .function) :
    CC w A (.call (.ref f) ⟨args, []⟩) (RX Q EX) ⟨h, g, d, t, os⟩ := by
  have Wh := W.keeps hbh
  refine ⟨codeAny_call_def (fd := fdOf w f) (body := body) (binds := binds) hroom (Wh.X _ _ ho) rfl Wh.nolimit (codeRec_of Wh.X hcd) hbody hbind
    (fun x hx => by simpa using List.all_eq_true.mp hcell x hx) (fun x hx => by simpa using List.all_eq_true.mp hloc x hx) (fun h₁ hns hk₁ => ?_) hco hgen hk⟩
  refine wpAny_mono (hb h₁ _ ⟨?_, fun c o e => hk₁ _ _ (hbh _ _ e), ?_, fun p hp => ⟨hk₁ _ _ (hnw p hp).1, Nat.ne_of_lt (Heap.lt_size (hnw p hp).1), (hnw p hp).2⟩, W⟩).out (fun _ _ x => x) (fun _ _ x => wpAny_mono x.out (fun _ _ y => y) (fun _ _ y => y.elim))
  · have e : (fun x => binds.reverse.lookup x) = lkp ns vs := funext hvs
    rw [← e]; exact hns
  · cases q : b.get? h.objs.size with
    | none => rfl
    | some o => exact absurd (Heap.lt_size (hbh _ _ q)) (Nat.lt_irrefl _)

/-- a line as the law's logs hold it: a `$` or none, what is said, a sum or none -/
structure Cut (x q star tail p : Str) (dol : Bool) (sm : Option Int) : Prop where
  len : x.length ≤ 10000
  ql : q.length ≤ 10000
  pl : p.length ≤ 10000
  tl : tail.length ≤ 100
  ls : Txt.lstrip x = x
  c1 : (Txt.partition x (Str.ofString "*")).1 = q
  c2 : (Txt.partition x (Str.ofString "*")).2.1 = star
  c3 : (Txt.partition x (Str.ofString "*")).2.2 = tail
  dl : (Txt.slice q none (some 1) == Str.ofString "$") = dol
  pd : (if dol then Txt.slice q (some 1) none else q) = p
  asc : (p.cps.all (· < 128)) = true
  sm : match sm with
    | none => star = Str.empty ∧ tail = Str.empty
    | some v => star = Str.ofString "*" ∧ tail.length = 2 ∧ Txt.slice tail none (some 2) = tail ∧ Txt.stripChars tail (Str.ofString "0123456789ABCDEFabcdef") = Str.empty ∧
        Txt.strip (Txt.slice tail (some 2) none) = Str.empty ∧ Hex tail v ∧ (hexT v).length ≤ 10 ∧ (hexT (xsum p 0 0)).length ≤ 10
structure TalkP (p : Str) (C : Addr) (ta ty : Str) (ws : List Str) : Prop where
  a1 : (Str.ofString "P" == Txt.slice p none (some 1) || Str.ofString "p" == Txt.slice p none (some 1)) = false
  w4 : (Builtin.Str.occurrences (Txt.slice p none (some 4)) (Str.ofString "_") 0 (Txt.slice p none (some 4)).length ((Txt.slice p none (some 4)).length + 1)).isEmpty = true
  l4 : (Txt.slice p none (some 4)).length = 4
  i4 : Txt.isalnum (Txt.slice p none (some 4)) = true
  mq : (Str.ofString "Q," == Txt.slice p (some 4) (some 6) || Str.ofString "q," == Txt.slice p (some 4) (some 6)) = false
  w5 : (Builtin.Str.occurrences (Txt.slice p none (some 5)) (Str.ofString "_") 0 (Txt.slice p none (some 5)).length ((Txt.slice p none (some 5)).length + 1)).isEmpty = true
  l5 : (Txt.slice p none (some 5)).length = 5
  i5 : Txt.isalnum (Txt.slice p none (some 5)) = true
  c5 : (Txt.slice p (some 5) (some 6) == Str.ofString ",") = true
  l6 : (Txt.upper (Txt.slice p none (some 6))).length = 6
  e5 : (Txt.slice (Txt.upper (Txt.slice p none (some 6))) (some 5) none == Str.ofString ",") = true
  hta : Txt.slice (Txt.upper (Txt.slice p none (some 6))) none (some 2) = ta
  hty : Txt.slice (Txt.upper (Txt.slice p none (some 6))) (some 2) (some 5) = ty
  get : valueAt kindTab ty = some (.ref C)
  hC : IsTalk C
  hws : Txt.split (Txt.slice p (some 6) none) (Str.ofString ",") = ws
structure PropP (p : Str) (m : Str) (ws : List Str) : Prop where
  a1 : (Str.ofString "P" == Txt.slice p none (some 1) || Str.ofString "p" == Txt.slice p none (some 1)) = true
  w3 : (Builtin.Str.occurrences (Txt.slice p (some 1) (some 4)) (Str.ofString "_") 0 (Txt.slice p (some 1) (some 4)).length ((Txt.slice p (some 1) (some 4)).length + 1)).isEmpty = true
  l3 : (Txt.slice p (some 1) (some 4)).length = 3
  i3 : Txt.isalnum (Txt.slice p (some 1) (some 4)) = true
  l4 : (Txt.upper (Txt.slice p none (some 4))).length = 4
  e5 : (Txt.slice (Txt.upper (Txt.slice p none (some 4))) (some 5) none == Str.ofString ",") = false
  e4 : (Txt.slice (Txt.upper (Txt.slice p none (some 4))) (some 4) (some 6) == Str.ofString "Q,") = false
  hm : Txt.slice (Txt.upper (Txt.slice p none (some 4))) (some 1) none = m
  get : valueAt kindTab (Txt.upper (Txt.slice p none (some 4))) = none
  hws : Txt.split (Txt.slice p (some 4) none) (Str.ofString ",") = ws
def KindP (p : Str) : Knd → List Str → Prop
  | .talk C ta ty, ws => TalkP p C ta ty ws
  | .prop m, ws => PropP p m ws
def Knd.size : Knd → Int
  | .talk _ _ _ => 6
  | .prop _ => 4
theorem upper_len {p : Str} {k : Knd} {ws : List Str} (H : KindP p k ws) : (Txt.upper (Txt.slice p none (some k.size))).length ≤ 100 := by
  cases k with
  | talk C ta ty => exact Nat.le_trans (Nat.le_of_eq (TalkP.l6 H)) (by decide)
  | prop m => exact Nat.le_trans (Nat.le_of_eq (PropP.l4 H)) (by decide)

noncomputable def nm124 : List Str := [Str.ofString "line", Str.ofString "kinds", Str.ofString "check"]
noncomputable def ns124 : List Str := nm124 ++ [Str.ofString "nmea_str", Str.ofString "star", Str.ofString "tail", Str.ofString "size", Str.ofString "sentence_type", Str.ofString "data_str", Str.ofString "checksum", Str.ofString "data", Str.ofString "cs1", Str.ofString "cs2", Str.ofString "talker", Str.ofString "sentence", Str.ofString "cls", Str.ofString "listener", Str.ofString "manufacturer"]
theorem look_117 (w : World) : (KK w).lookup 117 = some { cls := .type "tuple", data := .seq #[.bool false] } := by kernel_rfl
theorem binds_124 {w : World} {x y : Value} {s : Shared} (X : (KK w).In s.heap) : BindsTo s (fdOf w 124) ⟨[x, y], []⟩ (nm124.zip [x, y, .bool false]) :=
  binds_by (names := nm124) (by kernel_rfl) (by kernel_rfl) (by kernel_rfl) (by kernel_rfl) (by kernel_rfl) (T := 117) (by kernel_rfl) (X _ _ (look_117 w)) rfl (by simp [nm124]) rfl (by kernel_rfl) (by kernel_rfl)
theorem star_ne : ((Str.ofString "*").length == 0) = false := by decide +kernel
theorem n_int (w : World) : nsIn (KK w) mainGlobals (Str.ofString "int") = some none ∧ bootBuiltins (Str.ofString "int") = some (.type "int") ∧ Str.ofString "int" ≠ "__name__" := ⟨by kernel_rfl, by decide +kernel, by decide +kernel⟩
theorem keep_98 (w : World) : keepIn (KK w) (.ref 98) = true := by kernel_rfl
theorem keep_89 (w : World) : keepIn (KK w) (.ref 89) = true := by kernel_rfl
theorem keep_244 (w : World) : keepIn (KK w) (.ref 244) = true := by kernel_rfl
theorem IsTalk.keep {w : World} {C : Addr} (h : IsTalk C) : keepIn (KK w) (.ref C) = true ∧ typeIn (KK w) (.ref C) = some (.type "type") := by rcases h with rfl | rfl <;> exact ⟨by kernel_rfl, by kernel_rfl⟩
end Mine
end
section
open PySem PySem.W PyProof.Rows PySem.Calls Builtin.ObjectAttr Builtin.Getset_descriptor
set_option Elab.async false
set_option maxRecDepth 100000
set_option maxHeartbeats 400000
namespace Mine
section
variable {w : World} {A : Around} {E : Value → Shared → Prop} {R : Result → Shared → Prop} {h₀ h b : Heap} {g : Array GenState} {d : Drawn} {t : Nat} {os : OsState} {L x C dx D T a : Addr} {ns : List Str} {vs : List (Option Value)} {nw : List (Addr × Obj)} {env : Env} {pos : Pos} {s : Shared}
theorem parse_spec {x q star tail p : Str} {dol : Bool} {sm : Option Int} {k : Knd} {ws : List Str} {u : Tok} {Q EX : Value → Shared → Prop} (W : Wd w h) (hroom : A.depth < 880) (hh : A.handled = none) (H : Cut x q star tail p dol sm) (HK : KindP p k ws) (hwl : ws.length ≤ 1000000) (K : Kinds w h D)
    (hq : (∀ v, sm = some v → v = xsum p 0 0) → ∀ h' a k', h.StaysIn h' → SentF w h h' a k ws → Q (.ref a) ⟨h', g, d, k', os⟩)
    (he : ∀ v, sm = some v → v ≠ xsum p 0 0 → ∀ h' a T k' vs nw, St w h h.objs.size h' ns124 vs nw → h'.get? a = some (excObj T) → h.get? a = none →
      WP w (A.deeper (callEnv (fdOf w 124) h.objs.size 124)) (leaving (callEnv (fdOf w 124) h.objs.size 124) (.ref a)) (fun _ s'' => EX (.ref a) s'') (fun _ _ => False) ⟨h', g, d, k', os⟩) :
    CC w A (.call (.ref 124) ⟨[.str x u, .ref D], []⟩) (RX Q EX) ⟨h, g, d, t, os⟩ := by
  have z : sizeLine = 16777216 := sizeLine_eq
  refine enterX (b := h) (nw := []) (ns := ns124) (vs := [some (.str x u), some (.ref D), some (.bool false), none, none, none, none, none, none, none, none, none, none, none, none, none, none, none]) (binds := nm124.zip [.str x u, .ref D, .bool false]) W (Nat.lt_trans hroom (by decide)) (fun _ _ e => e) (fun p hp => nomatch hp)
    rfl (by kernel_rfl) rfl (binds_124 W.X) (by kernel_rfl) (by kernel_rfl) (lkp_of (n := 15) (lookup_rev (l := nm124) rfl (by decide +kernel)) (by kernel_rfl)) (fun h₁ k₁ S => ?_) (by kernel_rfl) (by kernel_rfl) (by kernel_rfl)
  have hdeep : (A.deeper (callEnv (fdOf w 124) h.objs.size 124)).handled = none := hh
  -- nmea_str, star, tail
  refine r_cons (r_unpack3 hdeep (r_meth (r_meth (r_name S 0 (q := m_str F.slot_str_lstrip F.type_str_lstrip (cwm0 kept_builtin ⟨S.world, b_lstrip (by rw [z]; have := H.len; omega) fun _ _ => m_str F.slot_str_partition F.type_str_partition (cwm1 kept_builtin (r_cstr fun _ _ => ⟨S.world, b_partition S star_ne (by rw [H.ls, z]; have := H.len; omega) fun ta tb tc h₂ k₂ S₂ s₂ => ?_⟩))⟩))))))
  rw [H.ls, H.c1, H.c2, H.c3] at S₂
  refine ⟨_, _, _, _, rfl, (S₂.N _ (.head _)).1, fun h₃ s₃ => r_store (S₂.keeps s₃) 3 (hi := by simp) (q := fun h₄ t₄ S => r_store S 4 (hi := by simp) (q := fun h₅ t₅ S => r_store S 5 (hi := by simp) (q := fun h₆ t₆ S => ?_)))⟩
  clear S₂
  -- the dollar
  refine r_cons (r_if_join (fun s' => ∃ h' t' u₁ u₂ u₃ nw, s' = ⟨h', g, d, t', os⟩ ∧ St w h h.objs.size h' ns124 [some (.str x u), some (.ref D), some (.bool false), some (.str p u₁), some (.str star u₂), some (.str tail u₃), none, none, none, none, none, none, none, none, none, none, none, none] nw)
    (t_cmp (r_sl_to (r_name S 3 (q := ⟨_, _, rfl, r_cint fun _ _ => ⟨_, _, rfl, by rw [z]; have := H.ql; omega, fun h₇ t₇ k₇ s₇ => r_cstr fun _ _ => b_eq_str (b_true ?_)⟩⟩)))) ?_)
  · have S := S.keeps s₇
    rw [H.dl]
    have hp := H.pd
    cases dol with
    | false =>
      obtain rfl : q = p := hp
      exact c_ff (r_nil ⟨rfl, _, _, _, _, _, _, rfl, S⟩)
    | true =>
      refine c_tt (r_cons (r_asg (r_sl_from (r_name S 3 (q := ⟨_, _, rfl, r_cint fun _ _ => ⟨_, _, rfl, by rw [z]; have := H.ql; omega, fun h₈ t₈ k₈ s₈ => r_store (S.keeps s₈) 3 (hi := by simp) (q := fun h₉ t₉ S => ?_)⟩⟩)))))
      have hp : Txt.slice q (some 1) none = p := hp
      rw [hp] at S
      exact r_nil ⟨rfl, _, _, _, _, _, _, rfl, S⟩
  rintro s' ⟨h₄, t₄, u₁, u₂, u₃, nw₁, rfl, S⟩
  refine r_cons (r_asg (r_cint fun _ _ => r_store S 6 (hi := by simp) (q := fun h₅ t₅ S => ?_)))
  have pl : p.length ≤ sizeLine := by rw [z]; have := H.pl; omega
  -- the size
  refine r_cons (r_if_join (fun s' => ∃ h' t' u₁ u₂ u₃ u₄ nw, s' = ⟨h', g, d, t', os⟩ ∧ St w h h.objs.size h' ns124 [some (.str x u), some (.ref D), some (.bool false), some (.str p u₁), some (.str star u₂), some (.str tail u₃), some (.int k.size u₄), none, none, none, none, none, none, none, none, none, none, none] nw) ?_ ?_)
  · refine t_and (t_cmp (r_sl_to (r_name S 3 (q := ⟨_, _, rfl, r_cint fun _ _ => ⟨_, _, rfl, pl, fun h₇ t₇ k₇ s₇ => r_tup2 (r_cstr fun a₁ _ => r_cstr fun a₂ _ => b_in2 (Heap.get?_push_size _ rfl) (b_true ?_))⟩⟩))))
    have S := S.keeps (fun b o e => Heap.get?_push_of_some (tup [.str (Str.ofString "P") a₁, .str (Str.ofString "p") a₂]) (s₇ _ _ e))
    have r98 : (A.deeper (callEnv (fdOf w 124) h.objs.size 124)).depth < 900 := Nat.lt_trans (Nat.succ_lt_succ hroom) (by decide)
    cases k with
    | talk C ta ty =>
      have HT : TalkP p C ta ty ws := HK
      rw [HT.a1]
      refine c_ff (c_ff (r_cons (r_if (t_and (t_plain (r_call (r_glob S (g_wordlike w) (cw2 (kept_K (keep_98 w)) (r_sl_to (r_name S 3 (q := ⟨_, _, rfl, r_cint fun _ _ => ⟨_, _, rfl, pl, fun h₈ t₈ k₈ s₈ => r_cint fun _ _ => ⟨(S.keeps s₈).world, ?_⟩⟩⟩)))))))))))
      have S := S.keeps s₈
      refine wordlike_spec S.world r98 (by rw [HT.l4]; rfl) (by rw [HT.l4]; decide) HT.w4 fun h₉ t₉ s₉ => ?_
      have S := S.keeps s₉
      rw [HT.i4]
      refine b_true (c_tt (t_and (t_cmp (r_sl_ft (r_name S 3 (q := ⟨_, _, rfl, r_cint fun _ _ => ⟨_, _, rfl, r_cint fun _ _ => ⟨_, _, rfl, pl, fun g₁ v₁ l₁ s₁ => r_tup2 (r_cstr fun a₃ _ => r_cstr fun a₄ _ => b_in2 (Heap.get?_push_size _ rfl) (b_true ?_))⟩⟩⟩))))))
      rw [HT.mq]
      have S := S.keeps (fun b o e => Heap.get?_push_of_some (tup [.str (Str.ofString "Q,") a₃, .str (Str.ofString "q,") a₄]) (s₁ _ _ e))
      refine c_ff (c_ff (r_cons (r_if (t_and (t_plain (r_call (r_glob S (g_wordlike w) (cw2 (kept_K (keep_98 w)) (r_sl_to (r_name S 3 (q := ⟨_, _, rfl, r_cint fun _ _ => ⟨_, _, rfl, pl, fun h₈ t₈ k₈ s₈ => r_cint fun _ _ => ⟨(S.keeps s₈).world, ?_⟩⟩⟩)))))))))))
      have S := S.keeps s₈
      refine wordlike_spec S.world r98 (by rw [HT.l5]; rfl) (by rw [HT.l5]; decide) HT.w5 fun h₉ t₉ s₉ => ?_
      have S := S.keeps s₉
      rw [HT.i5]
      refine b_true (c_tt (t_and (t_cmp (r_sl_ft (r_name S 3 (q := ⟨_, _, rfl, r_cint fun _ _ => ⟨_, _, rfl, r_cint fun _ _ => ⟨_, _, rfl, pl, fun g₁ v₁ l₁ s₁ => r_cstr fun _ _ => b_eq_str (b_true ?_)⟩⟩⟩))))))
      rw [HT.c5]
      have S := S.keeps s₁
      exact c_tt (t_and_nil (c_tt (r_cons (r_asg (r_cint fun _ _ => r_store S 6 (hi := by simp) (q := fun h₅ t₅ S => r_nil (r_nil (r_nil ⟨rfl, _, _, _, _, _, _, _, rfl, S⟩))))))))
    | prop m =>
      have HP : PropP p m ws := HK
      rw [HP.a1]
      refine c_tt (t_and (t_plain (r_call (r_glob S (g_wordlike w) (cw2 (kept_K (keep_98 w)) (r_sl_ft (r_name S 3 (q := ⟨_, _, rfl, r_cint fun _ _ => ⟨_, _, rfl, r_cint fun _ _ => ⟨_, _, rfl, pl, fun h₈ t₈ k₈ s₈ => r_cint fun _ _ => ⟨(S.keeps s₈).world, ?_⟩⟩⟩⟩))))))))
      have S := S.keeps s₈
      refine wordlike_spec S.world r98 (by rw [HP.l3]; rfl) (by rw [HP.l3]; decide) HP.w3 fun h₉ t₉ s₉ => ?_
      have S := S.keeps s₉
      rw [HP.i3]
      exact b_true (c_tt (t_and_nil (c_tt (r_cons (r_asg (r_cint fun _ _ => r_store S 6 (hi := by simp) (q := fun h₅ t₅ S => r_nil ⟨rfl, _, _, _, _, _, _, _, rfl, S⟩)))))))
  rintro s' ⟨h₄, t₄, u₁, u₂, u₃, u₄, nw₂, rfl, S⟩
  have tl : tail.length ≤ sizeLine := by rw [z]; have := H.tl; omega
  -- is it a sentence at all
  have sl : star.length ≤ 16777216 := by
    have := H.sm
    cases sm with
    | none => rw [this.1]; decide
    | some v => rw [this.1]; decide +kernel
  have hexl : (Str.ofString "0123456789ABCDEFabcdef").length ≤ 100 := by decide +kernel
  have e0 : (k.size == 0) = false := by cases k <;> rfl
  refine r_cons (r_if_join (fun s' => ∃ h' t', s' = ⟨h', g, d, t', os⟩ ∧ St w h h.objs.size h' ns124 [some (.str x u), some (.ref D), some (.bool false), some (.str p u₁), some (.str star u₂), some (.str tail u₃), some (.int k.size u₄), none, none, none, none, none, none, none, none, none, none, none] nw₂)
    (t_or (t_cmp (r_name S 6 (q := r_cint fun _ _ => b_eq_int (b_true ?_))))) ?_)
  · rw [e0]
    refine c_ff (t_or (t_and (t_plain (r_name S 4 (q := b_true_str sl fun _ => ?_)))))
    cases sm with
    | none =>
      obtain ⟨hs1, ht1⟩ := H.sm
      subst hs1 ht1
      exact c_f (by decide) (t_or_nil (c_ff (r_nil ⟨rfl, _, _, rfl, S⟩)))
    | some v =>
      obtain ⟨hs1, ht2, ht3, ht4, ht5, hv, hx1, hx2⟩ := H.sm
      subst hs1
      refine c_t (by decide +kernel) (t_and (t_not (t_and (t_cmp (r_call (r_boot S (n_len w) (cw1 kept_builtin (r_name S 5 (q := ⟨S.world, b_len_str (by omega) fun _ _ => r_cint fun _ _ => b_gt_int (b_true ?_)⟩)))))))))
      rw [ht2]
      refine c_t (by decide) (t_and (t_not (t_plain (r_meth (r_sl_to (r_name S 5 (q := ⟨_, _, rfl, r_cint fun _ _ => ⟨_, _, rfl, tl, fun h₇ t₇ k₇ s₇ => m_str F.slot_str_strip F.type_str_strip (cwm1 kept_builtin (r_cstr fun _ _ => ⟨(S.keeps s₇).world, b_strip2 ?_ fun _ _ => ?_⟩))⟩⟩)))))))
      · rw [ht3]; exact tl
      have S := S.keeps s₇
      rw [ht3, ht4]
      refine b_true_str (by decide) fun _ => ?_
      refine c_tt (t_and (t_not (t_plain (r_meth (r_sl_from (r_name S 5 (q := ⟨_, _, rfl, r_cint fun _ _ => ⟨_, _, rfl, tl, fun h₇ t₇ k₇ s₇ => m_str F.slot_str_strip F.type_str_strip (cwm0 kept_builtin ⟨(S.keeps s₇).world, b_strip ?_ fun _ _ => ?_⟩)⟩⟩)))))))
      · exact Nat.le_trans (Txt.slice_le _ _ _) tl
      have S := S.keeps s₇
      rw [ht5]
      refine b_true_str (by decide) fun _ => ?_
      exact c_tt (t_and_nil (c_ff (t_or_nil (c_ff (r_nil ⟨rfl, _, _, rfl, S⟩)))))
  rintro s' ⟨h₅, t₅, rfl, S⟩
  have up : (Txt.upper (Txt.slice p none (some k.size))).length ≤ 16777216 := Nat.le_trans (upper_len HK) (by decide)
  have hws : Txt.split (Txt.slice p (some k.size) none) (Str.ofString ",") = ws := by cases k with | talk C ta ty => exact TalkP.hws HK | prop m => exact PropP.hws HK
  have e7 : (Txt.slice tail none (some 2)).length ≤ 100 := Nat.le_trans (Txt.slice_le _ _ _) H.tl
  -- the three parts
  refine r_cons (r_swap3 hdeep (r_tup3 (r_meth (r_sl_to (r_name S 3 (q := ⟨_, _, rfl, r_name S 6 (q := ⟨_, _, rfl, pl, fun h₇ t₇ k₇ s₇ => m_str F.slot_str_upper F.type_str_upper (cwm0 kept_builtin ⟨(S.keeps s₇).world, b_upper up fun c₁ _ => ?_⟩)⟩)⟩))))))
  have S := S.keeps s₇
  refine r_sl_from (r_name S 3 (q := ⟨_, _, rfl, r_name S 6 (q := ⟨_, _, rfl, pl, fun h₈ c₂ k₈ s₈ => ?_⟩)⟩))
  have S := S.keeps s₈
  refine r_sl_to (r_name S 5 (q := ⟨_, _, rfl, r_cint fun _ _ => ⟨_, _, rfl, tl, fun h₉ c₃ k₉ s₉ => ⟨_, _, _, _, rfl, Heap.get?_push_size _ rfl, fun g₁ l₁ => ?_⟩⟩⟩))
  have S := (S.keeps s₉).keeps (fun b o e => l₁ _ _ (Heap.get?_push_of_some _ e))
  refine r_store S 9 (hi := by simp) (q := fun _ _ S => r_store S 8 (hi := by simp) (q := fun _ _ S => r_store S 7 (hi := by simp) (q := fun _ _ S => ?_)))
  -- the data
  refine r_cons (r_asg (r_meth (r_name S 8 (q := m_str F.slot_str_split F.type_str_split (cwm1 kept_builtin (r_cstr fun _ _ => ⟨S.world, b_split S comma_ne ?_ fun l h₇ k₇ hl S s₇ => r_store S 10 (hi := by simp) (q := fun _ _ S => ?_)⟩))))))
  · have := Txt.slice_le p (some k.size) none; rw [z]; have := H.pl; omega
  refine r_cons (r_if_join (fun s' => ∃ h' t' o₁ o₂ Dd nw', s' = ⟨h', g, d, t', os⟩ ∧ ((Dd, ({ cls := .type "list", data := .seq (strValues l).toArray } : Obj)) ∈ nw') ∧ St w h h.objs.size h' ns124 [some (.str x u), some (.ref D), some (.bool false), some (.str p u₁), some (.str star u₂), some (.str tail u₃), some (.int k.size u₄), some (.str (Txt.upper (Txt.slice p none (some k.size))) c₁), some (.str (Txt.slice p (some k.size) none) c₂), some (.str (Txt.slice tail none (some 2)) c₃), some (.ref Dd), o₁, o₂, none, none, none, none, none] nw' ∧ ∀ v, sm = some v → v = xsum p 0 0)
    (t_plain (r_name S 9 (q := b_true_str (by omega) fun _ => ?_))) ?_)
  · cases sm with
    | none =>
      obtain ⟨hs1, ht1⟩ := H.sm
      subst ht1
      refine c_f (by decide +kernel) (r_cons (r_if (t_plain (r_name S 2 (q := b_true (c_ff (r_nil (r_nil ⟨rfl, _, _, _, _, _, _, rfl, .head _, S, fun _ e => nomatch e⟩))))))))
    | some v =>
      obtain ⟨hs1, ht2, ht3, ht4, ht5, hv, hx1, hx2⟩ := H.sm
      rw [ht3] at S ⊢
      refine c_t (by rw [ht2]; decide) ?_
      refine r_cons (r_asg (r_call (r_boot S (n_int w) (cw2 kept_type (r_name S 9 (q := r_cint fun _ _ => ⟨S.world, b_int16 hv fun d₁ _ => r_store S 11 (hi := by simp) (q := fun _ _ S => ?_)⟩))))))
      refine r_cons (r_asg (r_meth (r_glob S (n_164 w) (m_static S.world (g_164 w) (rd_164 w) (fc_checksum w) (rc_115 w) fun _ => ?_))))
      refine cw1 (kept_K (keep_113 w)) (r_name S 3 (q := ⟨S.world, checksum_spec S.world (Nat.lt_trans (Nat.succ_lt_succ hroom) (by decide)) hdeep H.asc fun h₄ d₂ k₄ s₄ => ?_⟩))
      refine r_store (S.keeps s₄) 12 (hi := by simp) (q := fun _ _ S => ?_)
      refine r_cons (r_if (t_cmp (r_name S 11 (q := r_name S 12 (q := b_ne_int (b_true ?_))))))
      by_cases hne : v = xsum p 0 0
      · rw [show (v != xsum p 0 0) = false from by rw [hne]; simp]
        exact c_ff (r_nil (r_nil ⟨rfl, _, _, _, _, _, _, rfl, .head _, S, fun v' e => by cases e; exact hne⟩))
      · rw [show (v != xsum p 0 0) = true from by simp [hne]]
        refine c_tt (r_cons (r_raise hdeep (r_call (r_glob S (n_89 w) (cw2 (kept_K (keep_89 w)) (r_bin (r_cstr fun _ _ => r_tup2 (r_name S 11 (q := r_name S 12 (q := b_mod_C (Heap.get?_push_size _ rfl) hx1 hx2 fun msg d₃ _ => ?_))))))))))
        have S := S.keeps (fun b o e => Heap.get?_push_of_some (tup [.int v d₁, .int (xsum p 0 0) d₂]) e)
        refine r_name S 10 (q := ⟨S.world, new_exc S.world (Nat.lt_trans (Nat.succ_lt_succ hroom) (by decide)) fun h' a T k' s' hf ha => ⟨a, T, rfl, (S.keeps s').world, ha, ?_⟩⟩)
        exact he v rfl hne _ _ _ _ _ _ (S.keeps s') ha (fresh_of_stays S.keep hf)
  rintro s' ⟨h₆, t₆, o₁, o₂, Dd, nw₃, rfl, hDd, S, hgood⟩
  have lz : (strValues l).toArray.size ≤ sizeLine := by
    have e : (l.map (·.1)).length = ws.length := by rw [hl, hws]
    rw [List.length_map] at e
    have e2 : (strValues l).toArray.size = l.length := by simp [strValues]
    rw [e2, e, z]; omega
  have r9 : (A.deeper (callEnv (fdOf w 124) h.objs.size 124)).depth < 940 := Nat.lt_trans (Nat.succ_lt_succ hroom) (by decide)
  have upz : (Txt.upper (Txt.slice p none (some k.size))).length ≤ sizeLine := by rw [z]; exact up
  refine r_cons (r_if (t_cmp (r_sl_from (r_name S 7 (q := ⟨_, _, rfl, r_cint fun _ _ => ⟨_, _, rfl, upz, fun h₇ t₇ k₇ s₇ => r_cstr fun _ _ => b_eq_str (b_true ?_)⟩⟩)))))
  have S := S.keeps s₇
  cases k with
  | talk C ta ty =>
    have HT : TalkP p C ta ty ws := HK
    rw [show (Knd.talk C ta ty).size = 6 from rfl] at S upz ⊢
    rw [HT.e5]
    refine c_tt ?_
    refine r_cons (r_swap2 hdeep (r_tup2 (r_sl_to (r_name S 7 (q := ⟨_, _, rfl, r_cint fun _ _ => ⟨_, _, rfl, upz, fun h₈ d₁ k₈ s₈ => ?_⟩⟩)))))
    have S := S.keeps s₈
    refine r_sl_ft (r_name S 7 (q := ⟨_, _, rfl, r_cint fun _ _ => ⟨_, _, rfl, r_cint fun _ _ => ⟨_, _, rfl, upz, fun h₉ d₂ k₉ s₉ => ⟨_, _, _, rfl, Heap.get?_push_size _ rfl, fun g₂ l₂ => ?_⟩⟩⟩⟩))
    have S := (S.keeps s₉).keeps (fun b o e => l₂ _ _ (Heap.get?_push_of_some _ e))
    refine r_store S 14 (hi := by simp) (q := fun m₁ t₁ S₁ => ?_)
    refine r_store S₁ 13 (hi := by simp) (q := fun m₂ t₂ S => ?_)
    rw [HT.hta, HT.hty] at S
    have K₁ := K.keeps S.keep
    refine r_cons (r_asg (r_meth (r_name S 1 (q := m_get K₁ (cwm1 kept_builtin (r_name S 14 (q := ⟨S.world, b_get1 K₁ fun _ => ?_⟩)))))))
    rw [HT.get]
    refine r_store S 15 (hi := by simp) (q := fun m₃ t₃ S => ?_)
    refine r_cons (r_if (t_not (t_plain (r_name S 15 (q := b_true_cls S.world HT.hC.keep.2 (c_ff (r_nil ?_)))))))
    refine r_cons (r_ret (r_call (r_name S 15 (q := cw3 (kept_K HT.hC.keep.1) (r_name S 13 (q := r_name S 14 (q := r_name S 10 (q := ⟨S.world, new_talk S.world r9 HT.hC (S.at hDd) lz fun h' a dx t₁ t₂ t₃ Dn c k' s' I' l' f₁ f₂ f₃ => ?_⟩))))))))
    exact hq hgood _ _ _ (fun b o e => s' _ _ (S.keep _ _ e)) ⟨dx, t₁, t₂, t₃, _, _, Dn, I', ⟨c, l, l', hl.trans hws⟩, fresh_of_stays S.keep f₁, fresh_of_stays S.keep f₂, fresh_of_stays S.keep f₃⟩
  | prop m =>
    have HP : PropP p m ws := HK
    rw [show (Knd.prop m).size = 4 from rfl] at S upz up ⊢
    rw [HP.e5]
    refine c_ff (r_nil (r_cons (r_if (t_and (t_cmp (r_sl_ft (r_name S 7 (q := ⟨_, _, rfl, r_cint fun _ _ => ⟨_, _, rfl, r_cint fun _ _ => ⟨_, _, rfl, upz, fun h₉ d₂ k₉ s₉ => r_cstr fun _ _ => b_eq_str (b_true ?_)⟩⟩⟩))))))))
    have S := S.keeps s₉
    rw [HP.e4]
    refine c_ff (c_ff (r_nil (r_cons (r_if (t_cmp (r_call (r_boot S (n_len w) (cw1 kept_builtin (r_name S 7 (q := ⟨S.world, b_len_str up fun _ _ => r_cint fun _ _ => b_eq_int (b_true ?_)⟩))))))))))
    rw [HP.l4]
    refine c_t (by decide) ?_
    refine r_cons (r_asg (r_sl_from (r_name S 7 (q := ⟨_, _, rfl, r_cint fun _ _ => ⟨_, _, rfl, upz, fun h₈ d₁ k₈ s₈ => r_store (S.keeps s₈) 17 (hi := by simp) (q := fun m₃ t₃ S => ?_)⟩⟩))))
    rw [HP.hm] at S
    have K₁ := K.keeps S.keep
    refine r_cons (r_asg (r_meth (r_name S 1 (q := m_get K₁ (cwm2 kept_builtin (r_name S 7 (q := r_glob S (n_244 w) ⟨S.world, b_get2 K₁ fun _ => ?_⟩)))))))
    rw [HP.get]
    refine r_store S 15 (hi := by simp) (q := fun m₃ t₃ S => ?_)
    refine r_cons (r_ret (r_call (r_name S 15 (q := cw2 (kept_K (keep_244 w)) (r_name S 17 (q := r_name S 10 (q := ⟨S.world, new_prop S.world r9 (S.at hDd) lz fun h' a dx t₁ t₃ Dn c k' s' I' l' f₁ f₂ f₃ => ?_⟩)))))))
    exact hq hgood _ _ _ (fun b o e => s' _ _ (S.keep _ _ e)) ⟨dx, t₁, t₃, _, Dn, I', ⟨c, l, l', hl.trans hws⟩, fresh_of_stays S.keep f₁, fresh_of_stays S.keep f₂, fresh_of_stays S.keep f₃⟩
end
end Mine
end
section
open PySem PySem.W PyProof.Rows PySem.Calls Builtin.ObjectAttr Builtin.Getset_descriptor
set_option Elab.async false
set_option maxRecDepth 100000
set_option maxHeartbeats 1000000
namespace Mine
/-- the logic of a suspended text, shut -/
structure SG (w : World) (A : Around) (R : GenEnd) (Y : Protocol) (n : Nat) (s₀ : Shared) (c : Code) (t : Sem Fin) (fs : List Frame) (s : Shared) : Prop where
  out : Seg (MM w) A R Y n s₀ c t fs s
section
variable {w : World} {A : Around} {R : GenEnd} {Y : Protocol} {n : Nat} {s₀ : Shared} {c : Code} {fs : List Frame} {s : Shared} {env : Env} {K : Flow → Sem Fin} {H : Value → Sem Fin} {gd : Bool → Bool} {lv : List Value → List Value}
theorem sg_stmt {st : Stmt} {rest : List Stmt} (h : WP w (A.over c fs) (exec st env) (fun f s' => f = .next ∧ SG w A R Y n s₀ c ((execs rest env).wrap K H gd lv) fs s') (fun _ _ => False) s) :
    SG w A R Y n s₀ c ((execs (st :: rest) env).wrap K H gd lv) fs s :=
  ⟨seg_execs_cons (seg_wrap (wpAny_mono h.out (fun f s' x => by obtain ⟨rfl, x⟩ := x; exact x.out) fun _ _ x => x.elim))⟩
def forK (K : Flow → Sem Fin) (H : Value → Sem Fin) (gd : Bool → Bool) (lv : List Value → List Value) (env : Env) : Result → Sem Fin := fun r => ((match r with | .ok f => (.pure f : Sem Flow) | .error e => .raise e).onRaise fun (x : Value) => do
        if (← field x 1) == Value.none then unsupported "frame.own-activation:exception-without-traceback"
        setFlight x env.frame).wrap K H gd lv
theorem sg_for {target iter : Expr} {body rest : List Stmt} {pos : Pos}
    (h : WP w (A.over c fs) (eval iter env) (fun x s₁ => WP w (A.over c fs) (pyIter x) (fun it s₂ => ∀ p, SG w A R Y n s₀ (.forLoop target it body [] env) ((MM w).den (.forLoop target it body [] env))
      (.ret (forK (fun f => match f with | .next => (execs rest env).wrap K H gd lv | f => K f) H gd lv env) none (gd false) (lv []) c p [] :: fs) s₂) (fun _ _ => False) s₁) (fun _ _ => False) s)
    (hs : ∀ x, foldedSetIterable iter env x = pure x := by intro _; rfl) :
    SG w A R Y n s₀ c ((execs (.For target iter body [] pos :: rest) env).wrap K H gd lv) fs s := by
  refine ⟨seg_execs_cons ?_⟩
  rw [exec_For]
  refine seg_bind_wrap (wpAny_standAt ?_)
  refine seg_bind_wrap (wpAny_mono h.out (fun x s₁ h₁ => ?_) fun _ _ e => e.elim)
  refine seg_bind_wrap (wpAny_of_eq (hs x) ?_)
  refine seg_bind_wrap (wpAny_standAt ?_)
  refine seg_bind_wrap (wpAny_holding (wpAny_mono h₁.out (fun it s₂ h₂ => ?_) fun _ _ e => e.elim))
  exact seg_call fun p => (h₂ p).out

/-- one turn of a for in a generator -/
theorem sg_turn {v : Str} {px : Pos} {it : Value} {body : List Stmt}
    (h : WP w (A.over (.forLoop (.Name v px) it body [] env) fs) (pyNext it) (fun r s₁ => match r with
      | none => SG w A R Y n s₀ (.forLoop (.Name v px) it body [] env) (.pure (.again (.block [] env))) fs s₁
      | some x => WP w (A.over (.forLoop (.Name v px) it body [] env) fs) (storeName env v x) (fun _ s₂ =>
          SG w A R Y n s₀ (.forLoop (.Name v px) it body [] env) ((execs body env).wrap (fun f => match f with
            | .next | .cont => .pure (.again (.forLoop (.Name v px) it body [] env))
            | .brk => .pure (.done .next)
            | .ret v => .pure (.done (.ret v))) (fun e => (do noteFrame e env; theTreesLotGoes e : Sem Unit).wrap (fun _ => .raise e) .raise id id) id id) fs s₂) (fun _ _ => False) s₁) (fun _ _ => False) s)
    (ht : letOwnedTupleGo (.Name v px) it = fun _ => pure () := by rfl) :
    SG w A R Y n s₀ (.forLoop (.Name v px) it body [] env) ((MM w).den (.forLoop (.Name v px) it body [] env)) fs s := by
  refine ⟨?_⟩
  show Seg _ A R Y n s₀ _ ((forTurn (.Name v px) it body [] env).onRaise (fun x => do noteFrame x env; theTreesLotGoes x)) fs s
  unfold forTurn
  rw [Sem.onRaise_eq_wrap]
  refine seg_bind_wrap (wpAny_standAt ?_)
  refine seg_bind_wrap (wpAny_onRaise (wpAny_mono h.out (fun r s₁ h₁ => ?_) fun _ _ e => e.elim))
  cases r with
  | none => exact h₁.out
  | some x =>
    refine seg_bind_wrap (wpAny_of_eq (by rw [ht]) ?_)
    refine seg_bind_wrap (wpAny_assign_Name (wpAny_mono h₁.out (fun _ s₂ h₂ => ?_) fun _ _ e => e.elim))
    rw [Sem.bind_eq_wrap', Sem.wrap_wrap]
    rw [Sem.wrap_congr (execs body env) _ _ (K' := fun f => match f with
            | .next | .cont => .pure (.again (.forLoop (.Name v px) it body [] env))
            | .brk => .pure (.done .next)
            | .ret v => .pure (.done (.ret v))) (H' := (fun e => (do noteFrame e env; theTreesLotGoes e : Sem Unit).wrap (fun _ => .raise e) .raise id id))
        (fun f => by cases f <;> rfl)
        (fun e => by first | exact Sem.bind_eq_wrap _ _ | (show (do noteFrame e env; theTreesLotGoes e : Sem Unit).bind (fun _ => .raise e) = _; rw [Sem.bind_eq_wrap]))]
    exact h₂.out
theorem sg_again {c' : Code} (hq : c'.quiet = true) (h : SG w A R Y n s₀ c' ((MM w).den c') fs s) : SG w A R Y n s₀ c (.pure (.again c')) fs s := ⟨seg_again hq h.out⟩
/-- the for is over -/
theorem sg_over {k : Result → Sem Fin} {h' : Option Value} {g : Bool} {l : List Value} {c₁ : Code} {p₁ : Pos} {kp : List Value} (h : SG w A R Y n s₀ c₁ (k (.ok .next)) fs s) :
    SG w A R Y n s₀ (.block [] env) ((MM w).den (.block [] env)) (.ret k h' g l c₁ p₁ kp :: fs) s := by
  refine ⟨?_⟩
  show Seg _ A R Y n s₀ _ (leafOf (.ok .next)) _ s
  exact seg_leaf (.ok .next) h.out
theorem sg_func {body : List Stmt} (h : SG w A R Y n s₀ (.func body env) ((execs body env).wrap (fun f => .pure (.done (.ret (match f with | .ret v => v | _ => .none)))) (fun e => (leaving env e).wrap (fun _ => .raise e) .raise id id) id id) fs s) :
    SG w A R Y n s₀ (.func body env) ((MM w).den (.func body env)) fs s := ⟨seg_func h.out⟩
theorem sg_end (r : Result) (h : R n s₀ r s) : SG w A R Y n s₀ c (leafOf r) [] s := ⟨seg_end r h⟩
theorem sg_yield {e : Expr} {ypos pos : Pos} {rest : List Stmt} (hfs : splitAtGen fs = none) (hgd : gd false = false) (hfg : fs.any Frame.guarded = false)
    (h : WP w (A.over c fs) (eval e env) (fun v s' => ∀ kap : Resume → Shared → Prop,
        (∀ s'', SG w A R Y n s'' c ((execs rest env).wrap K H gd lv) fs s'' → kap (.send .none) s'') → Y n s₀ v s' kap) (fun _ _ => False) s)
    (hco : env.scope.isCoroutine = false := by kernel_rfl) (hi : interactive env = false := by kernel_rfl) :
    SG w A R Y (n + 1) s₀ c ((execs (.Expr (.Yield (some e) ypos) pos :: rest) env).wrap K H gd lv) fs s := by
  refine ⟨seg_execs_cons ?_⟩
  refine seg_Expr_Yield hfs hgd hfg (wpAny_mono h.out (fun v s' x kap hk => x kap fun s'' z => hk .none s'' z.out) fun _ _ e => e.elim) hco hi
end
end Mine
end
section
open PySem PySem.W PyProof.Rows PySem.Calls Builtin.ObjectAttr Builtin.Getset_descriptor
set_option Elab.async false
set_option maxRecDepth 100000
set_option maxHeartbeats 1000000
namespace Mine
section
variable {w : World} {A : Around} {E : Value → Shared → Prop} {R : Result → Shared → Prop} {h₀ h b : Heap} {g : Array GenState} {d : Drawn} {t : Nat} {os : OsState} {L x C dx D T a : Addr} {ns : List Str} {vs : List (Option Value)} {nw : List (Addr × Obj)} {env : Env} {pos : Pos} {s : Shared}
theorem excMatches_own {ox : Obj} {Q : Bool → Shared → Prop} (W : Wd w h) (hx : h.get? x = some ox) (hc : ox.cls = .ref 89) (q : Q true ⟨h, g, d, t, os⟩) : wpAny (MM w) A (excMatches (.ref x) (.ref 64)) Q E ⟨h, g, d, t, os⟩ := by
  have h64 := W.X _ _ (look64 w)
  have h89 := at89 W
  have c1 : (Value.ref 89 :: [.ref 64, .type "ValueError", .type "Exception", .type "BaseException", .type "object"]).contains (.ref 64) = true := by decide +kernel
  have c2 : (Value.ref 64 :: [.type "ValueError", .type "Exception", .type "BaseException", .type "object"]).contains (.type "BaseException") = true := by decide +kernel
  have f := tc_notTuple
  unfold excMatches
  repeat (first | (with_reducible refine wpAny_loadPart_at hx ?_; rw [hc]) | with_reducible refine wpAny_loadPart_at h64 ?_ | (with_reducible refine wpAny_isSubtype_exc h64 ?_; rw [c2]) | (with_reducible refine wpAny_isSubtype_exc h89 ?_; rw [c1]) | wp_step)
  exact q
theorem r_handle {t : Expr} {n : Str} {b₀ : Stmt} {suite : List Stmt} {Q : Flow → Shared → Prop}
    (h : WP w (A.mark (some (.ref x))) (eval t env) (fun c s₁ => c = .ref 64 ∧ Wd w s₁.heap ∧ (∃ ox, s₁.heap.get? x = some ox ∧ ox.cls = .ref 89) ∧
      WP w (A.mark (some (.ref x))) (setFlight (.ref x) none) (fun _ s₂ => WP w (A.mark (some (.ref x))) (storeName env n (.ref x)) (fun _ s₃ =>
        WP w (A.mark (some (.ref x))) (execs (b₀ :: suite) env) (fun f s₄ => WP w A (do bindName env n .none; unbindBehindTheSuite env n pos) (fun _ s₅ => Q f s₅) (fun _ _ => False) s₄) (fun _ _ => False) s₃) (fun _ _ => False) s₂) (fun _ _ => False) s₁) (fun _ _ => False) s) :
    WP w A (handleBy (.ref x) env [.ExceptHandler (some t) (some n) (b₀ :: suite) pos]) Q (fun _ _ => False) s := by
  refine ⟨wpAny_handleBy_cons (codeAny_handlers_test (wpAny_mono h.out (fun c s₁ h₁ => ?_) fun _ _ z => z.elim)) (by intro q; cases q)⟩
  obtain ⟨rfl, W, ⟨ox, hx, hc⟩, k⟩ := h₁
  obtain ⟨hh, g, d, tk, os⟩ := s₁
  refine excMatches_own W hx hc ?_
  refine codeAny_handlers_suite_as ?_
  refine wpAny_mono k.out (fun _ s₂ k => wpAny_mono k.out (fun _ s₃ k => wpAny_mono k.out (fun f s₄ k => wpAny_mono k.out (fun _ _ z => z) fun _ _ z => z.elim) fun _ _ z => z.elim) fun _ _ z => z.elim) fun _ _ z => z.elim
theorem r_try {body orelse : List Stmt} {c₀ : ExceptHandler} {cs : List ExceptHandler} {Q : Flow → Shared → Prop}
    (h : WP w A (execs body env) (fun f s₁ => match f with | .next => WP w A (execs orelse env) Q E s₁ | f => Q f s₁)
      (fun e s₁ => WP w A (noteFrame e env) (fun _ s₂ => WP w A (setFlight e none) (fun _ s₃ => WP w A (handleBy e env (c₀ :: cs)) Q E s₃) E s₂) E s₁) s) :
    WP w A (exec (.Try body (c₀ :: cs) orelse [] pos) env) Q E s :=
  ⟨wpAny_Try_except (wpAny_mono h.out (fun f s₁ z => by cases f <;> first | exact z.out | exact z) fun e s₁ z => wpAny_mono z.out (fun _ s₂ z => wpAny_mono z.out (fun _ s₃ z => z.out) fun _ _ z => z) fun _ _ z => z)⟩
theorem b_fnX {v : Value} {args : List Value} {Q : Value → Shared → Prop} (h : CC w A (.call v ⟨args, []⟩) (RX Q E) s) : WP w A (call v args) Q E s :=
  ⟨wpAny_call (codeAny_mono h.out fun r s' z => by rcases r with e | (v | _ | _ | _) <;> first | exact z | exact z.elim)⟩

/-- the exception leaves the frame where it was made -/
theorem leave1 {base : Heap} {outer : List Env} {f : Addr} {Q : Unit → Shared → Prop} (hfr : A.frames = some outer) (hfun : h₀.FunFrames base outer) (hb : base.StaysIn h₀) (S : St w h₀ h₀.objs.size h ns vs nw) (hx : h.get? x = some (excObj T)) (hn : h₀.get? x = none)
    (hk : (fdOf w f).scope.kind = .function)
    (q : ∀ h', base.StaysIn h' → base.get? x = none → h'.FunFrames base outer → h'.TracedW base x (.ref 89) (.ref T) → h.UpToSlots h' → Q () ⟨h', g, d, t, os⟩) :
    WP w (A.deeper (callEnv (fdOf w f) h₀.objs.size f)) (leaving (callEnv (fdOf w f) h₀.objs.size f) (.ref x)) Q E ⟨h, g, d, t, os⟩ := by
  have hbx : base.get? x = none := fresh_of_stays hb hn
  refine ⟨wpAny_leaving_firstW (base := base) (outer := outer) (L := h₀.objs.size) (oe := excObj T) (a0 := .ref T) (Around.frames_deeper hfr) ?_ rfl hx (fun c o e => S.keep _ _ (hb _ _ e)) hbx rfl rfl rfl fun h' k => ?_⟩
  · refine .cons (by show (fdOf w f).scope.kind ≠ .module; rw [hk]; decide) rfl S.F (fresh_of_stays hb (get_size h₀)) (hfun.of_keeps fun c o e _ => ⟨o, S.keep _ _ e, rfl⟩)
  · obtain ⟨k1, k2, k3, k4⟩ := k
    exact q h' k1 hbx k2.2.2 k3 k4
end
end Mine
end
section
open PySem PySem.W PyProof.Rows PySem.Calls Builtin.ObjectAttr Builtin.Getset_descriptor
set_option Elab.async false
set_option maxRecDepth 100000
set_option maxHeartbeats 1000000
namespace Mine
section
variable {w : World} {A : Around} {E : Value → Shared → Prop} {R : Result → Shared → Prop} {h₀ h b : Heap} {g : Array GenState} {d : Drawn} {t : Nat} {os : OsState} {L x C dx D T a : Addr} {ns : List Str} {vs : List (Option Value)} {nw : List (Addr × Obj)} {env : Env} {pos : Pos} {s : Shared} {od : Obj} {name : Str}
theorem osa_upd {K : Frag} {R : Result → Shared → Prop} {tk : Tok} {v : Value} (X : K.In h) (I : At h x C dx od) (hp : plainOver K C = true) (ht : takerIn K C name = some none) (hh : (clsIn K C).any (·.hasDict) = true) (hl : (lookIn name od).isSome = true)
    (hz : ∃ es n, (Obj.putName name (PyData.keyHash w.params name) (.str name t) v od).data = .dict (es : List DictEntry).toArray n ∧ es.length ≤ 1000)
    (q : ∀ h', h'.get? dx = some (Obj.putName name (PyData.keyHash w.params name) (.str name t) v od) → (∀ b o, b ≠ dx → h.get? b = some o → h'.get? b = some o) → R (.ok (.ret .none)) ⟨h', g, d, t + 1, os⟩) :
    codeAny (MM w) A (.call (.builtin "object.__setattr__") ⟨[.ref x, .str name tk, v], []⟩) R ⟨h, g, d, t, os⟩ := by
  obtain ⟨es, n, e', hz⟩ := hz
  refine osa_open (s := ⟨h, g, d, t, os⟩) X I.inst hp ht fun b => ?_
  obtain ⟨cd, hc, hd'⟩ := any_some hh
  have D := I.d
  have hx := I.x
  have hfr : (Obj.putName name (PyData.keyHash w.params name) (.str name t) v od).isFreed = false := Obj.isFreed_of_dict e'
  have D' := Heap.get?_update_self (h := h) (Obj.putName name (PyData.keyHash w.params name) (.str name t) v) D hfr
  refine wpAny_bind (wpAny_pure (wpAny_bind (wpAny_bind (wpAny_loadPart hx (wpAny_bind ((looks_clsIn X hc).here ?_))))))
  rw [hd']
  refine wpAny_pure (a := some dx) (wpAny_bind (wpAny_pure (wpAny_bind ?_)))
  unfold nsSet
  refine wpAny_bind (wpAny_bind (wpAny_askSetting (wpAny_pure (wpAny_bind (wpAny_mkText (wpAny_bind (wpAny_loadPart D ?_)))))))
  unfold lookIn at hl
  split at hl
  · rename_i es₀ n₀ q₀
    rw [q₀]
    dsimp only
    have c : (!es₀.any (·.key.isStr name) && es₀.any (·.refKey)) = false := by
      rw [← Array.any_toList, ← Array.any_toList]
      split at hl
      · rename_i en he
        rw [List.any_eq_true.mpr ⟨en, List.mem_of_find?_eq_some he, List.find?_some he⟩]; rfl
      · split at hl
        · cases hl
        · rename_i z; rw [Bool.not_eq_true] at z; rw [z, Bool.and_false]
    rw [aRefKeyMayBeTheName_at, c]
    refine wpAny_updatePart D ?_
    refine wpAny_bind (wpAny_lookBehind D' (by rw [e']; exact pastItsLine_dict (by rw [List.size_toArray, sizeLine_eq]; omega)) ?_)
    exact wpAny_pure (q _ D' fun b o hb e => (Heap.get?_update_other _ _ (Ne.symm hb)).trans e)
  · cases hl
theorem b_setattr2 {v : Value} {Q : Unit → Shared → Prop} (W : Wd w h) (I : At h x C dx od) (Y : Cls w C) (ht : takerIn (KK w) C name = some none)
    (hl : (lookIn name od).isSome = true) (hz : ∀ tk, ∃ es n, (Obj.putName name (PyData.keyHash w.params name) (.str name tk) v od).data = .dict (es : List DictEntry).toArray n ∧ es.length ≤ 1000)
    (q : ∀ h' tk t', h'.get? dx = some (Obj.putName name (PyData.keyHash w.params name) (.str name tk) v od) → (∀ b o, b ≠ dx → h.get? b = some o → h'.get? b = some o) → Q () ⟨h', g, d, t', os⟩) :
    WP w A (setAttr (.ref x) name v) Q E ⟨h, g, d, t, os⟩ :=
  ⟨set_plain (s := ⟨h, g, d, t, os⟩) W.X I.inst Y.sa (osa_upd W.X I Y.over ht Y.hd hl (hz _) fun h' a b => q h' _ _ a b)⟩

theorem lkp_setO : ∀ {ns : List Str} {i : Nat} {x : Str} {vs : List (Option Value)} {v : Option Value}, at1 ns i x = true → i < vs.length → ns.Nodup → (fun y => if y = x then v else lkp ns vs y) = lkp ns (vs.set i v)
  | n :: ns, 0, x, v' :: vs, v, h, _, _ => by
    funext y
    simp only [at1, beq_iff_eq] at h
    subst h
    simp only [List.set_cons_zero, lkp]
    by_cases q : y = n
    · subst q; simp
    · have : (n == y) = false := beq_eq_false_iff_ne.mpr fun e => q e.symm
      simp [q, this]
  | n :: ns, i + 1, x, v' :: vs, v, h, hl, nd => by
    funext y
    simp only [at1, Bool.and_eq_true, Bool.not_eq_true', beq_eq_false_iff_ne] at h
    simp only [List.set_cons_succ, lkp]
    have ih := congrFun (lkp_setO (ns := ns) (vs := vs) (v := v) h.2 (by simpa using hl) (List.nodup_cons.mp nd).2) y
    by_cases q : n == y
    · have : y ≠ x := fun e => h.1 ((beq_iff_eq.mp q).trans e)
      simp [q, this]
    · simp only [q, Bool.false_eq_true, if_false]
      exact ih
  | [], _, _, _, _, h, _, _ => by simp [at1] at h
  | _ :: _, 0, _, [], _, _, hl, _ => by simp at hl
  | _ :: _, _ + 1, _, [], _, _, hl, _ => by simp at hl
/-- the name of the exception goes -/
theorem r_goes {n : Str} {Q : Unit → Shared → Prop} (S : St w h₀ L h ns vs nw) (i : Nat) (q : ∀ h' v t', St w h₀ L h' ns (vs.set i v) nw → Q () ⟨h', g, d, t', os⟩)
    (hx : at1 ns i n = true := by kernel_rfl) (hi : i < vs.length := by simp) (hk : env.scope.kind = .function := by kernel_rfl) (hL : env.locals = L := by rfl) (hl : env.kindOf n = some .local := by kernel_rfl) (hnd : ns.Nodup := by decide +kernel) :
    WP w A (do bindName env n .none; unbindBehindTheSuite env n pos) Q E ⟨h, g, d, t, os⟩ := by
  subst hL
  refine ⟨wpAny_nameGoes_keeps hl S.F (by rw [hk]; rfl) fun h' v hn hs => ?_⟩
  rw [lkp_setO hx hi hnd] at hn
  exact q h' v _ (S.set hn hs)
end
end Mine
end
section
open PySem PySem.W PyProof.Rows PySem.Calls Builtin.ObjectAttr Builtin.Getset_descriptor
set_option Elab.async false
set_option maxRecDepth 100000
set_option maxHeartbeats 1000000
namespace Mine
inductive Msg
  | sent (k : Knd) (ws : List Str)
  | bad
def MsgAt (w : World) (h : Heap) (v : Value) : Msg → Prop
  | .sent k ws => k.fits ∧ ∃ x, v = .ref x ∧ Sent w h x k ws
  | .bad => ∃ x o, v = .ref x ∧ h.get? x = some o ∧ o.cls = .ref 89
theorem MsgAt.keeps {w : World} {h h' : Heap} {v : Value} (k : h.StaysIn h') : ∀ {m : Msg}, MsgAt w h v m → MsgAt w h' v m
  | .sent _ _, ⟨f, x, e, S⟩ => ⟨f, x, e, S.keeps k⟩
  | .bad, ⟨x, o, e, ho, c⟩ => ⟨x, o, e, k _ _ ho, c⟩
/-- what a line of a log is -/
def LineOk (x : Str) : Msg → Prop
  | .sent k ws => ∃ q star tail p dol sm, Cut x q star tail p dol sm ∧ KindP p k ws ∧ ws.length ≤ 1000000 ∧ k.fits ∧ ∀ v, sm = some v → v = xsum p 0 0
  | .bad => ∃ q star tail p dol v k ws, Cut x q star tail p dol (some v) ∧ KindP p k ws ∧ ws.length ≤ 1000000 ∧ v ≠ xsum p 0 0
noncomputable def ns270 : List Str := [Str.ofString "self", Str.ofString "kinds", Str.ofString "data", Str.ofString "lines", Str.ofString "line", Str.ofString "msg", Str.ofString "e"]
noncomputable abbrev genv (w : World) (L : Addr) : Env := callEnv (fdOf w 270) L 270
def outsOf (outer : List Env) : List Addr := outer.filterMap (·.frame)
/-- nothing but the frames, the generator's own things and its iterator has changed -/
structure Snc (hc : Heap) (dx L : Addr) (outs : List Addr) (s₀ s : Shared) : Prop where
  same : s.gens = s₀.gens ∧ s.drawn = s₀.drawn ∧ s.os = s₀.os
  keep : ∀ b o, b ≠ dx → b ≠ L → b ∉ outs → (hc.get? b ≠ none ∨ o.cls ≠ .type "list_iterator") → s₀.heap.get? b = some o → s.heap.get? b = some o
  fr : ∀ b ∈ outs, ∀ o, s₀.heap.get? b = some o → (∀ vs, o.data ≠ .fields vs) → ∃ sl, s.heap.get? b = some { o with slots := sl }
theorem Snc.refl {hc : Heap} {dx L : Addr} {outs : List Addr} {s : Shared} : Snc hc dx L outs s s := ⟨⟨rfl, rfl, rfl⟩, fun _ _ _ _ _ _ e => e, fun _ _ o e _ => ⟨o.slots, e⟩⟩
theorem Snc.trans {hc : Heap} {dx L : Addr} {outs : List Addr} {s s' s'' : Shared} (x : Snc hc dx L outs s s') (y : Snc hc dx L outs s' s'') : Snc hc dx L outs s s'' :=
  ⟨⟨y.same.1.trans x.same.1, y.same.2.1.trans x.same.2.1, y.same.2.2.trans x.same.2.2⟩, fun b o h1 h2 h3 h4 e => y.keep b o h1 h2 h3 h4 (x.keep b o h1 h2 h3 h4 e),
    fun b hb o e n => let ⟨_, e'⟩ := x.fr b hb o e n; let ⟨sl, e''⟩ := y.fr b hb _ e' n; ⟨sl, e''⟩⟩
structure Sta (w : World) (b : Heap) (L S dx rd D : Addr) (outer : List Env) (od : Obj) : Prop where
  W : Wd w b
  K : Kinds w b D
  x : b.get? rd = some (instObj 273 dx)
  er : ∃ u, lookIn (Str.ofString "errors") od = some (some (.str (Str.ofString "yield") u))
  n1 : b.get? dx = none
  n2 : b.get? S = none
  n3 : b.get? L = none
  n4 : ∀ a ∈ outsOf outer, b.get? a = none
  dL : dx ≠ L
  dS : dx ≠ S
  SL : S ≠ L
  o1 : dx ∉ outsOf outer
  o2 : S ∉ outsOf outer
  o3 : L ∉ outsOf outer
structure Rdy (w : World) (b : Heap) (L I Dl S dx rd D : Addr) (outer : List Env) (od : Obj) (items : Array Value) (i : Nat) (h : Heap) : Prop where
  F : ∃ v₂ v₃ v₄ v₅ v₆, h.Ns L (lkp ns270 [some (.ref rd), some (.ref D), v₂, v₃, v₄, v₅, v₆])
  it : h.IsListIter I Dl i
  d : h.get? dx = some od
  s : h.get? S ≠ none
  B : b.StaysIn h
  l : h.IsList Dl items
  fr : h.FunFrames {} outer
  i1 : b.get? I = none
  i2 : I ≠ dx ∧ I ≠ S ∧ I ≠ L ∧ I ∉ outsOf outer
  l2 : Dl ≠ dx ∧ Dl ≠ S ∧ Dl ≠ L ∧ Dl ∉ outsOf outer ∧ Dl ≠ I
theorem funFrames_weak {h base base' : Heap} (k : ∀ a, base.get? a = none → base'.get? a = none) : ∀ {l : List Env}, h.FunFrames base l → h.FunFrames base' l
  | [], _ => trivial
  | _ :: _, ⟨a, ⟨L, o, e, n, ho, nf⟩, r⟩ => ⟨a, ⟨L, o, e, k _ n, ho, nf⟩, funFrames_weak k r⟩
theorem funFrames_up {h h' base : Heap} : ∀ {l : List Env}, (∀ a ∈ outsOf l, ∀ o, h.get? a = some o → (∀ vs, o.data ≠ .fields vs) → ∃ o', h'.get? a = some o' ∧ o'.data = o.data) → h.FunFrames base l → h'.FunFrames base l
  | [], _, _ => trivial
  | env :: r, k, ⟨a, ⟨L, o, e, n, ho, nf⟩, r'⟩ => by
    obtain ⟨o', ho', hd⟩ := k L (by unfold outsOf; rw [List.filterMap_cons, e]; exact .head _) o ho nf
    exact ⟨a, ⟨L, o', e, n, ho', fun vs => hd ▸ nf vs⟩, funFrames_up (fun b hb => k b (by unfold outsOf; rw [List.filterMap_cons, e]; exact .tail _ hb)) r'⟩
/-- what the consumer sees of one item -/
def YY (w : World) (hc : Heap) (S dx L : Addr) (outer : List Env) (n : Nat) (msgs : Nat → Msg) : Protocol := fun m s₀ v s kap =>
  (∃ i, i + 1 + m = n ∧ MsgAt w (hideAll s.heap (dx :: S :: L :: outsOf outer)) v (msgs i)) ∧ Snc hc dx L (outsOf outer) s₀ s ∧
    ∀ s'' : Shared, (∀ b o, b ≠ S → s.heap.get? b = some o → s''.heap.get? b = some o) → s''.heap.get? S ≠ none → kap (.send .none) s''
def RR (hc : Heap) (dx L : Addr) (outer : List Env) (buf : Heap → Prop) : GenEnd := fun n s₀ r s => r = .ok (.ret .none) ∧ n = 0 ∧ Snc hc dx L (outsOf outer) s₀ s ∧ buf s.heap
end Mine
end
section
open PySem PySem.W PyProof.Rows PySem.Calls Builtin.ObjectAttr Builtin.Getset_descriptor
set_option Elab.async false
set_option maxRecDepth 100000
set_option maxHeartbeats 1000000
namespace Mine
noncomputable def forBody (w : World) : List Stmt := match (fdOf w 270).body with | .stmts [_, _, _, .For _ _ b _ _] => b | _ => []
theorem fc_parse (w : World) : findCls (KK w) (.ref 164) (.type "type") (Str.ofString "parse") = some (.get (.builtin "staticmethod.__get__") (.ref 126) .none (.ref 164)) := by kernel_rfl
theorem rc_126 (w : World) : recIn (KK w) 126 "staticmethod" = some [.ref 124, .bool false] := by kernel_rfl
theorem keep_124 (w : World) : keepIn (KK w) (.ref 124) = true := by kernel_rfl
theorem none_273 (w : World) : findIn (KK w) (.ref 273) (Str.ofString "errors") = some none ∧ findIn (KK w) (.ref 273) (Str.ofString "buffer") = some none := ⟨by kernel_rfl, by kernel_rfl⟩
theorem s_raise : (Str.ofString "yield" == Str.ofString "raise") = false ∧ (Str.ofString "yield" == Str.ofString "ignore") = false := ⟨by decide +kernel, by decide +kernel⟩

theorem turn {w : World} {B : Around} {b hc : Heap} {L I Dl S dx rd D : Addr} {outer : List Env} {od : Obj} {items : Array Value} {msgs : Nat → Msg} {fs : List Frame} {px : Pos} {bf : Heap → Prop}
    (T : Sta w b L S dx rd D outer od) (hin : ∀ i x, items[i]? = some x → ∃ l u, x = .str l u ∧ l.length ≤ 10000 ∧ LineOk l (msgs i))
    (hover : (B.over (.forLoop (.Name (Str.ofString "line") px) (.ref I) (forBody w) [] (genv w L)) fs).frames = some (genv w L :: outer)) (hh : (B.over (.forLoop (.Name (Str.ofString "line") px) (.ref I) (forBody w) [] (genv w L)) fs).handled = none)
    (hroom : (B.over (.forLoop (.Name (Str.ofString "line") px) (.ref I) (forBody w) [] (genv w L)) fs).depth < 870) (hfs : splitAtGen fs = none) (hfg : fs.any Frame.guarded = false) (hcI : hc.get? I = none)
    (hend : ∀ s₀ s, Snc hc dx L (outsOf outer) s₀ s → s.heap.get? dx = some od → SG w B (RR hc dx L outer bf) (YY w hc S dx L outer items.size msgs) 0 s₀ (.block [] (genv w L)) ((MM w).den (.block [] (genv w L))) fs s) :
    ∀ (k i : Nat) (s₀ s : Shared), items.size - i = k → i ≤ items.size → Rdy w b L I Dl S dx rd D outer od items i s.heap → Snc hc dx L (outsOf outer) s₀ s →
      SG w B (RR hc dx L outer bf) (YY w hc S dx L outer items.size msgs) k s₀ (.forLoop (.Name (Str.ofString "line") px) (.ref I) (forBody w) [] (genv w L)) ((MM w).den (.forLoop (.Name (Str.ofString "line") px) (.ref I) (forBody w) [] (genv w L))) fs s := by
  intro k
  induction k with
  | zero =>
    intro i s₀ s hk hi Y Z
    have hin : i = items.size := by omega
    subst hin
    refine sg_turn ⟨wpAny_pyNext_list_end hh Y.it Y.l (by simp) fun h' k' => ?_⟩
    refine sg_again rfl (hend s₀ _ (Z.trans ⟨⟨rfl, rfl, rfl⟩, fun c o n1 n2 n3 n4 e => k' c o (fun c2 => ?_) e, fun a ha o e nf => ⟨o.slots, k' a o (fun e' => Y.i2.2.2.2 (e' ▸ ha)) e⟩⟩) (k' _ _ (Ne.symm Y.i2.1) Y.d))
    subst c2
    obtain ⟨o', e', cc, _⟩ := Y.it
    rw [e'] at e
    cases e
    rcases n4 with n4 | n4
    · exact absurd hcI n4
    · exact absurd cc n4
  | succ k ih =>
    intro i s₀ s hk hi Y Z
    have hlt : i < items.size := by omega
    obtain ⟨l, u, hx, hl, hm⟩ := hin i items[i] (by simp [hlt])
    obtain ⟨v₂, v₃, v₄, v₅, v₆, hF⟩ := Y.F
    obtain ⟨oS, hoS⟩ := Option.isSome_iff_exists.mp (Option.isSome_iff_ne_none.mpr Y.s)
    obtain ⟨h, g, d, t, os⟩ := s
    refine sg_turn ⟨wpAny_pyNext_list_item Y.it Y.l (show items[i]? = some items[i] by simp [hlt]) fun h₁ it₁ k₁ => ?_⟩
    rw [hx]
    -- the frame, over all that is not its own
    have k1 : ∀ a, a ≠ I → h₁.get? a = h.get? a := fun a ha => k₁.2 a ha
    have bz : b.StaysIn (hideAll h₁ [dx, S, L]) := fun c o e => by
      refine hideAll_get _ ((k1 c fun e' => by rw [e', Y.i1] at e; cases e).trans (Y.B _ _ e)) ?_
      intro q
      simp only [List.mem_cons, List.not_mem_nil, or_false] at q
      rcases q with rfl | rfl | rfl
      · rw [T.n1] at e; cases e
      · rw [T.n2] at e; cases e
      · rw [T.n3] at e; cases e
    have S₁ : St w (hideAll h₁ [dx, S, L]) L h₁ ns270 [some (.ref rd), some (.ref D), v₂, v₃, v₄, v₅, v₆] [(dx, od), (S, oS)] := by
      refine ⟨?_, fun c o e => of_hideAll _ e, hideAll_none _ (by simp), fun p hp => ?_, T.W.keeps bz⟩
      · obtain ⟨o, es, ep, e, r⟩ := hF
        exact ⟨o, es, ep, (k1 L (Ne.symm Y.i2.2.2.1)).trans e, r⟩
      · rcases List.mem_cons.mp hp with rfl | hp
        · exact ⟨(k1 dx (Ne.symm Y.i2.1)).trans Y.d, T.dL, hideAll_none _ (by simp)⟩
        · rw [List.mem_singleton.mp hp]
          exact ⟨(k1 S (Ne.symm Y.i2.2.1)).trans hoS, T.SL, hideAll_none _ (by simp)⟩
    have fr₁ : h₁.FunFrames {} outer := funFrames_up (fun a ha o e _ => ⟨o, (k1 a fun e' => Y.i2.2.2.2 (e' ▸ ha)).trans e, rfl⟩) Y.fr
    refine r_store S₁ 4 (hi := by simp) (q := fun h₂ t₂ S₂ => ?_)
    let J : Shared → Prop := fun s' => ∃ h' t' v₂ v₃ v₄ v₆ v, s' = ⟨h', g, d, t', os⟩ ∧ h'.Ns L (lkp ns270 [some (.ref rd), some (.ref D), v₂, v₃, v₄, some v, v₆]) ∧ h'.get? dx = some od ∧ h'.get? S = some oS ∧
      MsgAt w (hideAll h' (dx :: S :: L :: outsOf outer)) v (msgs i) ∧ (∀ c o, c ≠ dx → c ≠ S → c ≠ L → c ∉ outsOf outer → h₁.get? c = some o → h'.get? c = some o) ∧ h'.FunFrames {} outer ∧
      (∀ a ∈ outsOf outer, ∀ o, h₁.get? a = some o → (∀ vs, o.data ≠ .fields vs) → ∃ sl, h'.get? a = some { o with slots := sl })
    refine sg_stmt (WP.monoQ (Q := fun f s' => f = .next ∧ J s') (r_try (r_cons ?_)) fun f s' j => ⟨j.1, ?_⟩)
    · have K₂ : Kinds w h₂ D := (T.K.keeps bz).keeps S₂.keep
      refine r_asg (r_meth (r_glob S₂ (n_164 w) (m_static S₂.world (g_164 w) (rd_164 w) (fc_parse w) (rc_126 w) fun _ => cw2 (kept_K (keep_124 w)) (r_name S₂ 4 (q := r_name S₂ 1 (q := ⟨S₂.world, b_fnX ?_⟩))))))
      have up2 : ∀ c o, c ≠ dx → c ≠ S → c ≠ L → h₁.get? c = some o → h₂.get? c = some o := fun c o n1 n2 n3 e => S₂.keep _ _ (hideAll_get _ e (by simp [n1, n2, n3]))
      have hd2 : h₂.get? dx ≠ none := by rw [S₂.at (.head _)]; simp
      have hs2 : h₂.get? S ≠ none := by rw [S₂.at (.tail _ (.head _))]; simp
      have hL2 : h₂.get? L ≠ none := by obtain ⟨o, _, _, e, _⟩ := S₂.F; rw [e]; simp
      have fr₂ : h₂.FunFrames {} outer := funFrames_up (fun a ha o e _ => ⟨o, up2 a o (fun e' => T.o1 (e' ▸ ha)) (fun e' => T.o2 (e' ▸ ha)) (fun e' => T.o3 (e' ▸ ha)) e, rfl⟩) fr₁
      have ho2 : ∀ a ∈ outsOf outer, h₂.get? a ≠ none := fun a ha => by obtain ⟨_, o, e, _⟩ := fr₂.mem ha; rw [e]; simp
      have hid2 : ∀ a ∈ dx :: S :: L :: outsOf outer, h₂.get? a ≠ none := by
        intro a ha
        rcases List.mem_cons.mp ha with rfl | ha
        · exact hd2
        rcases List.mem_cons.mp ha with rfl | ha
        · exact hs2
        rcases List.mem_cons.mp ha with rfl | ha
        · exact hL2
        exact ho2 a ha
      cases hmi : msgs i with
      | sent k ws =>
        rw [hmi] at hm
        obtain ⟨q, star, tail, p, dol, sm, H, HK, hwl, hfit, hgood⟩ := hm
        refine parse_spec S₂.world (Nat.lt_trans hroom (by decide)) hh H HK hwl K₂ (fun _ h' a k' k₃ sf => ?_) fun v e hne => absurd (hgood v e) hne
        have S₃ := (S₂.keeps k₃).rebase
        refine r_store S₃ 5 (hi := by simp) (q := fun h₄ t₄ S₄ => r_nil (r_nil ⟨rfl, _, _, _, _, _, _, _, rfl, S₄.F, S₄.at (.head _), S₄.at (.tail _ (.head _)), ?_, ?_, ?_, ?_⟩))
        · rw [hmi]
          refine ⟨hfit, a, rfl, (sf.hide hid2).keeps fun c o e => hideAll_get _ (S₄.keep _ _ (hideAll_get _ (of_hideAll _ e) ?_)) ?_⟩
          · intro q
            have : c ∈ dx :: S :: L :: outsOf outer := by
              simp only [List.map_cons, List.map_nil, List.mem_cons, List.not_mem_nil, or_false] at q ⊢
              rcases q with rfl | rfl | rfl <;> simp
            rw [hideAll_none _ this] at e; cases e
          · intro q
            rw [hideAll_none _ q] at e; cases e
        · exact fun c o n1 n2 n3 _ e => S₄.keep _ _ (hideAll_get _ (k₃ _ _ (up2 c o n1 n2 n3 e)) (by simp [n1, n2, n3]))
        · exact funFrames_up (fun a ha o e _ => ⟨o, S₄.keep _ _ (hideAll_get _ (k₃ _ _ e) (by
            simp only [List.map_cons, List.map_nil, List.mem_cons, List.not_mem_nil, or_false, not_or]
            exact ⟨fun e' => T.o3 (e' ▸ ha), fun e' => T.o1 (e' ▸ ha), fun e' => T.o2 (e' ▸ ha)⟩)), rfl⟩) fr₂
        · exact fun a ha o e _ => ⟨o.slots, S₄.keep _ _ (hideAll_get _ (k₃ _ _ (up2 a o (fun e' => T.o1 (e' ▸ ha)) (fun e' => T.o2 (e' ▸ ha)) (fun e' => T.o3 (e' ▸ ha)) e)) (by
            simp only [List.map_cons, List.map_nil, List.mem_cons, List.not_mem_nil, or_false, not_or]
            exact ⟨fun e' => T.o3 (e' ▸ ha), fun e' => T.o1 (e' ▸ ha), fun e' => T.o2 (e' ▸ ha)⟩))⟩
      | bad =>
        rw [hmi] at hm
        obtain ⟨q, star, tail, p, dol, v, k, ws, H, HK, hwl, hne⟩ := hm
        refine parse_spec S₂.world (Nat.lt_trans hroom (by decide)) hh H HK hwl K₂ (fun hg => absurd (hg v rfl) hne) fun v' e hne' h' x T' k' vs' nw' Sp hx hf => ?_
        have B0 : (hideAll h₂ (L :: outsOf outer)).StaysIn h₂ := fun c o e => of_hideAll _ e
        have frB : h₂.FunFrames (hideAll h₂ (L :: outsOf outer)) (genv w L :: outer) := .cons (by show (fdOf w 270).scope.kind ≠ .module; rw [show (fdOf w 270).scope.kind = .function from by kernel_rfl]; decide) rfl S₂.F (hideAll_none _ (.head _)) (funFrames_hide fr₂ fun env he a ha => .tail _ (List.mem_filterMap.mpr ⟨env, he, ha⟩))
        refine leave1 hover frB B0 Sp hx hf (by kernel_rfl) fun h₃ e1 e2 e3 e4 u3 => ?_
        -- the handler
        refine ⟨wpAny_looks_onW (s := ⟨h₃, g, d, k', os⟩) hover rfl ⟨e1, e2, e3, e4⟩ fun h₄ hheld u4 => ?_⟩
        refine ⟨wpAny_landsW (s := ⟨h₄, g, d, k', os⟩) hheld fun h₅ hfl u5 => ?_⟩
        have uu : h₂.UpToSlots h₅ := (Heap.UpToSlots.of_keeps Sp.keep).trans (u3.trans (u4.trans u5))
        have bh : ∀ h', (hideAll h₂ (L :: outsOf outer)).StaysIn h' → b.StaysIn (hideAll h' [dx, S, L]) := fun h' kk c o e => by
          refine hideAll_get _ (kk _ _ (hideAll_get _ (S₂.keep _ _ (bz _ _ e)) fun q => ?_)) fun q => ?_
          · rcases List.mem_cons.mp q with rfl | q
            · rw [T.n3] at e; cases e
            · rw [T.n4 _ q] at e; cases e
          · simp only [List.mem_cons, List.not_mem_nil, or_false] at q
            rcases q with rfl | rfl | rfl
            · rw [T.n1] at e; cases e
            · rw [T.n2] at e; cases e
            · rw [T.n3] at e; cases e
        have mk : ∀ h', (hideAll h₂ (L :: outsOf outer)).StaysIn h' → h₂.UpToSlots h' → St w (hideAll h' [dx, S, L]) L h' ns270 _ [(dx, od), (S, oS)] := fun h' kk up =>
          ⟨up.ns S₂.F, fun c o e => of_hideAll _ e, hideAll_none _ (by simp), fun p hp => by
            rcases List.mem_cons.mp hp with rfl | hp
            · exact ⟨kk _ _ (hideAll_get _ (S₂.at (.head _)) (by simp only [List.mem_cons, not_or]; exact ⟨T.dL, T.o1⟩)), T.dL, hideAll_none _ (by simp)⟩
            · rw [List.mem_singleton.mp hp]
              exact ⟨kk _ _ (hideAll_get _ (S₂.at (.tail _ (.head _))) (by simp only [List.mem_cons, not_or]; exact ⟨T.SL, T.o2⟩)), T.SL, hideAll_none _ (by simp)⟩, T.W.keeps (bh h' kk)⟩
        have S₅ := mk h₅ hfl.1 uu
        refine r_handle (r_glob S₅ (n_64 w) ⟨rfl, S₅.world, hfl.there, ⟨lands_againW (s := ⟨h₅, g, d, k', os⟩) hfl fun h₆ hfl6 u6 => ?_⟩⟩)
        have uu6 := uu.trans u6
        have S₆ := mk h₆ hfl6.1 uu6
        obtain ⟨u₈, her⟩ := T.er
        have hrd := bh h₆ hfl6.1 _ _ T.x
        refine r_store S₆ 6 (hi := by simp) (q := fun h₇ t₇ S₇ => ?_)
        refine r_cons (r_if (t_cmp (r_attr_of (r_name S₇ 0 (q := b_attr S₇.world ⟨S₇.keep _ _ hrd, S₇.at (.head _)⟩ (cls_273 w) (none_273 w).1 her rfl fun _ => r_cstr fun _ _ => b_eq_str (b_true ?_))))))
        rw [s_raise.1]
        refine c_ff (r_nil (r_cons (r_if (t_cmp (r_attr_of (r_name S₇ 0 (q := b_attr S₇.world ⟨S₇.keep _ _ hrd, S₇.at (.head _)⟩ (cls_273 w) (none_273 w).1 her rfl fun _ => r_cstr fun _ _ => b_eq_str (b_true ?_))))))))
        rw [beq_self_eq_true]
        refine c_tt (r_cons (r_asg (r_name S₇ 6 (q := r_store S₇ 5 (hi := by simp) (q := fun h₈ t₈ S₈ => r_nil ?_)))))
        refine r_cons (r_if (t_cmp (r_attr_of (r_name S₈ 0 (q := b_attr S₈.world ⟨S₈.keep _ _ hrd, S₈.at (.head _)⟩ (cls_273 w) (none_273 w).1 her rfl fun _ => r_cstr fun _ _ => b_eq_str (b_true ?_))))))
        rw [s_raise.2]
        refine c_ff (r_nil (r_nil (r_goes S₈ 6 (hi := by simp) (q := fun h₉ vE t₉ S₉ => ?_))))
        have xh : ∀ c ∈ dx :: S :: L :: outsOf outer, x ≠ c := fun c hc e' => hid2 c hc (e' ▸ hf)
        obtain ⟨ox, hox, hoc⟩ := hfl6.there
        have k69 : ∀ c o, c ≠ dx → c ≠ S → c ≠ L → h₆.get? c = some o → h₉.get? c = some o := fun c o n1 n2 n3 e => S₉.keep _ _ (hideAll_get _ e (by simp [n1, n2, n3]))
        have no : ∀ a ∈ outsOf outer, a ≠ dx ∧ a ≠ S ∧ a ≠ L := fun a ha => ⟨fun e' => T.o1 (e' ▸ ha), fun e' => T.o2 (e' ▸ ha), fun e' => T.o3 (e' ▸ ha)⟩
        refine ⟨rfl, _, _, _, _, _, _, _, rfl, S₉.F, S₉.at (.head _), S₉.at (.tail _ (.head _)), ?_, ?_, ?_, ?_⟩
        · rw [hmi]
          exact ⟨x, ox, rfl, hideAll_get _ (k69 _ _ (xh _ (by simp)) (xh _ (by simp)) (xh _ (by simp)) hox) fun q => xh _ q rfl, hoc⟩
        · exact fun c o n1 n2 n3 n4 e => k69 _ _ n1 n2 n3 (hfl6.1 _ _ (hideAll_get _ (up2 c o n1 n2 n3 e) (by simp only [List.mem_cons, not_or]; exact ⟨n3, n4⟩)))
        · exact funFrames_up (fun a ha o e _ => ⟨o, k69 _ _ (no a ha).1 (no a ha).2.1 (no a ha).2.2 e, rfl⟩) (funFrames_weak (fun _ _ => rfl) hfl6.2.2.1.2.2)
        · intro a ha o e nf
          obtain ⟨sl, e6⟩ := uu6 a o (up2 a o (no a ha).1 (no a ha).2.1 (no a ha).2.2 e) nf
          exact ⟨sl, k69 _ _ (no a ha).1 (no a ha).2.1 (no a ha).2.2 e6⟩
    · obtain ⟨h', t', w₂, w₃, w₄, w₆, v, rfl, hN, hd', hs', hM, hkp, hfr', hsl⟩ := j.2
      have no : ∀ a ∈ outsOf outer, a ≠ dx ∧ a ≠ S ∧ a ≠ L := fun a ha => ⟨fun e' => T.o1 (e' ▸ ha), fun e' => T.o2 (e' ▸ ha), fun e' => T.o3 (e' ▸ ha)⟩
      have bk : b.StaysIn h' := fun c o e => hkp c o (fun e' => by rw [e', T.n1] at e; cases e) (fun e' => by rw [e', T.n2] at e; cases e) (fun e' => by rw [e', T.n3] at e; cases e) (fun q => by rw [T.n4 _ q] at e; cases e) (of_hideAll _ (bz _ _ e))
      have S' : St w b L h' ns270 [some (.ref rd), some (.ref D), w₂, w₃, w₄, some v, w₆] [] := ⟨hN, bk, T.n3, (fun _ hp => nomatch hp), T.W⟩
      have hI : ∀ o, h.get? I = some o → o.cls = .type "list_iterator" := fun o e => by
        obtain ⟨o', e', c, _⟩ := Y.it
        have e' : h.get? I = some o' := e'
        rw [e'] at e; cases e; exact c
      refine sg_yield hfs rfl hfg (r_name S' 5 (q := fun kap hk => ⟨⟨i, by omega, hM⟩, Z.trans ⟨⟨rfl, rfl, rfl⟩, fun c o n1 n2 n3 n4 e => ?_, fun a ha o e nf => ?_⟩, fun s'' kk hs'' => hk s'' ?_⟩))
      · by_cases c1 : c = S
        · subst c1
          have e : h.get? c = some o := e
          rw [hoS] at e; cases e; exact hs'
        · by_cases c2 : c = I
          · subst c2
            rcases n4 with n4 | n4
            · exact absurd hcI n4
            · exact absurd (hI o e) n4
          · exact hkp c o n1 c1 n2 n3 ((k1 c c2).trans e)
      · exact hsl a ha o ((k1 a fun e' => Y.i2.2.2.2 (e' ▸ ha)).trans e) nf
      · show SG _ _ _ _ _ _ _ (.pure (.again _)) _ _
        refine sg_again rfl (ih (i + 1) s'' s'' (by omega) hlt ?_ Snc.refl)
        refine ⟨⟨w₂, w₃, w₄, some v, w₆, ?_⟩, ?_, kk _ _ T.dS hd', hs'', fun c o e => kk _ _ (fun e' => by rw [e', T.n2] at e; cases e) (bk _ _ e), ?_, funFrames_up (fun a ha o e _ => ⟨o, kk _ _ (no a ha).2.1 e, rfl⟩) hfr', Y.i1, Y.i2, Y.l2⟩
        · obtain ⟨o, es, ep, e, r⟩ := hN
          exact ⟨o, es, ep, kk _ _ (Ne.symm T.SL) e, r⟩
        · obtain ⟨o, e, r⟩ := it₁
          exact ⟨o, kk _ _ Y.i2.2.1 (hkp _ _ Y.i2.1 Y.i2.2.1 Y.i2.2.2.1 Y.i2.2.2.2 e), r⟩
        · obtain ⟨o, e, r⟩ := Y.l
          exact ⟨o, kk _ _ Y.l2.2.1 (hkp _ _ Y.l2.1 Y.l2.2.1 Y.l2.2.2.1 Y.l2.2.2.2.1 ((k1 _ Y.l2.2.2.2.2).trans e)), r⟩
end Mine
end
section
open PySem PySem.W PyProof.Rows PySem.Calls Builtin.ObjectAttr Builtin.Getset_descriptor
set_option Elab.async false
set_option maxRecDepth 100000
set_option maxHeartbeats 1000000
namespace Mine
noncomputable def sE : Str := Str.ofString "errors"
noncomputable def sS : Str := Str.ofString "stream"
noncomputable def sB : Str := Str.ofString "buffer"
noncomputable def odR (w : World) (t₁ t₂ t₃ u₁ : Tok) (v : Value) : Obj := put w sB t₃ v (put w sS t₂ .none (put w sE t₁ (.str (Str.ofString "yield") u₁) emptyDict))
section
variable {w : World} {t₁ t₂ t₃ u₁ tk : Tok} {v v' : Value}
theorem odR_e : lookIn (Str.ofString "errors") (odR w t₁ t₂ t₃ u₁ v) = some (some (.str (Str.ofString "yield") u₁)) := by kernel_rfl
theorem odR_b : lookIn (Str.ofString "buffer") (odR w t₁ t₂ t₃ u₁ v) = some (some v) := by kernel_rfl
theorem odR_n : lookIn (Str.ofString "next") (odR w t₁ t₂ t₃ u₁ v) = some none := by kernel_rfl
theorem odR_put : Obj.putName (Str.ofString "buffer") (PyData.keyHash w.params (Str.ofString "buffer")) (.str (Str.ofString "buffer") tk) v' (odR w t₁ t₂ t₃ u₁ v) = odR w t₁ t₂ t₃ u₁ v' := by kernel_rfl
theorem odR_z : ∃ es n, (odR w t₁ t₂ t₃ u₁ v).data = .dict (es : List DictEntry).toArray n ∧ es.length ≤ 1000 := ⟨[_, _, _], _, rfl, by simp⟩
end
theorem taker_273 (w : World) : takerIn (KK w) 273 (Str.ofString "buffer") = some none := by kernel_rfl
theorem nl_ne : ((Str.ofString "\n").length == 0) = false := by decide +kernel
section
variable {w : World} {A : Around} {E : Value → Shared → Prop} {h₀ h : Heap} {g : Array GenState} {d : Drawn} {t : Nat} {os : OsState} {L D : Addr} {ns : List Str} {vs : List (Option Value)} {nw : List (Addr × Obj)} {its : Array Value}
theorem St.tail {p : Addr × Obj} (S : St w h₀ L h ns vs (p :: nw)) : St w h₀ L h ns vs nw := ⟨S.F, S.keep, S.off, fun q hq => S.N q (.tail _ hq), S.W⟩
theorem m_pop {pl : Sem Bool} {Q : Value × List Value → Shared → Prop} {o : Obj} (ho : h.get? D = some o) (hc : o.cls = .type "list") (hd : o.dict = none) (q : Q (.builtin "list.pop", [.ref D]) ⟨h, g, d, t, os⟩) : WP w A (getMethod (.ref D) (Str.ofString "pop") pl) Q E ⟨h, g, d, t, os⟩ :=
  ⟨Copied.getMethod_pop_at ho hc hd q⟩
theorem b_pop {y : Value} {n : Nat} {Q : Value → Shared → Prop} (S : St w h₀ L h ns vs ((D, { cls := .type "list", data := .seq its n }) :: nw)) (hn : ∀ p ∈ nw, p.1 ≠ D) (hy : its[its.size - 1]? = some y) (hz : its.size ≤ sizeLine)
    (q : ∀ h', St w h₀ L h' ns vs ((D, { cls := .type "list", data := .seq its.pop (n + 1) }) :: nw) → (∀ b o, b ≠ D → h.get? b = some o → h'.get? b = some o) → Q y ⟨h', g, d, t, os⟩) : WP w A (call (.builtin "list.pop") [.ref D]) Q E ⟨h, g, d, t, os⟩ :=
  ⟨Copied.pop_at (hsz := hz) (S.at (.head _)) hy fun h' hs ho => q h' ((S.tail.keepsBut (I := D) (fun b o hb e => (hs.2 b hb).trans e) (Ne.symm (S.N _ (.head _)).2.1) (S.N _ (.head _)).2.2 hn).add ho (S.N _ (.head _)).2.1 (S.N _ (.head _)).2.2) fun b o hb e => (hs.2 b hb).trans e⟩
end
end Mine
end
section
open PySem PySem.W PyProof.Rows PySem.Calls Builtin.ObjectAttr Builtin.Getset_descriptor
set_option Elab.async false
set_option maxRecDepth 100000
set_option maxHeartbeats 1000000
namespace Mine
noncomputable def bodyOf (w : World) : List Stmt := match (fdOf w 270).body with | .stmts b => b | _ => []
/-- what of the reader's dict stands after a run: the buffer -/
def Buf (w : World) (dx : Addr) (rest : Str) (h : Heap) : Prop := ∃ t₁ t₂ t₃ u₁ u, h.get? dx = some (odR w t₁ t₂ t₃ u₁ (.str rest u))
structure Sta0 (w : World) (b : Heap) (L S dx rd D : Addr) (outer : List Env) : Prop where
  W : Wd w b
  K : Kinds w b D
  x : b.get? rd = some (instObj 273 dx)
  n1 : b.get? dx = none
  n2 : b.get? S = none
  n3 : b.get? L = none
  n4 : ∀ a ∈ outsOf outer, b.get? a = none
  dL : dx ≠ L
  dS : dx ≠ S
  SL : S ≠ L
  o1 : dx ∉ outsOf outer
  o2 : S ∉ outsOf outer
  o3 : L ∉ outsOf outer
theorem Sta0.sta {w : World} {b : Heap} {L S dx rd D : Addr} {outer : List Env} (T : Sta0 w b L S dx rd D outer) {t₁ t₂ t₃ u₁ : Tok} {v : Value} : Sta w b L S dx rd D outer (odR w t₁ t₂ t₃ u₁ v) :=
  ⟨T.W, T.K, T.x, ⟨u₁, odR_e⟩, T.n1, T.n2, T.n3, T.n4, T.dL, T.dS, T.SL, T.o1, T.o2, T.o3⟩
theorem next_seg {w : World} {B : Around} {b : Heap} {L S dx rd D : Addr} {outer : List Env} {msgs : Nat → Msg} {buf data rest : Str} {ls : List Str} {ud : Tok} {s : Shared} {hc : Heap}
    (T : Sta0 w b L S dx rd D outer) (hB : B.frames = some outer) (hh : B.handled = none) (hroom : B.depth < 850)
    (hsp : Txt.split (buf ++ data) (Str.ofString "\n") = ls ++ [rest]) (hz : (buf ++ data).length ≤ 1000000) (hls : ls.length ≤ 1000)
    (hms : ∀ i l, ls[i]? = some l → l.length ≤ 10000 ∧ LineOk l (msgs i))
    (hF : s.heap.Ns L (lkp ns270 [some (.ref rd), some (.ref D), some (.str data ud), none, none, none, none])) (hd : Buf w dx buf s.heap) (hS : s.heap.get? S ≠ none) (hb : b.StaysIn s.heap) (hfr : s.heap.FunFrames {} outer) (hcs : hc.StaysIn s.heap) :
    SG w B (RR hc dx L outer (Buf w dx rest)) (YY w hc S dx L outer ls.length msgs) ls.length s (.func (bodyOf w) (genv w L)) ((MM w).den (.func (bodyOf w) (genv w L))) [] s := by
  have z : sizeLine = 16777216 := sizeLine_eq
  obtain ⟨t₁, t₂, t₃, u₁, ub, hd⟩ := hd
  obtain ⟨oS, hoS⟩ := Option.isSome_iff_exists.mp (Option.isSome_iff_ne_none.mpr hS)
  obtain ⟨h, g, d, t, os⟩ := s
  have bz : b.StaysIn (hideAll h [dx, S, L]) := fun c o e => by
    refine hideAll_get _ (hb _ _ e) fun q => ?_
    simp only [List.mem_cons, List.not_mem_nil, or_false] at q
    rcases q with rfl | rfl | rfl
    · rw [T.n1] at e; cases e
    · rw [T.n2] at e; cases e
    · rw [T.n3] at e; cases e
  have S₀ : St w (hideAll h [dx, S, L]) L h ns270 [some (.ref rd), some (.ref D), some (.str data ud), none, none, none, none] [(dx, odR w t₁ t₂ t₃ u₁ (.str buf ub)), (S, oS)] := by
    refine ⟨hF, fun c o e => of_hideAll _ e, hideAll_none _ (by simp), fun p hp => ?_, T.W.keeps bz⟩
    rcases List.mem_cons.mp hp with rfl | hp
    · exact ⟨hd, T.dL, hideAll_none _ (by simp)⟩
    · rw [List.mem_singleton.mp hp]
      exact ⟨hoS, T.SL, hideAll_none _ (by simp)⟩
  have hrd : (hideAll h [dx, S, L]).get? rd = some (instObj 273 dx) := bz _ _ T.x
  have ho : (B.over (.func (bodyOf w) (genv w L)) []).frames = some (genv w L :: outer) := by
    simp only [Around.over, hB]; rfl
  refine sg_func ?_
  refine sg_stmt (r_if (t_cmp (r_name S₀ 2 (q := r_cnone ⟨is_str_none (b_true (c_ff (r_nil ⟨rfl, ?_⟩)))⟩))))
  -- the lines
  have hbuf : buf.length ≤ 1000000 ∧ data.length ≤ 1000000 := by rw [Str.length_append] at hz; omega
  refine sg_stmt (r_asg (r_meth (r_bin (r_attr_of (r_name S₀ 0 (q := b_attr S₀.world ⟨S₀.keep _ _ hrd, S₀.at (.head _)⟩ (cls_273 w) (none_273 w).2 odR_b rfl fun _ => r_name S₀ 2 (q := b_add_str (by rw [← Str.length_append, z]; omega) fun _ _ => ?_)))))))
  refine m_str F.slot_str_split F.type_str_split (cwm1 kept_builtin (r_cstr fun _ _ => ⟨S₀.world, b_split S₀ nl_ne (by rw [z]; omega) fun l h₁ k₁ hl S₁ s₁ => ?_⟩))
  rw [hsp] at hl
  have hne : ∀ p ∈ [(dx, odR w t₁ t₂ t₃ u₁ (.str buf ub)), (S, oS)], p.1 ≠ h.objs.size := fun p hp => Nat.ne_of_lt (Heap.lt_size (S₀.N p hp).1)
  have hLs : L ≠ h.objs.size := Nat.ne_of_lt S₀.ltL
  have hos : ∀ a ∈ outsOf outer, a ≠ h.objs.size := fun a ha => by obtain ⟨_, o, e, _⟩ := hfr.mem ha; exact Nat.ne_of_lt (Heap.lt_size e)
  generalize hDl : h.objs.size = Dl at *
  refine r_store S₁ 3 (hi := by simp) (q := fun h₂ t₂' S₂ => ⟨rfl, ?_⟩)
  -- the pop
  have hll : l.length = ls.length + 1 := by have := congrArg List.length hl; simpa using this
  obtain ⟨l', lu, rfl⟩ : ∃ l' lu, l = l' ++ [lu] := by
    rcases List.eq_nil_or_concat l with rfl | ⟨l', lu, e⟩
    · simp at hll
    · exact ⟨l', lu, by simpa using e⟩
  have hl' : l'.map (·.1) = ls ∧ lu.1 = rest := by
    rw [List.map_append, List.map_cons, List.map_nil] at hl
    have := List.append_inj' hl rfl
    exact ⟨this.1, by simpa using this.2⟩
  obtain ⟨hl1, hl2⟩ := hl'
  have ev : (strValues (l' ++ [lu])).toArray = (strValues l').toArray.push (.str lu.1 lu.2) := by simp [strValues]
  rw [ev] at S₂
  have hl1' : l'.length = ls.length := by rw [← hl1, List.length_map]
  have esz : (strValues l').toArray.size = ls.length := by simp [strValues, hl1']
  refine sg_stmt (r_seta (r_meth (r_name S₂ 3 (q := m_pop (S₂.at (.head _)) rfl rfl (cwm0 kept_builtin ⟨S₂.world, b_pop S₂ hne (y := .str lu.1 lu.2) (by simp) (by rw [Array.size_push, esz, z]; omega) fun h₃ S₃ k₃ => ?_⟩)))))
  rw [Array.pop_push] at S₃
  refine r_name S₃ 0 (q := b_setattr2 S₃.world ⟨S₃.keep _ _ hrd, S₃.at (.tail _ (.head _))⟩ (cls_273 w) (taker_273 w) (by rw [odR_b]; rfl) (fun tk => by rw [odR_put]; exact odR_z) fun h₄ tk t₄ hd₄ k₄ => ⟨rfl, ?_⟩)
  rw [odR_put, hl2] at hd₄
  have hdS : dx ≠ S := T.dS
  have nDl : ∀ p ∈ [(dx, odR w t₁ t₂ t₃ u₁ (.str buf ub)), (S, oS)], p.1 ≠ Dl := hne
  have S₄ : St w (hideAll h [dx, S, L]) L h₄ ns270 [some (.ref rd), some (.ref D), some (.str data ud), some (.ref Dl), none, none, none] [(Dl, { cls := .type "list", data := .seq (strValues l').toArray (0 + 1) }), (dx, odR w t₁ t₂ t₃ u₁ (.str rest lu.2)), (S, oS)] := by
    refine ⟨?_, fun c o e => k₄ _ _ (fun e' => by rw [e', hideAll_none _ (by simp)] at e; cases e) (S₃.keep _ _ e), S₃.off, fun p hp => ?_, S₃.W⟩
    · exact (show h₄.Ns L _ from let ⟨o, es, ep, e, r⟩ := S₃.F; ⟨o, es, ep, k₄ _ _ (Ne.symm T.dL) e, r⟩)
    · rcases List.mem_cons.mp hp with rfl | hp
      · exact ⟨k₄ _ _ (Ne.symm (nDl _ (.head _))) (S₃.at (.head _)), (S₃.N _ (.head _)).2⟩
      rcases List.mem_cons.mp hp with rfl | hp
      · exact ⟨hd₄, T.dL, hideAll_none _ (by simp)⟩
      · rw [List.mem_singleton.mp hp]
        exact ⟨k₄ _ _ (Ne.symm T.dS) (S₃.at (.tail _ (.tail _ (.head _)))), T.SL, hideAll_none _ (by simp)⟩
  have il : h₄.IsList Dl (strValues l').toArray := ⟨_, S₄.at (.head _), rfl, _, rfl⟩
  refine sg_for (r_name S₄ 3 (q := ⟨wpAny_pyIter_list (s := ⟨h₄, g, d, t₄, os⟩) il fun p => ?_⟩))
  have up : ∀ c o, h₄.get? c = some o → (h₄.push { cls := .type "list_iterator", data := .fields #[.ref Dl, .int 0 0] }).get? c = some o := fun c o e => Heap.get?_push_of_some _ e
  have sz : ∀ c o, h₄.get? c = some o → h₄.objs.size ≠ c := fun c o e => Nat.ne_of_gt (Heap.lt_size e)
  have hos4 : ∀ a ∈ outsOf outer, ∀ o, h.get? a = some o → h₄.get? a = some o := by
    intro a ha o e
    refine S₄.keep _ _ (hideAll_get _ e ?_)
    simp only [List.mem_cons, List.not_mem_nil, or_false, not_or]
    exact ⟨fun e' => T.o1 (e' ▸ ha), fun e' => T.o2 (e' ▸ ha), fun e' => T.o3 (e' ▸ ha)⟩
  have iS : h₄.objs.size ≠ S := sz _ _ (S₄.at (.tail _ (.tail _ (.head _))))
  have id : h₄.objs.size ≠ dx := sz _ _ hd₄
  have iL : h₄.objs.size ≠ L := S₄.newL
  have io : h₄.objs.size ∉ outsOf outer := fun q => by obtain ⟨_, o, e, _⟩ := hfr.mem q; exact sz _ _ (hos4 _ q o e) rfl
  rw [← esz]
  refine turn (hc := hc) (rd := rd) (D := D) (Dl := Dl) (T.sta (t₁ := t₁) (t₂ := t₂) (t₃ := t₃) (u₁ := u₁) (v := .str rest lu.2)) ?_ ?_ ?_ ?_ ?_ ?_ ?_ ?_ _ 0 _ _ (Nat.sub_zero _) (Nat.zero_le _) ?_ ?_
  · intro i x hx
    have hx : (l'.map fun p => Value.str p.1 p.2)[i]? = some x := by simpa [strValues] using hx
    rw [List.getElem?_map] at hx
    cases hq : l'[i]? with
    | none => rw [hq] at hx; cases hx
    | some pr =>
      rw [hq] at hx
      cases hx
      have := hms i pr.1 (by rw [← hl1, List.getElem?_map, hq]; rfl)
      exact ⟨pr.1, pr.2, rfl, this⟩
  · simp only [Around.over, hB]; rfl
  · exact hh
  · show B.depth + 1 + 0 < 870
    omega
  · rfl
  · rfl
  · cases q : hc.get? h₄.objs.size with
    | none => rfl
    | some o => exact absurd (Heap.lt_size (S₄.keep _ _ (hideAll_get _ (hcs _ _ q) (by simp only [List.mem_cons, List.not_mem_nil, or_false, not_or]; exact ⟨id, iS, iL⟩)))) (Nat.lt_irrefl _)
  · exact fun s₀ s zz hdx => sg_over (sg_end (.ok (.ret .none)) ⟨rfl, rfl, zz, _, _, _, _, _, hdx⟩)
  · refine ⟨⟨_, _, _, _, _, let ⟨o, es, ep, e, r⟩ := S₄.F; ⟨o, es, ep, up _ _ e, r⟩⟩, ⟨_, Heap.get?_push_size _ rfl, rfl, rfl⟩, up _ _ hd₄, by rw [up _ _ (S₄.at (.tail _ (.tail _ (.head _))))]; simp, fun c o e => up _ _ (S₄.keep _ _ (bz _ _ e)), let ⟨o, e, r⟩ := il; ⟨o, up _ _ e, r⟩, ?_, ?_, ⟨id, iS, iL, io⟩, ⟨?_, ?_, ?_, ?_, ?_⟩⟩
    · exact funFrames_up (fun a ha o e _ => ⟨o, up _ _ (hos4 a ha o e), rfl⟩) hfr
    · exact fresh_of_stays (fun c o e => S₄.keep _ _ (bz _ _ e)) (get_size h₄)
    · exact (nDl _ (.head _)).symm
    · exact (nDl _ (.tail _ (.head _))).symm
    · exact hLs.symm
    · exact fun q => hos _ q rfl
    · exact (sz _ _ (S₄.at (.head _))).symm
  · refine ⟨⟨rfl, rfl, rfl⟩, fun c o n1 n2 n3 _ e => up _ _ ?_, fun a ha o e _ => ⟨o.slots, up _ _ (hos4 a ha o e)⟩⟩
    by_cases cS : c = S
    · subst cS
      have e : h.get? c = some o := e
      rw [hoS] at e; cases e
      exact S₄.at (.tail _ (.tail _ (.head _)))
    · exact S₄.keep _ _ (hideAll_get _ e (by simp only [List.mem_cons, List.not_mem_nil, or_false, not_or]; exact ⟨n1, cS, n2⟩))
end Mine
end
section
open PySem PySem.W PyProof.Rows PySem.Calls
set_option Elab.async false
set_option maxRecDepth 100000
set_option maxHeartbeats 1000000
namespace Mine
/-- a heap after some of the reader's work -/
structure Hp (hc : Heap) (dx L S : Addr) (outs : List Addr) (h h' : Heap) : Prop where
  keep : ∀ b o, b ≠ dx → b ≠ L → b ≠ S → b ∉ outs → (hc.get? b ≠ none ∨ o.cls ≠ .type "list_iterator") → h.get? b = some o → h'.get? b = some o
  fr : ∀ b ∈ outs, ∀ o, h.get? b = some o → (∀ vs, o.data ≠ .fields vs) → ∃ sl, h'.get? b = some { o with slots := sl }
theorem Hp.trans {hc : Heap} {dx L S : Addr} {outs : List Addr} {h h' h'' : Heap} (x : Hp hc dx L S outs h h') (y : Hp hc dx L S outs h' h'') : Hp hc dx L S outs h h'' :=
  ⟨fun b o h1 h2 h3 h4 h5 e => y.keep b o h1 h2 h3 h4 h5 (x.keep b o h1 h2 h3 h4 h5 e), fun b hb o e n => let ⟨_, e'⟩ := x.fr b hb o e n; let ⟨sl, e''⟩ := y.fr b hb _ e' n; ⟨sl, e''⟩⟩
theorem Hp.refl {hc : Heap} {dx L S : Addr} {outs : List Addr} {h : Heap} : Hp hc dx L S outs h h := ⟨fun _ _ _ _ _ _ _ e => e, fun _ _ o e _ => ⟨o.slots, e⟩⟩
theorem Snc.hp {hc : Heap} {dx L S : Addr} {outs : List Addr} {s s' : Shared} (x : Snc hc dx L outs s s') : Hp hc dx L S outs s.heap s'.heap := ⟨fun b o h1 h2 _ h4 h5 e => x.keep b o h1 h2 h4 h5 e, x.fr⟩
/-- what does not change of the generators but the one -/
def Gn (gi : Nat) (g₀ g : Array GenState) : Prop := g.size = g₀.size ∧ ∀ k, k ≠ gi → g[k]? = g₀[k]?
/-- the list and the generator between two items -/
structure Mid (w : World) (B : Around) (b hc : Heap) (a S dx L : Addr) (gi : Nat) (outer : List Env) (N : Nat) (msgs : Nat → Msg) (rest : Str) (g₀ : Array GenState) (d : Drawn) (os : OsState) (h₀ : Heap) (i : Nat) (acc : Array Value) (s : Shared) : Prop where
  lS : ∃ c, s.heap.get? S = some { cls := .type "list", dict := none, data := .seq acc c, slots := #[] }
  ln : acc.size = i
  lm : ∀ j v, acc[j]? = some v → MsgAt w (hideAll s.heap (dx :: S :: L :: outsOf outer)) v (msgs j)
  gen : s.heap.IsGen a gi
  bB : b.StaysIn s.heap
  gs : ∃ gs, s.gens[gi]? = some gs ∧ ∀ s'' : Shared, (∀ c o, c ≠ S → s.heap.get? c = some o → s''.heap.get? c = some o) → s''.heap.get? S ≠ none → gs.Goes (MM w) B (RR hc dx L outer (Buf w dx rest)) (YY w hc S dx L outer N msgs) (N - i) (.send .none) s''
  gg : Gn gi g₀ s.gens
  same : s.drawn = d ∧ s.os = os
  hp : Hp hc dx L S (outsOf outer) h₀ s.heap
def KeepN (h h' : Heap) : Prop := ∀ c o, o.cls ≠ .type "list_iterator" → h.get? c = some o → h'.get? c = some o
theorem lst_ne : Value.type "list" ≠ .type "list_iterator" := by decide
theorem odT_cls {w : World} {t₁ t₂ t₃ : Tok} {v₁ v₂ v₃ : Value} : (odT w t₁ t₂ t₃ v₁ v₂ v₃).cls = .type "dict" := by kernel_rfl
theorem odP_cls {w : World} {t₁ t₃ : Tok} {v₁ v₃ : Value} : (odP w t₁ t₃ v₁ v₃).cls = .type "dict" := by kernel_rfl
theorem Sent.keepsN {w : World} {h h' : Heap} {x : Addr} {ws : List Str} (k : KeepN h h') : ∀ {kk : Knd}, Sent w h x kk ws → Sent w h' x kk ws
  | .talk C ta ty, ⟨dx, t₁, t₂, t₃, u₁, u₂, Dn, I, ⟨c, l, e, r⟩⟩ => ⟨dx, t₁, t₂, t₃, u₁, u₂, Dn, ⟨k _ _ (by intro q; cases q) I.x, k _ _ (by rw [odT_cls]; decide) I.d⟩, ⟨c, l, k _ _ lst_ne e, r⟩⟩
  | .prop m, ⟨dx, t₁, t₃, u₁, Dn, I, ⟨c, l, e, r⟩⟩ => ⟨dx, t₁, t₃, u₁, Dn, ⟨k _ _ (by intro q; cases q) I.x, k _ _ (by rw [odP_cls]; decide) I.d⟩, ⟨c, l, k _ _ lst_ne e, r⟩⟩
theorem MsgAt.keepsN {w : World} {h h' : Heap} {v : Value} (k : KeepN h h') : ∀ {m : Msg}, MsgAt w h v m → MsgAt w h' v m
  | .sent _ _, ⟨f, x, e, S⟩ => ⟨f, x, e, S.keepsN k⟩
  | .bad, ⟨x, o, e, ho, c⟩ => ⟨x, o, e, k _ _ (by rw [c]; intro q; cases q) ho, c⟩
theorem Hp.hideN {hc : Heap} {dx L S : Addr} {outs : List Addr} {h h' : Heap} (x : Hp hc dx L S outs h h') : KeepN (hideAll h (dx :: S :: L :: outs)) (hideAll h' (dx :: S :: L :: outs)) := fun c o n e => by
  have nc : c ∉ dx :: S :: L :: outs := fun q => by rw [hideAll_none _ q] at e; cases e
  refine hideAll_get _ ?_ nc
  simp only [List.mem_cons, not_or] at nc
  exact x.keep c o nc.1 nc.2.2.1 nc.2.1 nc.2.2.2 (.inr n) (of_hideAll _ e)
section
variable {w : World} {A : Around} {R : Result → Shared → Prop} {b hc h₀ : Heap} {a S dx L : Addr} {gi N : Nat} {outer : List Env} {msgs : Nat → Msg} {rest : Str} {g₀ : Array GenState} {d : Drawn} {os : OsState}
theorem ext_loop {res : Value} (W : Wd w b) (hbc : b.StaysIn hc) (hh : A.handled = none) (hroom : A.depth < 900) (bn : ∀ c ∈ dx :: S :: L :: outsOf outer, b.get? c = none) (ha : a ≠ dx ∧ a ≠ L ∧ a ≠ S ∧ a ∉ outsOf outer) (hS : S ≠ dx ∧ S ≠ L ∧ S ∉ outsOf outer) (hN : N ≤ 1000)
    (hR : ∀ h' tk gens' acc' c', gens'[gi]? = some .finished → Gn gi g₀ gens' → h'.get? S = some { cls := .type "list", dict := none, data := .seq acc' c', slots := #[] } → acc'.size = N → (∀ j v, acc'[j]? = some v → MsgAt w (hideAll h' (dx :: S :: L :: outsOf outer)) v (msgs j)) →
      b.StaysIn h' → Hp hc dx L S (outsOf outer) h₀ h' → Buf w dx rest h' → R (.ok (.ret res)) ⟨h', gens', d, tk, os⟩) :
    ∀ (k i : Nat) (acc : Array Value) (s : Shared), N - i = k → i ≤ N → Mid w A.in1.in1 b hc a S dx L gi outer N msgs rest g₀ d os h₀ i acc s →
      codeAny (MM w) A (.builtin "list.extend.loop" ⟨[.ref S, .ref a, res], []⟩) R s := by
  have setg : ∀ (gs : Array GenState) (s : Shared) (x y : GenState), s.gens[gi]? = some x → (s.setGen gi y).gens[gi]? = some y := fun _ s x y e => setGen_self e
  have gn : ∀ (s : Shared) (y : GenState), Gn gi g₀ s.gens → Gn gi g₀ (s.setGen gi y).gens := fun s y z => ⟨by simp [Shared.setGen, z.1], fun k hk => by simp [Shared.setGen, Ne.symm hk, z.2 k hk]⟩
  intro k
  induction k with
  | zero =>
    intro i acc s hk hi M
    have hin : i = N := by omega
    subst hin
    obtain ⟨gs, hgs, hgo⟩ := M.gs
    obtain ⟨c, hSl⟩ := M.lS
    refine codeAny_builtin F.entry_extend_loop ?_
    rw [Around.under_plainId F.plain_extend_loop _]
    show wpAny _ A.in1 (pyNext (.ref a) >>= _) _ _ s
    have hgo' := hgo (s.setGen gi .running) (fun c o _ e => e) (by show s.heap.get? S ≠ none; rw [hSl]; simp)
    refine wpAny_bind (wpAny_pyNext_gen (P := fun n s₀ s => n = 0 ∧ Snc hc dx L (outsOf outer) s₀ s ∧ Buf w dx rest s.heap) hh (W.nolimit.keeps M.bB) (Nat.lt_trans hroom (by decide)) M.gen hgs hgo' (fun v s₁ gs' hv => ?_) fun s₁ hp h' k' => ?_)
    · have e0 : i - i = 0 := by omega
      rw [e0] at hv
      have sS : s₁.heap.get? S = _ := hv.2.1.keep _ _ hS.1 hS.2.1 hS.2.2 (.inr lst_ne) hSl
      exact (hv.2.2 s₁ (fun c o _ e => e) (by rw [sS]; simp)).elim
    · obtain ⟨_, sn, bf⟩ := hp
      have up : Hp hc dx L S (outsOf outer) s.heap h' := Hp.trans (h' := s₁.heap) (Snc.hp (s := s.setGen gi .running) sn) ⟨fun c o _ _ _ _ _ e => k' _ _ e, fun c _ o e _ => ⟨o.slots, k' _ _ e⟩⟩
      have eg : (s₁.setGen gi .finished).gens[gi]? = some .finished := by
        have : s₁.gens[gi]? = some .running := by rw [sn.same.1]; exact setg #[] s _ _ hgs
        exact setg #[] s₁ _ _ this
      have lS' : h'.get? S = some { cls := .type "list", dict := none, data := .seq acc c, slots := #[] } := k' _ _ (sn.keep _ _ hS.1 hS.2.1 hS.2.2 (.inr lst_ne) hSl)
      have fin := hR h' s₁.toks _ acc c eg (gn s₁ .finished (by rw [sn.same.1]; exact gn s _ M.gg)) lS' M.ln (fun j v e => (M.lm j v e).keepsN up.hideN) (fun c o e => up.keep c o (fun q => by rw [q, bn _ (by simp)] at e; cases e) (fun q => by rw [q, bn _ (by simp)] at e; cases e) (fun q => by rw [q, bn _ (by simp)] at e; cases e) (fun q => by rw [bn _ (by simp [q])] at e; cases e) (.inl (by rw [hbc _ _ e]; simp)) (M.bB _ _ e)) (M.hp.trans up) (let ⟨t₁, t₂, t₃, u₁, u, e⟩ := bf; ⟨t₁, t₂, t₃, u₁, u, k' _ _ e⟩)
      have e1 : s₁.drawn = d := sn.same.2.1.trans M.same.1
      have e2 : s₁.os = os := sn.same.2.2.trans M.same.2
      subst e1 e2
      exact wpAny_pure fin
  | succ k ih =>
    intro i acc s hk hi M
    have hlt : i < N := by omega
    obtain ⟨gs, hgs, hgo⟩ := M.gs
    obtain ⟨c, hSl⟩ := M.lS
    obtain ⟨m, hm⟩ : ∃ m, N - i = m + 1 := ⟨k, hk⟩
    rw [hm] at hgo
    refine codeAny_builtin F.entry_extend_loop ?_
    rw [Around.under_plainId F.plain_extend_loop _]
    show wpAny _ A.in1 (pyNext (.ref a) >>= _) _ _ s
    have hgo' := hgo (s.setGen gi .running) (fun c o _ e => e) (by show s.heap.get? S ≠ none; rw [hSl]; simp)
    refine wpAny_bind (wpAny_pyNext_gen (P := fun n s₀ s => n = 0 ∧ Snc hc dx L (outsOf outer) s₀ s ∧ Buf w dx rest s.heap) hh (W.nolimit.keeps M.bB) (Nat.lt_trans hroom (by decide)) M.gen hgs hgo' (fun v s₁ gs' hv => ?_) fun s₁ hp h' k' => absurd hp.1 (Nat.succ_ne_zero m))
    obtain ⟨⟨i', ei, hmsg⟩, sn, hkap⟩ := hv
    have ei : i' = i := by omega
    subst ei
    have up1 : Hp hc dx L S (outsOf outer) s.heap s₁.heap := Snc.hp (s := s.setGen gi .running) sn
    have hS' : (s₁.setGen gi gs').heap.get? S = some { cls := .type "list", dict := none, data := .seq acc c, slots := #[] } := sn.keep _ _ hS.1 hS.2.1 hS.2.2 (.inr lst_ne) hSl
    show wpAny _ A.in1 (updateSeq S (·.push v) >>= _) _ _ _
    refine wpAny_bind (wpAny_updateSeq hS' rfl (wpAny_pure ⟨plainId_quiet F.plain_extend_loop _, ih (i' + 1) (acc.push v) _ (by omega) hlt ?_⟩) (by rw [M.ln, sizeLine_eq]; omega) (by show (acc.push v).size ≤ sizeLine + 1; rw [Array.size_push, M.ln, sizeLine_eq]; omega))
    have oth : ∀ c o, c ≠ S → s₁.heap.get? c = some o → (s₁.heap.update S (Obj.mapSeq (·.push v))).get? c = some o := fun c o n e => (Heap.get?_update_other _ _ (Ne.symm n)).trans e
    have selfS := Heap.get?_update_self (Obj.mapSeq (·.push v)) hS' rfl
    have up2 : Hp hc dx L S (outsOf outer) s₁.heap (s₁.heap.update S (Obj.mapSeq (·.push v))) := ⟨fun c o _ _ n _ _ e => oth _ _ n e, fun c hc o e _ => ⟨o.slots, oth _ _ (fun q => hS.2.2 (q ▸ hc)) e⟩⟩
    refine ⟨⟨_, selfS⟩, by rw [Array.size_push, M.ln], fun j x e => ?_, ?_, ?_, ⟨gs', setg #[] s₁ .running _ (by rw [sn.same.1]; exact setg #[] s _ _ hgs), fun s'' kk hs'' => ?_⟩, gn s₁ gs' (by rw [sn.same.1]; exact gn s _ M.gg), ⟨sn.same.2.1.trans M.same.1, sn.same.2.2.trans M.same.2⟩, M.hp.trans (up1.trans up2)⟩
    · rw [Array.getElem?_push] at e
      split at e
      · rename_i ej
        cases e
        rw [ej, M.ln]
        exact hmsg.keepsN up2.hideN
      · exact (M.lm j x e).keepsN (fun c o n e => up2.hideN c o n (up1.hideN c o n e))
    · obtain ⟨o, nm, qn, e, c1, c2⟩ := M.gen
      exact ⟨o, nm, qn, oth _ _ ha.2.2.1 (sn.keep _ _ ha.1 ha.2.1 ha.2.2.2 (.inr (by rw [c1]; decide)) e), c1, c2⟩
    · exact fun c o e => oth _ _ (fun q => by rw [q, bn _ (by simp)] at e; cases e) (sn.keep c o (fun q => by rw [q, bn _ (by simp)] at e; cases e) (fun q => by rw [q, bn _ (by simp)] at e; cases e) (fun q => by rw [bn _ (by simp [q])] at e; cases e) (.inl (by rw [hbc _ _ e]; simp)) (M.bB _ _ e))
    · have e : N - (i' + 1) = m := by omega
      rw [e]
      exact hkap s'' (fun c o n e => kk c o n (oth _ _ n e)) hs''
end
end Mine
end
section
open PySem PySem.W PyProof.Rows PySem.Calls
set_option Elab.async false
set_option maxRecDepth 100000
set_option maxHeartbeats 1000000
namespace Mine
/-- what list() of the reader's generator leaves -/
structure Out (w : World) (b hc h₀ : Heap) (S dx L : Addr) (gi : Nat) (outer : List Env) (N : Nat) (msgs : Nat → Msg) (rest : Str) (g₀ : Array GenState) (h' : Heap) (gens' : Array GenState) : Prop where
  fin : gens'[gi]? = some .finished
  gn : Gn gi g₀ gens'
  lst : ∃ acc' c', h'.get? S = some { cls := .type "list", dict := none, data := .seq acc' c', slots := #[] } ∧ acc'.size = N ∧ ∀ j v, acc'[j]? = some v → MsgAt w (hideAll h' (dx :: S :: L :: outsOf outer)) v (msgs j)
  bs : b.StaysIn h'
  hp : Hp hc dx L S (outsOf outer) h₀ h'
  bf : Buf w dx rest h'
structure Drn (w : World) (B : Around) (b hc : Heap) (a S dx L : Addr) (gi : Nat) (outer : List Env) (N : Nat) (msgs : Nat → Msg) (rest : Str) : Prop where
  W : Wd w b
  hbc : b.StaysIn hc
  hh : B.handled = none
  hroom : B.depth < 850
  bn : ∀ c ∈ dx :: S :: L :: outsOf outer, b.get? c = none
  ha : a ≠ dx ∧ a ≠ L ∧ a ≠ S ∧ a ∉ outsOf outer
  hS : S ≠ dx ∧ S ≠ L ∧ S ∉ outsOf outer
  hN : N ≤ 1000
section
variable {w : World} {A : Around} {b hc h₀ : Heap} {a S dx L : Addr} {gi N : Nat} {outer : List Env} {msgs : Nat → Msg} {rest : Str} {g₀ : Array GenState} {d : Drawn} {os : OsState}
theorem ext_gen {R : Result → Shared → Prop} {res : Value} {h : Heap} {tk : Tok} {c₀ : Nat} {gs : GenState} (D : Drn w A.in1.in1 b hc a S dx L gi outer N msgs rest)
    (gen : h.IsGen a gi) (hS : h.get? S = some { cls := .type "list", data := .seq #[] c₀ }) (hgs : g₀[gi]? = some gs)
    (hgo : ∀ s'' : Shared, (∀ c o, c ≠ S → h.get? c = some o → s''.heap.get? c = some o) → s''.heap.get? S ≠ none → gs.Goes (MM w) A.in1.in1 (RR hc dx L outer (Buf w dx rest)) (YY w hc S dx L outer N msgs) N (.send .none) s'')
    (bB : b.StaysIn h) (h0 : Hp hc dx L S (outsOf outer) h₀ h)
    (hR : ∀ h' gens' tk', Out w b hc h₀ S dx L gi outer N msgs rest g₀ h' gens' → R (.ok (.ret res)) ⟨h', gens', d, tk', os⟩) :
    wpAny (MM w) A.in1 (Builtin.List.listExtendWith (.ref S) (.ref a) res)
      (fun fin s' => match fin with | .done f => R (.ok f) s' | .again c' => c'.quiet = true ∧ codeAny (MM w) A c' R s') (fun e s' => R (.error e) s') ⟨h, g₀, d, tk, os⟩ := by
  have hT : Shared.TypeIs ⟨h, g₀, d, tk, os⟩ (.ref a) "generator" := gen.typeIs
  unfold Builtin.List.listExtendWith
  refine wpAny_bind (wpAny_typeOf hT ?_)
  have h1 : Builtin.List.listSameRef (.ref S) (.ref a) = false := by simp [Builtin.List.listSameRef, Ne.symm D.ha.2.2.1]
  have h2 : (Value.type "generator" == Value.type "list") = false := by decide
  have h3 : (Value.type "generator" == Value.type "tuple") = false := by decide
  simp only [h1, h2, h3, Bool.or_false, Bool.false_eq_true, if_false]
  refine wpAny_bind (wpAny_pyIter_gen gen ?_)
  refine wpAny_bind (wpAny_holding ?_)
  unfold Builtin.List.listLengthHint
  refine wpAny_bind (wpAny_specialOf hT F.gen_no_len ?_)
  show wpAny _ A.in1 (specialOf (Value.ref a) (Str.ofString "__length_hint__") >>= _) _ _ _
  refine wpAny_bind (wpAny_specialOf hT F.gen_no_hint ?_)
  refine wpAny_pure ?_
  show wpAny _ A.in1 (rule "list.extend.makes-room" >>= fun _ => Builtin.List.listTouch (.ref S) >>= fun _ =>
    again (.builtin "list.extend.loop" ⟨[.ref S, .ref a, res], []⟩)) _ _ _
  refine wpAny_bind (wpAny_rule ?_)
  refine wpAny_bind ?_
  show wpAny _ A.in1 (updateSeq S (·.push .none) >>= fun _ => updateSeq S (·.pop)) _ _ _
  refine wpAny_bind (wpAny_updateSeq hS rfl ?_)
  have hS₂ := Heap.get?_update_self (Obj.mapSeq (·.push Value.none)) hS rfl
  refine wpAny_updateSeq (hz := by seq_fits) hS₂ rfl ?_
  have hS₃ := Heap.get?_update_self (Obj.mapSeq (·.pop)) hS₂ rfl
  have oth : ∀ b o, b ≠ S → h.get? b = some o → ((h.update S (Obj.mapSeq (·.push Value.none))).update S (Obj.mapSeq (·.pop))).get? b = some o :=
    fun b o hb e => (Heap.get?_update_other _ _ (Ne.symm hb)).trans ((Heap.get?_update_other _ _ (Ne.symm hb)).trans e)
  refine wpAny_pure ⟨plainId_quiet F.plain_extend_loop _, ext_loop (A := A) (h₀ := h₀) (g₀ := g₀) (d := d) (os := os) D.W D.hbc (show A.handled = none from D.hh) (Nat.lt_trans (show A.depth < 850 from D.hroom) (by decide)) D.bn D.ha D.hS D.hN (fun h' tk' gens' acc' c' e1 e2 e3 e4 e5 e6 e7 e8 => hR h' gens' tk' ⟨e1, e2, ⟨acc', c', e3, e4, e5⟩, e6, e7, e8⟩) N 0 #[] _ rfl (Nat.zero_le _) ?_⟩
  refine ⟨⟨_, hS₃⟩, rfl, fun j v e => by simp at e, ?_, ?_, ⟨gs, hgs, fun s'' k hs => ?_⟩, ⟨rfl, fun _ _ => rfl⟩, ⟨rfl, rfl⟩, h0.trans ⟨fun c o _ _ n _ _ e => oth _ _ n e, fun c hc o e _ => ⟨o.slots, oth _ _ (fun q => D.hS.2.2 (q ▸ hc)) e⟩⟩⟩
  · obtain ⟨o, nm, qn, e, c1, c2⟩ := gen
    exact ⟨o, nm, qn, oth _ _ D.ha.2.2.1 e, c1, c2⟩
  · exact fun c o e => oth _ _ (fun q => by rw [q, D.bn _ (by simp)] at e; cases e) (bB _ _ e)
  · exact hgo s'' (fun c o n e => k c o n (oth _ _ n e)) hs
theorem list_init_own {R : Result → Shared → Prop} {h : Heap} {tk : Tok} {gs : GenState} (D : Drn w A.in1.in1 b hc a S dx L gi outer N msgs rest)
    (gen : h.IsGen a gi) (hS : h.get? S = some { cls := .type "list", data := .seq #[] }) (hgs : g₀[gi]? = some gs)
    (hgo : ∀ s'' : Shared, (∀ c o, c ≠ S → h.get? c = some o → s''.heap.get? c = some o) → s''.heap.get? S ≠ none → gs.Goes (MM w) A.in1.in1 (RR hc dx L outer (Buf w dx rest)) (YY w hc S dx L outer N msgs) N (.send .none) s'')
    (bB : b.StaysIn h) (h0 : Hp hc dx L S (outsOf outer) h₀ h)
    (hR : ∀ h' gens' tk', Out w b hc h₀ S dx L gi outer N msgs rest g₀ h' gens' → R (.ok (.ret .none)) ⟨h', gens', d, tk', os⟩) :
    wpAny (MM w) A.in1 (Builtin.«list.__init__» ⟨[.ref S, .ref a], []⟩)
      (fun fin s' => match fin with | .done f => R (.ok f) s' | .again c' => c'.quiet = true ∧ codeAny (MM w) A c' R s') (fun e s' => R (.error e) s') ⟨h, g₀, d, tk, os⟩ := by
  show wpAny _ A.in1 (do let old ← Builtin.List.listItems (.ref S); Builtin.List.listUpdate (.ref S) (fun _ => #[]); letGo old.toList.reverse; Builtin.List.listExtendWith (.ref S) (.ref a) .none) _ _ _
  refine wpAny_bind ?_
  unfold Builtin.List.listItems
  refine wpAny_bind (wpAny_seqItems hS rfl (wpAny_pure ?_))
  show wpAny _ A.in1 (updateSeq S (fun _ => #[]) >>= fun _ => letGo (#[] : Array Value).toList.reverse >>= fun _ => Builtin.List.listExtendWith (.ref S) (.ref a) .none) _ _ _
  refine wpAny_bind (wpAny_updateSeq hS rfl ?_)
  have hS₂ := Heap.get?_update_self (Obj.mapSeq (fun _ => (#[] : Array Value))) hS rfl
  have oth : ∀ b o, b ≠ S → h.get? b = some o → (h.update S (Obj.mapSeq (fun _ => (#[] : Array Value)))).get? b = some o :=
    fun b o hb e => (Heap.get?_update_other _ _ (Ne.symm hb)).trans e
  refine wpAny_bind (wpAny_letGo ?_)
  refine ext_gen D (by obtain ⟨o, nm, qn, e, c1, c2⟩ := gen; exact ⟨o, nm, qn, oth _ _ D.ha.2.2.1 e, c1, c2⟩) hS₂ hgs (fun s'' k hs => hgo s'' (fun c o n e => k c o n (oth _ _ n e)) hs) (fun c o e => oth _ _ (fun q => by rw [q, D.bn _ (by simp)] at e; cases e) (bB _ _ e))
    (h0.trans ⟨fun c o _ _ n _ _ e => oth _ _ n e, fun c hc o e _ => ⟨o.slots, oth _ _ (fun q => D.hS.2.2 (q ▸ hc)) e⟩⟩) hR
theorem call_list_own {Q : Value → Shared → Prop} {E : Value → Shared → Prop} {h : Heap} {tk : Tok} {gs : GenState} (D : Drn w A.in1.in1.in1 b hc a h.objs.size dx L gi outer N msgs rest)
    (gen : h.IsGen a gi) (hgs : g₀[gi]? = some gs)
    (hgo : ∀ s'' : Shared, (∀ c o, h.get? c = some o → s''.heap.get? c = some o) → s''.heap.get? h.objs.size ≠ none → gs.Goes (MM w) A.in1.in1.in1 (RR hc dx L outer (Buf w dx rest)) (YY w hc h.objs.size dx L outer N msgs) N (.send .none) s'')
    (bB : b.StaysIn h)
    (hQ : ∀ h' gens' tk', Out w b hc h h.objs.size dx L gi outer N msgs rest g₀ h' gens' → Q (.ref h.objs.size) ⟨h', gens', d, tk', os⟩) :
    WP w A (call (.type "list") [.ref a]) Q E ⟨h, g₀, d, tk, os⟩ := by
  refine ⟨callType_codes (Q₁ := fun obj s₁ => obj = .ref h.objs.size ∧ s₁ = ⟨h.push { cls := .type "list", data := .seq #[] }, g₀, d, tk, os⟩) F.called_list (F.typeCall_list_1 _) F.entry_list_init
    (code_list_new _ ⟨rfl, rfl⟩) fun obj s₁ h₁ => ?_⟩
  obtain ⟨rfl, rfl⟩ := h₁
  have hS : (h.push { cls := .type "list", data := .seq #[] }).get? h.objs.size = some { cls := .type "list", data := .seq #[] } := Heap.get?_push_size _ rfl
  have st : h.StaysIn (h.push { cls := .type "list", data := .seq #[] }) := fun c o e => Heap.get?_push_of_some _ e
  refine ⟨⟨_, hS, rfl⟩, F.args_list_init_2 _ _, list_init_own (h₀ := h) D (by obtain ⟨o, nm, qn, e, c1, c2⟩ := gen; exact ⟨o, nm, qn, st _ _ e, c1, c2⟩) hS hgs
    (fun s'' k hs => hgo s'' (fun c o e => k c o (fun q => Nat.lt_irrefl _ (q ▸ Heap.lt_size e)) (st _ _ e)) hs) (fun c o e => st _ _ (bB _ _ e))
    ⟨fun c o _ _ _ _ _ e => st _ _ e, fun c _ o e _ => ⟨o.slots, st _ _ e⟩⟩ fun h' gens' tk' O => ⟨rfl, hQ h' gens' tk' O⟩⟩
end
end Mine
end
section
open PySem PySem.W PyProof.Rows PySem.Calls
set_option Elab.async false
set_option maxRecDepth 100000
set_option maxHeartbeats 1000000
namespace Mine
noncomputable def nm270 : List Str := [Str.ofString "self", Str.ofString "kinds", Str.ofString "data"]
theorem look_263 (w : World) : (KK w).lookup 263 = some { cls := .type "tuple", data := .seq #[.none] } := by kernel_rfl
theorem binds_270 {w : World} {a b c : Value} {s : Shared} (X : (KK w).In s.heap) : BindsTo s (fdOf w 270) ⟨[a, b, c], []⟩ (nm270.zip [a, b, c]) :=
  binds_by (names := nm270) (by kernel_rfl) (by kernel_rfl) (by kernel_rfl) (by kernel_rfl) (by kernel_rfl) (T := 263) (by kernel_rfl) (X _ _ (look_263 w)) rfl (by simp [nm270]) rfl (by kernel_rfl) (by kernel_rfl)
theorem body_270 (w : World) : (fdOf w 270).body = .stmts (bodyOf w) := by kernel_rfl
theorem gen_270 (w : World) : (fdOf w 270).scope.isGenerator = true ∧ (fdOf w 270).scope.isCoroutine = false ∧ (fdOf w 270).scope.kind = .function := ⟨by kernel_rfl, by kernel_rfl, by kernel_rfl⟩
theorem code_270 (w : World) : codeIn (KK w) (fdOf w 270).code (fdOf w 270).qualname = true := by kernel_rfl
theorem cell_270 (w : World) : ((fdOf w 270).scope.names.all fun x => x.2 != .cell) = true := by kernel_rfl
theorem loc_270 (w : World) (a b c : Value) : ((nm270.zip [a, b, c]).all fun y => (fdOf w 270).scope.names.lookup y.1 == some .local) = true := by kernel_rfl
theorem vs_270 (a b c : Value) : ∀ x, (nm270.zip [a, b, c]).reverse.lookup x = lkp ns270 [some a, some b, some c, none, none, none, none] x := lkp_of (n := 4) (lookup_rev (l := nm270) rfl (by decide +kernel)) (by kernel_rfl)
section
variable {w : World} {A : Around} {h b : Heap} {g : Array GenState} {d : Drawn} {t : Nat} {os : OsState}
/-- the reader's method makes a generator, and walks nothing -/
theorem new_gen0 {oc : Value} {od : Option Addr} {osl : Array (Option Value)} (lk : (KK w).lookup 270 = some ⟨oc, od, .func (fdOf w 270), osl⟩) {Q : Value → Shared → Prop} {va vb vc : Value} (W : Wd w b) (hroom : A.depth < recursionLimit) (hbh : b.StaysIn h)
    (q : ∀ h₁ t', h₁.Ns h.objs.size (lkp ns270 [some va, some vb, some vc, none, none, none, none]) → h.StaysIn h₁ → h₁.IsGen (h.objs.size + 1) g.size → h₁.objs.size = h.objs.size + 2 →
      Q (.ref (h.objs.size + 1)) ⟨h₁, g.push (.fresh (.func (bodyOf w) (genv w h.objs.size))), d, t', os⟩) :
    CC w A (.call (.ref 270) ⟨[va, vb, vc], []⟩) (RQ Q) ⟨h, g, d, t, os⟩ := by
  have Wh := W.keeps hbh
  refine ⟨codeAny_call_generator (fd := fdOf w 270) hroom (Wh.X _ _ lk) rfl (gen_270 w).2.1 (gen_270 w).1 (body_270 w) (codeRec_of Wh.X (code_270 w)) (binds_270 Wh.X _ _ _ _ ?_)⟩
  refine wpAny_newFunctionEnv (fun x hx => by simpa using List.all_eq_true.mp (cell_270 w) x hx) (fun x hx => by simpa using List.all_eq_true.mp (loc_270 w va vb vc) x hx) (fun h₀ hns₀ hsb₀ => ⟨Wh.nolimit.fresh _ hsb₀, ?_⟩) (gen_270 w).2.2
  have hn : h₀.Ns h.objs.size (lkp ns270 [some va, some vb, some vc, none, none, none, none]) := by
    have e : (fun x => (nm270.zip [va, vb, vc]).reverse.lookup x) = lkp ns270 [some va, some vb, some vc, none, none, none, none] := funext (vs_270 va vb vc)
    rw [← e]; exact hns₀
  have sz : h₀.objs.size = h.objs.size + 1 := by rw [hsb₀.1]; exact Heap.size_push ..
  have st : h.StaysIn h₀ := fun c o e => hsb₀.extBut c o (Nat.ne_of_lt (Heap.lt_size e)) (Heap.get?_push_of_some _ e)
  show RQ Q (.ok (.ret (.ref h₀.objs.size))) _
  rw [sz]
  refine q _ _ (let ⟨o, es, ep, e, r⟩ := hn; ⟨o, es, ep, Heap.get?_push_of_some _ e, r⟩) (fun c o e => Heap.get?_push_of_some _ (st _ _ e)) ?_ (by rw [Heap.size_push, sz])
  exact ⟨_, _, _, by rw [← sz]; exact Heap.get?_push_size _ rfl, rfl, rfl, rfl⟩
end
end Mine
end
section
open PySem PySem.W PyProof.Rows PySem.Calls Builtin.ObjectAttr Builtin.Getset_descriptor
set_option Elab.async false
set_option maxRecDepth 100000
set_option maxHeartbeats 1000000
namespace Mine
noncomputable def nm262 : List Str := [Str.ofString "self", sS, sE]
theorem look_255 (w : World) : (KK w).lookup 255 = some { cls := .type "tuple", data := .seq #[.none, .str (Str.ofString "raise") 687] } := by kernel_rfl
theorem look_247 (w : World) : (KK w).lookup 247 = some { cls := .type "tuple", data := .seq (strValues [(Str.ofString "raise", 671), (Str.ofString "yield", 672), (Str.ofString "ignore", 673)]).toArray } := by kernel_rfl
theorem n_errors (w : World) : nsIn (KK w) mainGlobals (Str.ofString "ERRORS") = some (some (.ref 247)) := by kernel_rfl
theorem binds_262 {w : World} {a b c : Value} {s : Shared} (X : (KK w).In s.heap) : BindsTo s (fdOf w 262) ⟨[a, b, c], []⟩ (nm262.zip [a, b, c]) :=
  binds_by (names := nm262) (by kernel_rfl) (by kernel_rfl) (by kernel_rfl) (by kernel_rfl) (by kernel_rfl) (T := 255) (by kernel_rfl) (X _ _ (look_255 w)) rfl (by simp [nm262]) rfl (by kernel_rfl) (by kernel_rfl)
theorem takers_273 (w : World) : takerIn (KK w) 273 sE = some none ∧ takerIn (KK w) 273 sS = some none ∧ takerIn (KK w) 273 sB = some none := ⟨by kernel_rfl, by kernel_rfl, by kernel_rfl⟩
theorem makes_273 (w : World) : makesIn (KK w) 273 = true := by kernel_rfl
theorem init_273 (w : World) : findIn (KK w) (.ref 273) "__init__" = some (some (.ref 262)) := by kernel_rfl
theorem fn_262 (w : World) : typeIn (KK w) (.ref 262) = some (.type "function") := by kernel_rfl
theorem yield_in : ([(Str.ofString "raise", 671), (Str.ofString "yield", 672), (Str.ofString "ignore", 673)].map (·.1)).any (· == Str.ofString "yield") = true := by decide +kernel
section
variable {w : World} {A : Around} {E : Value → Shared → Prop} {h b : Heap} {g : Array GenState} {d : Drawn} {t : Nat} {os : OsState} {x dx : Addr} {Q : Value → Shared → Prop}
theorem b_notin {tp : Addr} {items : Array Value} {ys : List Str} {y : Str} {u : Tok} {s : Shared} (ht : IsTup s.heap tp items) (hi : StrsAre items.toList ys) (q : Q (.bool (!(ys.any (· == y)))) s) : WP w A (compareOp .NotIn (.str y u) (.ref tp)) Q E s := ⟨notin_tuple_strs ht hi q⟩
theorem init_262 {u : Tok} (W : Wd w b) (hroom : A.depth < 950) (hbh : b.StaysIn h) (hbz : b.objs.size ≤ h.objs.size) (I : At h x 273 dx emptyDict) (hxd : x ≠ dx) (hbx : b.get? x = none) (hbd : b.get? dx = none)
    (q : ∀ h' t₁ t₂ t₃ u' k, b.StaysIn h' → At h' x 273 dx (odR w t₁ t₂ t₃ u (.str (Str.ofString "") u')) → Q .none ⟨h', g, d, k, os⟩) :
    CC w A (.call (.ref 262) ⟨[.ref x, .none, .str (Str.ofString "yield") u], []⟩) (RQ Q) ⟨h, g, d, t, os⟩ := by
  refine enterB (b := b) (nw := [(x, instObj 273 dx), (dx, emptyDict)]) (ns := nm262) (vs := [some (.ref x), some .none, some (.str (Str.ofString "yield") u)]) (binds := nm262.zip [.ref x, .none, .str (Str.ofString "yield") u]) W (Nat.lt_trans hroom (by decide)) hbh
    (fun p hp => by rcases List.mem_cons.mp hp with rfl | hp; exact ⟨I.x, hbx⟩; rcases List.mem_cons.mp hp with rfl | hp; exact ⟨I.d, hbd⟩; cases hp)
    rfl (by kernel_rfl) rfl (binds_262 (W.keeps hbh).X) (by kernel_rfl) (by kernel_rfl) (lkp_of (n := 0) (lookup_rev (l := nm262) rfl (by decide +kernel)) (by kernel_rfl)) (fun h₁ k S => ?_) (by kernel_rfl) (by kernel_rfl) (by kernel_rfl)
  obtain ⟨T1, T2, T3⟩ := takers_273 w
  refine r_cons (r_if (t_cmp (r_name S 2 (q := r_glob S (n_errors w) (b_notin ⟨_, S.world.X _ _ (look_247 w), rfl, _, rfl⟩ (strsAre_of_values _) (b_true ?_))))))
  rw [yield_in]
  refine c_ff (r_nil ?_)
  refine r_cons (r_seta (r_name S 2 (q := r_name S 0 (q := ?_))))
  refine b_setattr [(x, _)] [] S hbz ⟨S.at (.head _), S.at (.tail _ (.head _))⟩ (cls_273 w) T1 (by kernel_rfl) (fun p hp => by rw [List.mem_singleton.mp hp]; exact hxd) (fun _ hp => nomatch hp) (fun _ => ⟨[_], _, rfl, by simp⟩) fun h₂ t₁ _ S => ?_
  refine r_cons (r_seta (r_name S 1 (q := r_name S 0 (q := ?_))))
  refine b_setattr [(x, _)] [] S hbz ⟨S.at (.head _), S.at (.tail _ (.head _))⟩ (cls_273 w) T2 (by kernel_rfl) (fun p hp => by rw [List.mem_singleton.mp hp]; exact hxd) (fun _ hp => nomatch hp) (fun _ => ⟨[_, _], _, rfl, by simp⟩) fun h₃ t₂ _ S => ?_
  refine r_cons (r_seta (r_cstr fun u' k' => r_name S 0 (q := ?_)))
  refine b_setattr [(x, _)] [] S hbz ⟨S.at (.head _), S.at (.tail _ (.head _))⟩ (cls_273 w) T3 (by kernel_rfl) (fun p hp => by rw [List.mem_singleton.mp hp]; exact hxd) (fun _ hp => nomatch hp) (fun _ => ⟨[_, _, _], _, rfl, by simp⟩) fun h₄ t₃ _ S => ?_
  exact r_nil (q _ _ _ _ _ _ S.keep ⟨S.at (.head _), S.at (.tail _ (.head _))⟩)
/-- a reader made -/
theorem new_reader {u : Tok} (W : Wd w h) (hroom : A.depth < 940)
    (q : ∀ h' x dx t₁ t₂ t₃ u' k, h.StaysIn h' → At h' x 273 dx (odR w t₁ t₂ t₃ u (.str (Str.ofString "") u')) → h.get? x = none → h.get? dx = none → Q (.ref x) ⟨h', g, d, k, os⟩) :
    WP w A (call (.ref 273) [.none, .str (Str.ofString "yield") u]) Q E ⟨h, g, d, t, os⟩ :=
  b_make W (makes_273 w) (init_273 w) (fn_262 w) fun h' k I e => init_262 W (Nat.lt_of_le_of_lt under_depth (by omega)) k (by omega) I (Nat.succ_ne_self _) (get_size1 h) (get_size h) fun h₂ t₁ t₂ t₃ u' k₂ kk I₂ => ⟨rfl, q _ _ _ _ _ _ _ _ kk I₂ (get_size1 h) (get_size h)⟩
end
end Mine
end
section
open PySem PySem.W PyProof.Rows PySem.Calls Builtin.ObjectAttr Builtin.Getset_descriptor
set_option Elab.async false
set_option maxRecDepth 100000
set_option maxHeartbeats 1000000
namespace Mine
/-- a generator of the reader that nobody has resumed, and all that it needs -/
structure Pre (w : World) (b₀ h : Heap) (g : Array GenState) (A : Around) (a Lg dx rd D : Addr) (gi : Nat) (outer : List Env) (buf data : Str) : Prop where
  W : Wd w b₀
  K : Kinds w b₀ D
  bh : b₀.StaysIn h
  x : h.get? rd = some (instObj 273 dx)
  bf : Buf w dx buf h
  ns : ∃ ud, h.Ns Lg (lkp ns270 [some (.ref rd), some (.ref D), some (.str data ud), none, none, none, none])
  gen : h.IsGen a gi
  gs : g[gi]? = some (.fresh (.func (bodyOf w) (genv w Lg)))
  ff : h.FunFrames {} outer
  fr : A.frames = some outer
  hh : A.handled = none
  room : A.depth < 850
  n : ∀ c ∈ dx :: Lg :: outsOf outer, b₀.get? c = none ∧ c ≠ rd ∧ c ≠ a
  dL : dx ≠ Lg
  o1 : dx ∉ outsOf outer
  o3 : Lg ∉ outsOf outer
section
variable {w : World} {A : Around} {E : Value → Shared → Prop} {b₀ h : Heap} {g : Array GenState} {d : Drawn} {t : Nat} {os : OsState} {a Lg dx rd D : Addr} {gi : Nat} {outer : List Env} {buf data rest : Str} {ls : List Str} {msgs : Nat → Msg}
theorem drain {Q : Value → Shared → Prop} (P : Pre w b₀ h g A a Lg dx rd D gi outer buf data)
    (hsp : Txt.split (buf ++ data) (Str.ofString "\n") = ls ++ [rest]) (hz : (buf ++ data).length ≤ 1000000) (hls : ls.length ≤ 1000) (hms : ∀ i l, ls[i]? = some l → l.length ≤ 10000 ∧ LineOk l (msgs i))
    (q : ∀ h' g' t', Out w (hideAll h (dx :: Lg :: outsOf outer)) h h h.objs.size dx Lg gi outer ls.length msgs rest g h' g' → Q (.ref h.objs.size) ⟨h', g', d, t', os⟩) :
    WP w A (call (.type "list") [.ref a]) Q E ⟨h, g, d, t, os⟩ := by
  have hoff : ∀ c ∈ dx :: Lg :: outsOf outer, (hideAll h (dx :: Lg :: outsOf outer)).get? c = none := fun c hc => hideAll_none _ hc
  have hS : (hideAll h (dx :: Lg :: outsOf outer)).get? h.objs.size = none := by
    cases q : (hideAll h (dx :: Lg :: outsOf outer)).get? h.objs.size with
    | none => rfl
    | some o => exact absurd (Heap.lt_size (of_hideAll _ q)) (Nat.lt_irrefl _)
  have bb : b₀.StaysIn (hideAll h (dx :: Lg :: outsOf outer)) := fun c o e => hideAll_get _ (P.bh _ _ e) fun hc => by rw [(P.n c hc).1] at e; cases e
  have bh : (hideAll h (dx :: Lg :: outsOf outer)).StaysIn h := fun c o e => of_hideAll _ e
  have lt : ∀ c o, h.get? c = some o → c ≠ h.objs.size := fun c o e => Nat.ne_of_lt (Heap.lt_size e)
  obtain ⟨t₁, t₂, t₃, u₁, ub, hd⟩ := P.bf
  obtain ⟨ud, hns⟩ := P.ns
  have dS : dx ≠ h.objs.size := lt _ _ hd
  have SL : h.objs.size ≠ Lg := by obtain ⟨o, es, ep, e, r⟩ := hns; exact (lt _ _ e).symm
  have o2 : h.objs.size ∉ outsOf outer := fun q => by obtain ⟨_, o, e, _⟩ := P.ff.mem q; exact lt _ _ e rfl
  have aS : a ≠ h.objs.size := by obtain ⟨o, nm, qn, e, _⟩ := P.gen; exact lt _ _ e
  have T : Sta0 w (hideAll h (dx :: Lg :: outsOf outer)) Lg h.objs.size dx rd D outer :=
    ⟨P.W.keeps bb, P.K.keeps bb, hideAll_get _ P.x fun hc => (P.n _ hc).2.1 rfl, hoff _ (by simp), hS, hoff _ (by simp), fun c hc => hoff _ (by simp [hc]), P.dL, dS, SL, P.o1, o2, P.o3⟩
  refine call_list_own (b := hideAll h (dx :: Lg :: outsOf outer)) (hc := h) (a := a) (dx := dx) (L := Lg) (gi := gi) (N := ls.length) (outer := outer) (msgs := msgs) (rest := rest)
    ⟨P.W.keeps bb, bh, P.hh, P.room, fun c hc => ?_, ⟨fun e => (P.n dx (by simp)).2.2 e.symm, fun e => (P.n Lg (by simp)).2.2 e.symm, aS, fun hc => (P.n a (by simp [hc])).2.2 rfl⟩, ⟨dS.symm, SL, o2⟩, hls⟩ P.gen P.gs (fun s'' k hs => ?_) bh q
  · rcases List.mem_cons.mp hc with rfl | hc
    · exact hoff _ (by simp)
    rcases List.mem_cons.mp hc with rfl | hc
    · exact hS
    · exact hoff _ (List.mem_cons_of_mem _ hc)
  · exact ⟨rfl, (next_seg (B := A.in1.in1.in1) (b := hideAll h (dx :: Lg :: outsOf outer)) (hc := h) (rd := rd) (D := D) (buf := buf) (data := data) (ud := ud) T P.fr P.hh P.room hsp hz hls hms
      (let ⟨o, es, ep, e, r⟩ := hns; ⟨o, es, ep, k _ _ e, r⟩) ⟨t₁, t₂, t₃, u₁, ub, k _ _ hd⟩ hs (fun c o e => k _ _ (bh _ _ e)) (funFrames_up (fun c hc o e _ => ⟨o, k _ _ e, rfl⟩) P.ff) k).out⟩
end
end Mine
end
section
open PySem PySem.W PyProof.Rows PySem.Calls Builtin.ObjectAttr Builtin.Getset_descriptor
set_option Elab.async false
set_option maxRecDepth 100000
set_option maxHeartbeats 1000000
namespace Mine
/-- nothing but the frames' slots has changed of what there was -/
structure Ups (outs : List Addr) (h h' : Heap) : Prop where
  keep : ∀ c o, c ∉ outs → h.get? c = some o → h'.get? c = some o
  fr : ∀ c ∈ outs, ∀ o, h.get? c = some o → (∀ vs, o.data ≠ .fields vs) → ∃ sl, h'.get? c = some { o with slots := sl }
theorem Ups.trans {outs : List Addr} {h h' h'' : Heap} (x : Ups outs h h') (y : Ups outs h' h'') : Ups outs h h'' :=
  ⟨fun c o n e => y.keep c o n (x.keep c o n e), fun c hc o e n => let ⟨_, e'⟩ := x.fr c hc o e n; let ⟨sl, e''⟩ := y.fr c hc _ e' n; ⟨sl, e''⟩⟩
theorem Ups.of_stays {outs : List Addr} {h h' : Heap} (k : h.StaysIn h') : Ups outs h h' := ⟨fun c o _ e => k c o e, fun c _ o e _ => ⟨o.slots, k c o e⟩⟩
/-- generators: the old ones are as they were, the new ones are done -/
structure Gk (g g' : Array GenState) : Prop where
  le : g.size ≤ g'.size
  old : ∀ k, k < g.size → g'[k]? = g[k]?
  new : ∀ k x, g.size ≤ k → g'[k]? = some x → x = .finished
theorem Gk.refl (g : Array GenState) : Gk g g := ⟨Nat.le_refl _, fun _ _ => rfl, fun k x hk e => by rw [Array.getElem?_eq_none hk] at e; cases e⟩
theorem Gk.trans {g g' g'' : Array GenState} (x : Gk g g') (y : Gk g' g'') : Gk g g'' := by
  refine ⟨Nat.le_trans x.le y.le, fun k hk => (y.old k (Nat.lt_of_lt_of_le hk x.le)).trans (x.old k hk), fun k v hk e => ?_⟩
  rcases Nat.lt_or_ge k g'.size with lt | ge
  · exact x.new k v hk ((y.old k lt).symm.trans e)
  · exact y.new k v ge e
theorem Gk.of {g g' : Array GenState} {c : Code} (f : g'[g.size]? = some .finished) (x : Gn g.size (g.push (.fresh c)) g') : Gk g g' := by
  have sz : g'.size = g.size + 1 := by rw [x.1, Array.size_push]
  refine ⟨by omega, fun k hk => ?_, fun k v hk e => ?_⟩
  · rw [x.2 k (by omega), Array.getElem?_push_lt hk, Array.getElem?_eq_getElem hk]
  · by_cases q : k = g.size
    · rw [q, f] at e; cases e; rfl
    · rw [Array.getElem?_eq_none (by omega)] at e; cases e
noncomputable def ns334 : List Str := [Str.ofString "known", Str.ofString "log", Str.ofString "cut", Str.ofString "reader"]
theorem n_reader (w : World) : nsIn (KK w) mainGlobals (Str.ofString "NMEAStreamReader") = some (some (.ref 273)) := by kernel_rfl
theorem keep_273 (w : World) : keepIn (KK w) (.ref 273) = true := by kernel_rfl
theorem keep_270 (w : World) : keepIn (KK w) (.ref 270) = true := by kernel_rfl
theorem none_ga_273 (w : World) : findIn (KK w) (.ref 273) "__getattr__" = some none ∧ findIn (KK w) (.ref 273) (Str.ofString "next") = some (some (.ref 270)) ∧ typeIn (KK w) (.ref 270) = some (.type "function") := ⟨by kernel_rfl, by kernel_rfl, by kernel_rfl⟩
/-- what one half leaves, seen from before -/
structure Half (w : World) (b₀ h : Heap) (g : Array GenState) (L dx rd : Addr) (outer : List Env) (N : Nat) (msgs : Nat → Msg) (rest : Str) (S : Addr) (h' : Heap) (g' : Array GenState) : Prop where
  gk : Gk g g'
  bs : b₀.StaysIn h'
  keep : ∀ c o, c ∉ dx :: L :: outsOf outer → h.get? c = some o → h'.get? c = some o
  fr : ∀ c ∈ L :: outsOf outer, ∀ o, h.get? c = some o → (∀ vs, o.data ≠ .fields vs) → ∃ sl, h'.get? c = some { o with slots := sl }
  bf : Buf w dx rest h'
  sf : h.get? S = none
  lst : ∃ acc c, h'.get? S = some { cls := .type "list", dict := none, data := .seq acc c, slots := #[] } ∧ acc.size = N ∧ ∀ j v, acc[j]? = some v → MsgAt w (hideAll h' (dx :: L :: outsOf outer)) v (msgs j)
section
variable {w : World} {A : Around} {E : Value → Shared → Prop} {b₀ h₀ h : Heap} {g : Array GenState} {d : Drawn} {t : Nat} {os : OsState} {L dx rd D : Addr} {outer : List Env} {buf data rest : Str} {ls : List Str} {msgs : Nat → Msg}
theorem lt1 {a n : Addr} (h : a < n) : a ≠ n := Nat.ne_of_lt h
theorem lt2 {a n : Addr} (h : a < n) : a ≠ n + 1 := Nat.ne_of_lt (Nat.lt_succ_of_lt h)
theorem lt3 {a n : Addr} (h : a < n) : a ≠ n + 2 := Nat.ne_of_lt (Nat.lt_succ_of_lt (Nat.lt_succ_of_lt h))
theorem call_cc {f : Value} {args : List Value} {Q : Value → Shared → Prop} {s : Shared} (z : CC w A (.call f ⟨args, []⟩) (RQ Q) s) : WP w A (call f args) Q E s :=
  ⟨wpAny_call (codeAny_mono z.out fun r s' z => by rcases r with e | (v | _ | _ | _) <;> first | exact z | exact z.elim)⟩
/-- the generator made and drained: `list(reader.next(known, data))` -/
theorem half {Q : Value → Shared → Prop} {u : Tok} (W : Wd w b₀) (K : Kinds w b₀ D) (bh : b₀.StaysIn h) (ff : h.FunFrames {} outer) (fr : A.frames = some (callEnv (fdOf w 334) L 334 :: outer)) (hh : A.handled = none) (room : A.depth < 850)
    (hx : h.get? rd = some (instObj 273 dx)) (hL : ∃ m, h.Ns L m) (hb : Buf w dx buf h) (n : ∀ c ∈ dx :: L :: outsOf outer, b₀.get? c = none ∧ c ≠ rd) (dL : dx ≠ L) (o1 : dx ∉ outsOf outer)
    (hsp : Txt.split (buf ++ data) (Str.ofString "\n") = ls ++ [rest]) (hz : (buf ++ data).length ≤ 1000000) (hls : ls.length ≤ 1000) (hms : ∀ i l, ls[i]? = some l → l.length ≤ 10000 ∧ LineOk l (msgs i))
    (q : ∀ S h' g' t', Half w b₀ h g L dx rd outer ls.length msgs rest S h' g' → Q (.ref S) ⟨h', g', d, t', os⟩) :
    WP w A (call (.ref 270) [.ref rd, .ref D, .str data u]) (fun v s' => Wd w s'.heap ∧ WP w A (call (.type "list") [v]) Q E s') E ⟨h, g, d, t, os⟩ := by
  refine call_cc (new_gen0 rfl W (Nat.lt_trans room (by decide)) bh fun h₁ t' hns st gen sz => ⟨(W.keeps bh).keeps st, ?_⟩)
  obtain ⟨t₁, t₂, t₃, u₁, ub, hd⟩ := hb
  obtain ⟨mL, hL⟩ := hL
  have ltL : L < h.objs.size := hL.lt
  have lto : ∀ c ∈ outsOf outer, c < h.objs.size := fun c hc => by obtain ⟨_, o, e, _⟩ := ff.mem hc; exact Heap.lt_size e
  have ldx := Heap.lt_size hd
  have lrd := Heap.lt_size hx
  have b0 : ∀ c, h.objs.size ≤ c → b₀.get? c = none := fun c hc => by
    cases q : b₀.get? c with
    | none => rfl
    | some o => exact absurd (Heap.lt_size (bh _ _ q)) (Nat.not_lt_of_le hc)
  have P : Pre w b₀ h₁ (g.push (.fresh (.func (bodyOf w) (genv w h.objs.size)))) A (h.objs.size + 1) h.objs.size dx rd D g.size (callEnv (fdOf w 334) L 334 :: outer) buf data := by
    refine ⟨W, K, fun c o e => st _ _ (bh _ _ e), st _ _ hx, ⟨t₁, t₂, t₃, u₁, ub, st _ _ hd⟩, ⟨_, hns⟩, gen, by simp, ⟨?_, ?_, funFrames_up (fun c hc o e _ => ⟨o, st _ _ e, rfl⟩) ff⟩, fr, hh, room, fun c hc => ?_, lt1 ldx, fun hc => ?_, fun hc => ?_⟩
    · rw [show (callEnv (fdOf w 334) L 334).scope.kind = .function from by kernel_rfl]
      intro e; cases e
    · obtain ⟨o, es, ep, e, dd, _⟩ := hL
      exact ⟨L, o, rfl, rfl, st _ _ e, fun vs e' => by rw [dd] at e'; cases e'⟩
    · rcases List.mem_cons.mp hc with rfl | hc
      · exact ⟨(n _ (by simp)).1, (n _ (by simp)).2, lt2 ldx⟩
      rcases List.mem_cons.mp hc with rfl | hc
      · exact ⟨b0 _ (Nat.le_refl _), (lt1 lrd).symm, Nat.ne_of_lt (Nat.lt_succ_self _)⟩
      rcases List.mem_cons.mp (show c ∈ L :: outsOf outer from hc) with rfl | hc
      · exact ⟨(n _ (by simp)).1, (n _ (by simp)).2, lt2 ltL⟩
      · exact ⟨(n _ (by simp [hc])).1, (n _ (by simp [hc])).2, lt2 (lto _ hc)⟩
    · rcases List.mem_cons.mp (show dx ∈ L :: outsOf outer from hc) with e | hc
      · exact dL e
      · exact o1 hc
    · rcases List.mem_cons.mp (show h.objs.size ∈ L :: outsOf outer from hc) with e | hc
      · exact (lt1 ltL).symm e
      · exact Nat.lt_irrefl _ (lto _ hc)
  refine drain P hsp hz hls hms fun h' g' t' O => q _ h' g' t' ?_
  have s2 : h₁.objs.size = h.objs.size + 2 := sz
  have nS : ∀ c, c < h.objs.size → c ≠ h₁.objs.size := fun c hc => by rw [s2]; exact lt3 hc
  obtain ⟨acc, c, e1, e2, e3⟩ := O.lst
  refine ⟨Gk.of O.fin O.gn, fun c o e => O.bs _ _ (hideAll_get _ (st _ _ (bh _ _ e)) fun hc => by rw [(P.n c hc).1] at e; cases e), fun c o hc e => ?_, fun c hc o e nf => O.hp.fr c hc o (st _ _ e) nf, O.bf, ?_, acc, c, e1, e2, fun j v e => (e3 j v e).keepsN fun c o nl e => ?_⟩
  · have l := Heap.lt_size e
    have hc := fun q => hc (List.mem_cons.mpr q)
    exact O.hp.keep c o (fun q => hc (.inl q)) (lt1 l) (nS _ l) (fun q => hc (.inr q)) (.inl (by rw [st _ _ e]; simp)) (st _ _ e)
  · cases q : h.get? h₁.objs.size with
    | none => rfl
    | some o => exact absurd rfl (nS _ (Heap.lt_size q))
  · refine hideAll_get _ (of_hideAll _ e) fun hc => ?_
    rw [hideAll_none _ ?_] at e
    · cases e
    · rcases List.mem_cons.mp hc with rfl | hc
      · exact .head _
      · exact .tail _ (.tail _ (.tail _ hc))
end
end Mine
end
section
open PySem PySem.W PyProof.Rows PySem.Calls Builtin.ObjectAttr Builtin.Getset_descriptor
set_option Elab.async false
set_option maxRecDepth 100000
set_option maxHeartbeats 1000000
namespace Mine
theorem odR_cls {w : World} {t₁ t₂ t₃ u₁ : Tok} {v : Value} : (odR w t₁ t₂ t₃ u₁ v).cls = .type "dict" := by kernel_rfl
theorem x_ne_dx {w : World} {h : Heap} {x dx : Addr} {t₁ t₂ t₃ u₁ : Tok} {v : Value} (hx : h.get? x = some (instObj 273 dx)) (hd : h.get? dx = some (odR w t₁ t₂ t₃ u₁ v)) : dx ≠ x := fun e => by
  rw [e, hx] at hd
  have := congrArg Obj.cls (Option.some.inj hd)
  rw [odR_cls] at this
  cases this
section
variable {w : World} {A : Around} {E : Value → Shared → Prop} {b₀ h : Heap} {g : Array GenState} {d : Drawn} {t : Nat} {os : OsState} {D : Addr} {outer : List Env} {log rest₁ rest₂ : Str} {cut : Int} {ls₁ ls₂ : List Str} {m₁ m₂ : Nat → Msg} {ul uc : Tok} {Q : Value → Shared → Prop}
theorem heard_spec (W : Wd w b₀) (K : Kinds w b₀ D) (bh : b₀.StaysIn h) (ff : h.FunFrames {} outer) (fr : A.frames = some outer) (hh : A.handled = none) (room : A.depth < 840) (n : ∀ c ∈ outsOf outer, b₀.get? c = none)
    (hs₁ : Txt.split (Str.ofString "" ++ Txt.slice log none (some cut)) (Str.ofString "\n") = ls₁ ++ [rest₁]) (hs₂ : Txt.split (rest₁ ++ Txt.slice log (some cut) none) (Str.ofString "\n") = ls₂ ++ [rest₂])
    (hz : log.length ≤ 100000) (hz₁ : (Str.ofString "" ++ Txt.slice log none (some cut)).length ≤ 1000000) (hz₂ : (rest₁ ++ Txt.slice log (some cut) none).length ≤ 1000000) (hl₁ : ls₁.length ≤ 1000) (hl₂ : ls₂.length ≤ 1000)
    (hm₁ : ∀ i l, ls₁[i]? = some l → l.length ≤ 10000 ∧ LineOk l (m₁ i)) (hm₂ : ∀ i l, ls₂[i]? = some l → l.length ≤ 10000 ∧ LineOk l (m₂ i))
    (q : ∀ h' g' t' S a₁ a₂ c, Gk g g' → Ups (outsOf outer) h h' → h.get? S = none → h'.get? S = some { cls := .type "list", data := .seq (a₁ ++ a₂) c } → a₁.size = ls₁.length → a₂.size = ls₂.length →
      (∀ j v, a₁[j]? = some v → MsgAt w (hideAll h' (outsOf outer)) v (m₁ j)) → (∀ j v, a₂[j]? = some v → MsgAt w (hideAll h' (outsOf outer)) v (m₂ j)) → Q (.ref S) ⟨h', g', d, t', os⟩) :
    CC w A (.call (.ref 334) ⟨[.ref D, .str log ul, .int cut uc], []⟩) (RQ Q) ⟨h, g, d, t, os⟩ := by
  have zz : sizeLine = 16777216 := sizeLine_eq
  have Wh := W.keeps bh
  refine enterC (b := h) (nw := []) (ns := ns334) (vs := [some (.ref D), some (.str log ul), some (.int cut uc), none]) (binds := [(Str.ofString "known", .ref D), (Str.ofString "log", .str log ul), (Str.ofString "cut", .int cut uc)]) Wh (Nat.lt_trans room (by decide)) (fun _ _ e => e) (fun p hp => nomatch hp)
    rfl (by kernel_rfl) rfl (by kernel_rfl) (by kernel_rfl) (by kernel_rfl) (lkp_of (n := 1) (lookup_rev (l := [Str.ofString "known", Str.ofString "log", Str.ofString "cut"]) rfl (by decide +kernel)) (by kernel_rfl)) (fun h₁ k S => ?_) (by kernel_rfl) (by kernel_rfl) (by kernel_rfl)
  have hfr : (A.deeper (callEnv (fdOf w 334) h.objs.size 334)).frames = some (callEnv (fdOf w 334) h.objs.size 334 :: outer) := by simp only [Around.deeper, fr]; rfl
  have h0 : ∀ c, h.get? c = none → b₀.get? c = none := fun c e => by
    cases q : b₀.get? c with
    | none => rfl
    | some o => rw [bh _ _ q] at e; cases e
  have down : ∀ {h' c}, h.StaysIn h' → h'.get? c = none → h.get? c = none := fun {h' c} k e => by
    cases q : h.get? c with
    | none => rfl
    | some o => rw [k _ _ q] at e; cases e
  refine r_cons (r_asg (r_call (r_glob S (n_reader w) (cw2 (kept_K (keep_273 w)) (r_cnone (r_cstr fun u _ => ⟨S.world, new_reader S.world (Nat.lt_trans (Nat.succ_lt_succ room) (by decide)) fun h₂ x dx t₁ t₂ t₃ u' k₂ st₂ I fx fd => ?_⟩))))))
  have xL : ∀ c, h₁.get? c = none → c ≠ h.objs.size := fun c e q => by obtain ⟨o, es, ep, e', _⟩ := S.F; rw [q, e'] at e; cases e
  have hx0 := down S.keep fx
  have hd0 := down S.keep fd
  have S₂ := ((S.keeps st₂).add I.d (xL _ fd) (down S.keep fd)).add I.x (xL _ fx) (down S.keep fx)
  refine r_store S₂ 3 (hi := by simp) (q := fun h₃ t₃' S => ?_)
  have hx := S.at (.head _)
  have hd := S.at (.tail _ (.head _))
  have e0 : [some (Value.ref D), some (.str log ul), some (.int cut uc), none].set 3 (some (.ref x)) = [some (Value.ref D), some (.str log ul), some (.int cut uc), some (.ref x)] := rfl
  rw [e0] at S
  have Ldx := xL _ fd
  have Lx := xL _ fx
  have lto : ∀ c ∈ outsOf outer, ∃ o, h.get? c = some o := fun c hc => let ⟨_, o, e, _⟩ := ff.mem hc; ⟨o, e⟩
  have nx : ∀ c ∈ dx :: h.objs.size :: outsOf outer, b₀.get? c = none ∧ c ≠ x := by
    intro c hc
    rcases List.mem_cons.mp hc with rfl | hc
    · exact ⟨h0 _ hd0, x_ne_dx hx hd⟩
    rcases List.mem_cons.mp hc with rfl | hc
    · exact ⟨h0 _ (get_size h), fun e => Lx e.symm⟩
    · exact ⟨n _ hc, fun e => by obtain ⟨o, e'⟩ := lto _ hc; rw [e, hx0] at e'; cases e'⟩
  have o1 : dx ∉ outsOf outer := fun hc => by obtain ⟨o, e'⟩ := lto _ hc; rw [hd0] at e'; cases e'
  have oL : h.objs.size ∉ outsOf outer := fun hc => by obtain ⟨o, e'⟩ := lto _ hc; rw [get_size] at e'; cases e'
  refine r_cons (r_ret (r_bin (r_call (r_boot S (n_list w) (cw1 kept_type (r_meth (r_name S 3 (q := m_plain S.world ⟨hx, hd⟩ (cls_273 w) (none_ga_273 w).1 (none_ga_273 w).2.1 (none_ga_273 w).2.2 odR_n (cwm2 (kept_K (keep_270 w)) (r_name S 0 (q := r_sl_to (r_name S 1 (q := ⟨_, _, rfl, r_name S 2 (q := ⟨_, _, rfl, by rw [zz]; omega, fun h₄ u₄ k₄ st₄ => ⟨S.world.keeps st₄, ?_⟩⟩)⟩)))))))))))))
  have S₄ := S.keeps st₄
  refine half W K (fun c o e => S₄.keep _ _ (bh _ _ e)) (funFrames_up (fun c hc o e _ => ⟨o, S₄.keep _ _ e, rfl⟩) ff) hfr (by exact hh) (Nat.lt_of_lt_of_le (Nat.succ_lt_succ room) (by decide)) (st₄ _ _ hx) ⟨_, S₄.F⟩ ⟨_, _, _, _, _, st₄ _ _ hd⟩ nx Ldx o1 hs₁ hz₁ hl₁ hm₁ fun S1 h₅ g₅ t₅ H => ?_
  have xo : x ∉ dx :: h.objs.size :: outsOf outer := fun hc => (nx _ hc).2 rfl
  have hx₅ := H.keep _ _ xo (st₄ _ _ hx)
  obtain ⟨v₁, v₂, v₃, v₄, v₅, hd₅⟩ := H.bf
  have S₅ : St w b₀ h.objs.size h₅ ns334 [some (Value.ref D), some (.str log ul), some (.int cut uc), some (.ref x)] [(x, instObj 273 dx), (dx, odR w v₁ v₂ v₃ v₄ (.str rest₁ v₅))] := by
    refine ⟨?_, H.bs, h0 _ (get_size h), fun p hp => ?_, W⟩
    · obtain ⟨o, es, ep, e, dd, r⟩ := S₄.F
      obtain ⟨sl, e'⟩ := H.fr _ (.head _) o e (fun vs e' => by rw [dd] at e'; cases e')
      exact ⟨_, es, ep, e', dd, r⟩
    · rcases List.mem_cons.mp hp with rfl | hp
      · exact ⟨hx₅, Lx, h0 _ hx0⟩
      · rw [List.mem_singleton.mp hp]
        exact ⟨hd₅, Ldx, h0 _ hd0⟩
  refine r_call (r_boot S₅ (n_list w) (cw1 kept_type (r_meth (r_name S₅ 3 (q := m_plain S₅.world ⟨hx₅, hd₅⟩ (cls_273 w) (none_ga_273 w).1 (none_ga_273 w).2.1 (none_ga_273 w).2.2 odR_n (cwm2 (kept_K (keep_270 w)) (r_name S₅ 0 (q := r_sl_from (r_name S₅ 1 (q := ⟨_, _, rfl, r_name S₅ 2 (q := ⟨_, _, rfl, by rw [zz]; omega, fun h₆ u₆ k₆ st₆ => ⟨S₅.world.keeps st₆, ?_⟩⟩)⟩))))))))))
  have S₆ := S₅.keeps st₆
  have ff₆ : h₆.FunFrames {} outer := funFrames_up (fun c hc o e nf => by
    obtain ⟨sl, e'⟩ := H.fr c (.tail _ hc) o (S₄.keep _ _ e) nf
    exact ⟨_, st₆ _ _ e', rfl⟩) ff
  refine half W K S₆.keep ff₆ hfr (by exact hh) (Nat.lt_of_lt_of_le (Nat.succ_lt_succ room) (by decide)) (st₆ _ _ hx₅) ⟨_, S₆.F⟩ ⟨_, _, _, _, _, st₆ _ _ hd₅⟩ nx Ldx o1 hs₂ hz₂ hl₂ hm₂ fun S2 h₇ g₇ t₇ H₂ => ?_
  obtain ⟨a₁, c₁, l₁, z₁, M₁⟩ := H.lst
  obtain ⟨a₂, c₂, l₂, z₂, M₂⟩ := H₂.lst
  have n1 : S1 ∉ dx :: h.objs.size :: outsOf outer := fun hc => by
    have e := H.sf
    rcases List.mem_cons.mp hc with rfl | hc
    · rw [st₄ _ _ hd] at e; cases e
    rcases List.mem_cons.mp hc with rfl | hc
    · obtain ⟨o, es, ep, e', _⟩ := S₄.F; rw [e'] at e; cases e
    · obtain ⟨o, e'⟩ := lto _ hc; rw [S₄.keep _ _ e'] at e; cases e
  have l₁' := H₂.keep _ _ n1 (st₆ _ _ l₁)
  refine ⟨P.add_list l₁' l₂ ?_ (by rw [z₁, z₂, zz]; omega)⟩
  have pu : ∀ c o, h₇.get? c = some o → (h₇.push { cls := .type "list", data := .seq (a₁ ++ a₂) }).get? c = some o := fun c o e => Heap.get?_push_of_some _ e
  have un : ∀ c o, h.get? c = some o → c ∉ outsOf outer → c ∉ dx :: h.objs.size :: outsOf outer := fun c o e hn hc => by
    rcases List.mem_cons.mp hc with rfl | hc
    · rw [hd0] at e; cases e
    rcases List.mem_cons.mp hc with rfl | hc
    · rw [get_size] at e; cases e
    · exact hn hc
  refine q _ _ _ _ a₁ a₂ 0 (H.gk.trans H₂.gk) ⟨fun c o hc e => ?_, fun c hc o e nf => ?_⟩ ?_ (Heap.get?_push_size _ rfl) z₁ z₂ (fun j v e => (M₁ j v e).keepsN fun c o nl e => ?_) (fun j v e => (M₂ j v e).keepsN fun c o nl e => ?_)
  · exact pu _ _ (H₂.keep _ _ (un c o e hc) (st₆ _ _ (H.keep _ _ (un c o e hc) (S₄.keep _ _ e))))
  · obtain ⟨sl, e'⟩ := H.fr c (.tail _ hc) o (S₄.keep _ _ e) nf
    obtain ⟨sl', e''⟩ := H₂.fr c (.tail _ hc) _ (st₆ _ _ e') nf
    exact ⟨sl', pu _ _ e''⟩
  · cases q : h.get? h₇.objs.size with
    | none => rfl
    | some o =>
      by_cases hc : h₇.objs.size ∈ outsOf outer
      · obtain ⟨_, o', e', nf⟩ := ff.mem hc
        obtain ⟨sl, e1⟩ := H.fr _ (.tail _ hc) o' (S₄.keep _ _ e') nf
        obtain ⟨sl', e2⟩ := H₂.fr _ (.tail _ hc) _ (st₆ _ _ e1) nf
        rw [get_size] at e2; cases e2
      · have := H₂.keep _ _ (un _ o q hc) (st₆ _ _ (H.keep _ _ (un _ o q hc) (S₄.keep _ _ q)))
        rw [get_size] at this; cases this
  · have nc : c ∉ dx :: h.objs.size :: outsOf outer := fun hc => by rw [hideAll_none _ hc] at e; cases e
    exact hideAll_get _ (pu _ _ (H₂.keep _ _ nc (st₆ _ _ (of_hideAll _ e)))) fun hc => nc (.tail _ (.tail _ hc))
  · have nc : c ∉ dx :: h.objs.size :: outsOf outer := fun hc => by rw [hideAll_none _ hc] at e; cases e
    exact hideAll_get _ (pu _ _ (of_hideAll _ e)) fun hc => nc (.tail _ (.tail _ hc))
end
end Mine
end
section
open PySem PySem.W PyProof.Rows PySem.Calls Builtin.ObjectAttr Builtin.Getset_descriptor
set_option Elab.async false
set_option maxRecDepth 100000
set_option maxHeartbeats 1000000
namespace Mine
section
variable {w : World} {A : Around} {E : Value → Shared → Prop} {h : Heap} {g : Array GenState} {d : Drawn} {t : Nat} {os : OsState} {env : Env} {scope : Scope} {cl : List (Str × Addr)} {C : Addr}
/-- a name of the comprehension -/
theorem r_cvar {m : Str → Option Value} {x : Str} {pos : Pos} {v : Value} {Q : Value → Shared → Prop} {s : Shared} (F : s.heap.Ns C m) (hv : m x = some v) (q : Q v s)
    (hk : (compEnvC scope cl C env).scope.kind = .function := by kernel_rfl) (hl : (compEnvC scope cl C env).kindOf x = some .local := by kernel_rfl) (hd : (x == ("__debug__" : Str)) = false := by kernel_rfl) :
    WP w A (eval (.Name x pos) (compEnvC scope cl C env)) Q E s := ⟨wpAny_Name (wpAny_loadName_local hk hl F hv q) hd⟩
theorem r_ccell {x : Str} {pos : Pos} {c : Addr} {v : Value} {Q : Value → Shared → Prop} {s : Shared} (hc : cl.lookup x = some c) (hv : s.heap.IsCell c (some v)) (q : Q v s)
    (hk : (compEnvC scope cl C env).scope.kind = .function := by kernel_rfl) (hl : (compEnvC scope cl C env).kindOf x = some .cell := by kernel_rfl) (hd : (x == ("__debug__" : Str)) = false := by kernel_rfl) :
    WP w A (eval (.Name x pos) (compEnvC scope cl C env)) Q E s := ⟨wpAny_Name (wpAny_loadName_cell hk hl hc hv q) hd⟩
theorem r_globW {x : Str} {pos : Pos} {v : Value} {Q : Value → Shared → Prop} {s : Shared} (W : Wd w s.heap)
    (e : nsIn (KK w) mainGlobals x = some (some v)) (q : Q v s)
    (hk : env.scope.kind = .function := by kernel_rfl) (hg : env.globals = mainGlobals := by kernel_rfl)
    (hl : env.kindOf x = some .globalImplicit := by kernel_rfl) (hd : (x == ("__debug__" : Str)) = false := by kernel_rfl) :
    WP w A (eval (.Name x pos) env) Q E s := by
  refine ⟨wpAny_Name ?_ hd⟩
  have hb : env.blockKind = .function := by unfold Env.blockKind; rw [hk]; rfl
  have ha : (env.scope.kind.isAnnotationScope) = false := by rw [hk]; rfl
  unfold loadName
  simp only [ha, Bool.false_and, Bool.false_eq_true, if_false, hb, hl]
  show wpAny _ _ (loadGlobal env x) _ _ _
  unfold loadGlobal
  rw [hg]
  refine wpAny_bind ((looks_nsIn W.X e).here ?_)
  exact wpAny_pure q
theorem r_bootW {x : Str} {pos : Pos} {v : Value} {Q : Value → Shared → Prop} {s : Shared} (W : Wd w s.heap)
    (e : nsIn (KK w) mainGlobals x = some none ∧ bootBuiltins x = some v ∧ x ≠ "__name__") (q : Q v s)
    (hk : env.scope.kind = .function := by kernel_rfl) (hg : env.globals = mainGlobals := by kernel_rfl) (hbb : env.builtins = builtinsNs := by kernel_rfl)
    (hl : env.kindOf x = some .globalImplicit := by kernel_rfl) (hd : (x == ("__debug__" : Str)) = false := by kernel_rfl) :
    WP w A (eval (.Name x pos) env) Q E s := by
  obtain ⟨e, eb, hx⟩ := e
  refine ⟨wpAny_Name ?_ hd⟩
  have hb : env.blockKind = .function := by unfold Env.blockKind; rw [hk]; rfl
  have ha : (env.scope.kind.isAnnotationScope) = false := by rw [hk]; rfl
  unfold loadName
  simp only [ha, Bool.false_and, Bool.false_eq_true, if_false, hb, hl]
  show wpAny _ _ (loadGlobal env x) _ _ _
  unfold loadGlobal
  rw [hg, hbb]
  refine wpAny_bind ((looks_nsIn W.X e).here ?_)
  obtain ⟨mb, hn, hm⟩ := W.B
  refine wpAny_bind (wpAny_nsGet hn ?_)
  rw [hm x hx, eb]
  exact wpAny_pure q
/-- a comprehension over a list: what each turn does -/
structure Each (w : World) (A : Around) (env : Env) (scope : Scope) (cl : List (Str × Addr)) (x : Str) (ifs : List Expr) (elt : Expr) (h₁ : Heap) (items : Array Value) (p : Value → Bool) (F : Value → Value → Prop) : Prop where
  tests : ∀ C v h₃ (g : Array GenState) (d : Drawn) (os : OsState) t₃ m₃ E', (∃ i : Nat, items[i]? = some v) → h₁.StaysIn h₃ → h₃.Ns C m₃ → m₃ x = some v →
    WP w A (forIn ifs true fun c r => if r = true then do let ok ← isTrue c (compEnvC scope cl C env) (eval c (compEnvC scope cl C env)); pure (ForInStep.yield ok) else pure (ForInStep.yield r))
      (fun ok s₄ => ok = p v ∧ ∃ h₄ t₄, s₄ = ⟨h₄, g, d, t₄, os⟩ ∧ h₃.StaysIn h₄) E' ⟨h₃, g, d, t₃, os⟩
  elt : ∀ C v h₃ (g : Array GenState) (d : Drawn) (os : OsState) t₃ m₃ E', (∃ i : Nat, items[i]? = some v) → p v = true → h₁.StaysIn h₃ → h₃.Ns C m₃ → m₃ x = some v →
    WP w A (eval elt (compEnvC scope cl C env)) (fun y s₄ => F v y ∧ ∃ h₄ t₄, s₄ = ⟨h₄, g, d, t₄, os⟩ ∧ h₃.StaysIn h₄) E' ⟨h₃, g, d, t₃, os⟩
theorem t_noifs {Q : Bool → Shared → Prop} {f : Expr → Bool → Sem (ForInStep Bool)} {s : Shared} (q : Q true s) : WP w A (forIn ([] : List Expr) true f) Q E s := ⟨by rw [List.forIn_nil]; exact wpAny_pure q⟩
theorem r_lcomp {elt iter : Expr} {x : Str} {px pos : Pos} {ifs : List Expr} {Q : Value → Shared → Prop} {s : Shared} (p : Value → Bool) (F : Value → Value → Prop) (hh : A.handled = none)
    (hclos : closureFor scope env = pure cl) (hcell : (scope.names.all fun y => y.2 != .cell) = true) (hkind : scope.kind = .function)
    (hnames : (scope.names.all fun y => y.2 != .local || scope.names.lookup y.1 == some .local) = true) (hx : scope.names.lookup x = some .local)
    (h : WP w A (eval iter env) (fun v s₁ => ∃ ax items h₁ t₁, v = .ref ax ∧ s₁ = ⟨h₁, g, d, t₁, os⟩ ∧ h₁.IsList ax items ∧ items.size ≤ sizeLine ∧ Each w A env scope cl x ifs elt h₁ items p F ∧
      ∀ D h' tk ys, h₁.get? D = none → h'.PlainList D ys → Paired F (items.toList.filter p) ys.toList → h₁.StaysIn h' → Q (.ref D) ⟨h', g, d, tk, os⟩) E s)
    (hs : ∀ x, foldedSetIterable iter env x = pure x := by intro _; rfl) :
    WP w A (eval (.ListComp elt [⟨.Name x px, iter, ifs, 0⟩] scope pos) env) Q E s := by
  refine ⟨wpAny_ListComp_free p F hclos (fun y hy => by simpa using List.all_eq_true.mp hcell y hy) hkind (fun y hy e => by have := List.all_eq_true.mp hnames y hy; simpa [e] using this) hx (h.to fun v s₁ h₁ => ?_) hs⟩
  obtain ⟨ax, items, h₁, t₁, rfl, rfl, hl, hz, I, hQ⟩ := h₁
  refine wpAny_pyIter_list (s := ⟨h₁, g, d, t₁, os⟩) hl ?_
  have up : h₁.StaysIn (h₁.push { cls := .type "list_iterator", data := .fields #[.ref ax, .int 0 0] }) := fun c o e => Heap.get?_push_of_some _ e
  have ne : ax ≠ h₁.objs.size := by obtain ⟨o, e, _⟩ := hl; exact Nat.ne_of_lt (Heap.lt_size e)
  have keep : ∀ h₃ : Heap, (∀ b o, b ∉ [h₁.objs.size] → (h₁.push { cls := .type "list_iterator", data := .fields #[.ref ax, .int 0 0] }).get? b = some o → h₃.get? b = some o) → h₁.StaysIn h₃ :=
    fun h₃ k c o e => k c o (by simp only [List.mem_singleton]; exact Nat.ne_of_lt (Heap.lt_size e)) (up _ _ e)
  refine ⟨h₁.objs.size, _, _, items.size, _, _, rfl, Walks.list hh h₁.objs.size ax ne items, hz, ⟨⟨_, Heap.get?_push_size _ rfl, rfl, rfl⟩, hl.at fun o e => up _ _ e⟩, fun b hb => ?_, ⟨?_, ?_⟩, ?_⟩
  · simp only [List.mem_cons, List.not_mem_nil, or_false] at hb
    rw [Heap.size_push]
    rcases hb with rfl | rfl
    · exact Nat.lt_succ_self _
    · obtain ⟨o, e, _⟩ := hl; exact Nat.lt_succ_of_lt (Heap.lt_size e)
  · intro C i v s₃ m₃ E' _ hP hn hv hk ht
    obtain ⟨h₃, g₃, d₃, t₃, os₃⟩ := s₃
    exact (I.tests C v h₃ g₃ d₃ os₃ t₃ m₃ E' ⟨i, hP⟩ (keep _ hk) hn hv).to fun ok s₄ ⟨e, h₄, t₄, e', k⟩ => ⟨e, h₄, t₄, e', k⟩
  · intro C i v s₃ m₃ E' _ hP hp hn hv hk ht
    obtain ⟨h₃, g₃, d₃, t₃, os₃⟩ := s₃
    exact (I.elt C v h₃ g₃ d₃ os₃ t₃ m₃ E' ⟨i, hP⟩ hp (keep _ hk) hn hv).to fun ok s₄ ⟨e, h₄, t₄, e', k⟩ => ⟨e, h₄, t₄, e', k⟩
  · intro D h' tk ys vs hD _ hpl hlen hP hF hk
    have e : vs = items.toList := by
      refine List.ext_getElem? fun j => ?_
      cases q : vs[j]? with
      | none =>
        have := List.getElem?_eq_none_iff.mp q
        rw [List.getElem?_eq_none (by rw [Array.length_toList]; omega)]
      | some v => have := hP j v q; simpa using this.symm
    rw [e] at hF
    refine hQ D h' tk ys ?_ hpl hF (keep _ hk)
    cases q : h₁.get? D with
    | none => rfl
    | some o => rw [up _ _ q] at hD; cases hD
end
end Mine
end
section
open PySem PySem.W PyProof.Rows PySem.Calls Builtin.ObjectAttr Builtin.Getset_descriptor
set_option Elab.async false
set_option maxRecDepth 100000
set_option maxHeartbeats 1000000
namespace Mine
section
variable {w : World} {A : Around} {E : Value → Shared → Prop} {h₀ : Heap} {g : Array GenState} {d : Drawn} {os : OsState} {env : Env} {scope : Scope} {cl : List (Str × Addr)} {L : Addr} {ns : List Str} {vs : List (Option Value)} {nw : List (Addr × Obj)}
theorem r_asg_lcomp {elt iter : Expr} {x y : Str} {px py pos spos : Pos} {ifs : List Expr} {Q : Flow → Shared → Prop} {s : Shared} (i : Nat) (p : Value → Bool) (F : Value → Value → Prop) (hh : A.handled = none)
    (hclos : closureFor scope env = pure cl) (hcell : (scope.names.all fun y => y.2 != .cell) = true) (hkind : scope.kind = .function)
    (hnames : (scope.names.all fun y => y.2 != .local || scope.names.lookup y.1 == some .local) = true) (hx : scope.names.lookup x = some .local)
    (hL : env.locals = L) (hi : i < vs.length)
    (h : WP w A (eval iter env) (fun v s₁ => ∃ ax items h₁ t₁, v = .ref ax ∧ s₁ = ⟨h₁, g, d, t₁, os⟩ ∧ h₁.IsList ax items ∧ items.size ≤ sizeLine ∧ St w h₀ L h₁ ns vs nw ∧ Each w A env scope cl x ifs elt h₁ items p F ∧
      ∀ D h' tk ys c, St w h₀ L h' ns (vs.set i (some (.ref D))) ((D, { cls := .type "list", data := .seq ys c }) :: nw) → h₁.get? D = none → Paired F (items.toList.filter p) ys.toList → (∀ b o, b ≠ L → h₁.get? b = some o → h'.get? b = some o) → Q .next ⟨h', g, d, tk, os⟩) E s)
    (hsw : swapsWith (.ListComp elt [⟨.Name x px, iter, ifs, 0⟩] scope pos) (some (.Name y py)) spos.line env = pure true := by rfl)
    (hy : env.kindOf y = some .local := by kernel_rfl) (hp : (env.scope.kind == .class || (env.scope.kind == .module && env.locals != env.globals)) = false := by rfl)
    (hat : at1 ns i y = true := by kernel_rfl) (hnd : ns.Nodup := by decide +kernel)
    (hs : ∀ x, foldedSetIterable iter env x = pure x := by intro _; rfl) :
    WP w A (exec (.Assign [.Name y py] (.ListComp elt [⟨.Name x px, iter, ifs, 0⟩] scope pos) spos) env) Q E s := by
  refine ⟨wpAny_Assign_ListComp_free p F hsw hclos (fun y hy => by simpa using List.all_eq_true.mp hcell y hy) hkind (fun y hy e => by have := List.all_eq_true.mp hnames y hy; simpa [e] using this) hx hy hp (h.to fun v s₁ h₁ => ?_) hs⟩
  obtain ⟨ax, items, h₁, t₁, rfl, rfl, hl, hz, S, I, hQ⟩ := h₁
  subst hL
  refine wpAny_pyIter_list (s := ⟨h₁, g, d, t₁, os⟩) hl ?_
  have up : h₁.StaysIn (h₁.push { cls := .type "list_iterator", data := .fields #[.ref ax, .int 0 0] }) := fun c o e => Heap.get?_push_of_some _ e
  have ne : ax ≠ h₁.objs.size := by obtain ⟨o, e, _⟩ := hl; exact Nat.ne_of_lt (Heap.lt_size e)
  have nm : ∀ {c : Addr} {o : Obj}, h₁.get? c = some o → c ∉ [h₁.objs.size] := fun {c o} e => by simp only [List.mem_singleton]; exact Nat.ne_of_lt (Heap.lt_size e)
  have keep : ∀ h₃ : Heap, (∀ b o, b ∉ [h₁.objs.size] → (h₁.push { cls := .type "list_iterator", data := .fields #[.ref ax, .int 0 0] }).get? b = some o → h₃.get? b = some o) → h₁.StaysIn h₃ :=
    fun h₃ k c o e => k c o (nm e) (up _ _ e)
  refine ⟨h₁.objs.size, _, _, items.size, _, _, _, rfl, Walks.list hh h₁.objs.size ax ne items, hz, ⟨⟨_, Heap.get?_push_size _ rfl, rfl, rfl⟩, hl.at fun o e => up _ _ e⟩, fun b hb => ?_, ?_, S.F.keeps up, ⟨?_, ?_⟩, ?_⟩
  · simp only [List.mem_cons, List.not_mem_nil, or_false] at hb
    rw [Heap.size_push]
    rcases hb with rfl | rfl
    · exact Nat.lt_succ_self _
    · obtain ⟨o, e, _⟩ := hl; exact Nat.lt_succ_of_lt (Heap.lt_size e)
  · simp only [List.mem_singleton]; exact Ne.symm S.newL
  · intro C i v s₃ m₃ E' _ hP hn hv hk ht
    obtain ⟨h₃, g₃, d₃, t₃, os₃⟩ := s₃
    exact (I.tests C v h₃ g₃ d₃ os₃ t₃ m₃ E' ⟨i, hP⟩ (keep _ hk) hn hv).to fun ok s₄ ⟨e, h₄, t₄, e', k⟩ => ⟨e, h₄, t₄, e', k⟩
  · intro C i v s₃ m₃ E' _ hP hp hn hv hk ht
    obtain ⟨h₃, g₃, d₃, t₃, os₃⟩ := s₃
    exact (I.elt C v h₃ g₃ d₃ os₃ t₃ m₃ E' ⟨i, hP⟩ hp (keep _ hk) hn hv).to fun ok s₄ ⟨e, h₄, t₄, e', k⟩ => ⟨e, h₄, t₄, e', k⟩
  · intro D h' tk ys vs' hD _ hpl hlen hP hF hns hk
    have e : vs' = items.toList := by
      refine List.ext_getElem? fun j => ?_
      cases q : vs'[j]? with
      | none =>
        have := List.getElem?_eq_none_iff.mp q
        rw [List.getElem?_eq_none (by rw [Array.length_toList]; omega)]
      | some v => have := hP j v q; simpa using this.symm
    rw [e] at hF
    have hD1 : h₁.get? D = none := by
      cases q : h₁.get? D with
      | none => rfl
      | some o => rw [up _ _ q] at hD; cases hD
    have k1 : ∀ b o, b ≠ env.locals → h₁.get? b = some o → h'.get? b = some o := fun b o n e => hk b o n (nm e) (up _ _ e)
    obtain ⟨c, hc⟩ := hpl
    have DL : D ≠ env.locals := fun q => by obtain ⟨o, es, ep, e', _⟩ := S.F; rw [q, e'] at hD1; cases hD1
    refine hQ D h' tk ys c ⟨?_, fun b o e => k1 b o (fun q => by rw [q, S.off] at e; cases e) (S.keep _ _ e), S.off, fun p hp => ?_, S.W⟩ hD1 hF k1
    · rw [lkp_setO hat hi hnd] at hns
      exact hns
    · rcases List.mem_cons.mp hp with rfl | hp
      · refine ⟨hc, DL, ?_⟩
        cases q : h₀.get? D with
        | none => rfl
        | some o => rw [S.keep _ _ q] at hD1; cases hD1
      · exact ⟨k1 _ _ (S.N _ hp).2.1 (S.N _ hp).1, (S.N _ hp).2⟩
end
end Mine
end
section
open PySem PySem.W PyProof.Rows PySem.Calls Builtin.ObjectAttr Builtin.Getset_descriptor
set_option Elab.async false
set_option maxRecDepth 100000
set_option maxHeartbeats 1000000
namespace Mine
section
variable {w : World} {A : Around} {E : Value → Shared → Prop} {h₀ h : Heap} {g : Array GenState} {d : Drawn} {t : Nat} {os : OsState} {env : Env} {L c : Addr} {o : Obj} {ns : List Str} {vs : List (Option Value)} {nw nw' : List (Addr × Obj)}
theorem St.sub (S : St w h₀ L h ns vs nw) (k : ∀ p ∈ nw', p ∈ nw) : St w h₀ L h ns vs nw' := ⟨S.F, S.keep, S.off, fun p hp => S.N p (k p hp), S.W⟩
/-- a cell read -/
theorem r_cload {x : Str} {pos : Pos} {v : Value} {Q : Value → Shared → Prop} (S : St w h₀ L h ns vs nw) (m : (c, o) ∈ nw) (ho : o.data = .cell (some v)) (hc : env.cells.lookup x = some c) (q : Q v ⟨h, g, d, t, os⟩)
    (hk : env.scope.kind = .function := by kernel_rfl) (hl : env.kindOf x = some .cell := by kernel_rfl) (hd : (x == ("__debug__" : Str)) = false := by kernel_rfl) :
    WP w A (eval (.Name x pos) env) Q E ⟨h, g, d, t, os⟩ := ⟨wpAny_Name (wpAny_loadName_cell hk hl hc ⟨o, S.at m, ho⟩ q) hd⟩
/-- a cell written -/
theorem r_cstore {x : Str} {v : Value} {v₀ : Option Value} {Q : Unit → Shared → Prop} (S : St w h₀ L h ns vs nw) (m : (c, o) ∈ nw) (ho : o.data = .cell v₀) (hc : env.cells.lookup x = some c) (hs : ∀ p ∈ nw', p ∈ nw ∧ p.1 ≠ c)
    (q : ∀ h' o', o'.data = .cell (some v) → St w h₀ L h' ns vs ((c, o') :: nw') → (∀ b p, b ≠ c → h.get? b = some p → h'.get? b = some p) → Q () ⟨h', g, d, t, os⟩)
    (hk : env.scope.kind = .function := by kernel_rfl) (hl : env.kindOf x = some .cell := by kernel_rfl) : WP w A (storeName env x v) Q E ⟨h, g, d, t, os⟩ := by
  refine ⟨wpAny_storeName_cell (s := ⟨h, g, d, t, os⟩) hk hl hc ⟨o, S.at m, ho⟩ fun h' hc' hs' => ?_⟩
  obtain ⟨o', e', d'⟩ := hc'
  have k : ∀ b p, b ≠ c → h.get? b = some p → h'.get? b = some p := fun b p n e => (hs'.2 b n).trans e
  refine q h' o' d' ⟨?_, fun b p e => k b p (fun z => by rw [z, (S.N _ m).2.2] at e; cases e) (S.keep _ _ e), S.off, fun p hp => ?_, S.W⟩ k
  · obtain ⟨p, es, ep, e, r⟩ := S.F
    exact ⟨p, es, ep, k _ _ (Ne.symm (S.N _ m).2.1) e, r⟩
  · rcases List.mem_cons.mp hp with rfl | hp
    · exact ⟨e', (S.N _ m).2⟩
    · exact ⟨k _ _ (hs p hp).2 (S.N _ (hs p hp).1).1, (S.N _ (hs p hp).1).2⟩
/-- the state after some of the reader's work: the frame's slots may have changed -/
theorem St.ups {h' : Heap} (S : St w h₀ L h ns vs nw) {outs : List Addr} (hL : L ∈ outs) (ho : ∀ c ∈ outs, c = L ∨ ((h₀.get? c = none) ∧ ∀ p ∈ nw, p.1 ≠ c)) (hn : ∀ p ∈ nw, p.1 ∉ outs) (U : Ups outs h h') : St w h₀ L h' ns vs nw := by
  refine ⟨?_, fun b o e => U.keep b o (fun hb => ?_) (S.keep _ _ e), S.off, fun p hp => ⟨U.keep _ _ (hn p hp) (S.N p hp).1, (S.N p hp).2⟩, S.W⟩
  · obtain ⟨o, es, ep, e, dd, r⟩ := S.F
    obtain ⟨sl, e'⟩ := U.fr L hL o e (fun vs e' => by rw [dd] at e'; cases e')
    exact ⟨_, es, ep, e', dd, r⟩
  · rcases ho b hb with rfl | ⟨z, _⟩
    · rw [S.off] at e; cases e
    · rw [z] at e; cases e
end
end Mine
end
section
open PySem PySem.W PyProof.Rows PySem.Calls Builtin.ObjectAttr Builtin.Getset_descriptor
set_option Elab.async false
set_option maxRecDepth 100000
set_option maxHeartbeats 1000000
namespace Mine
section
variable {w : World} {A : Around} {E : Value → Shared → Prop} {h₀ h : Heap} {g : Array GenState} {d : Drawn} {t : Nat} {os : OsState} {env : Env} {L D : Addr} {o : Obj} {ns : List Str} {vs : List (Option Value)} {nw nw' : List (Addr × Obj)} {pos : Pos}
theorem pylong_no {a b : Int} (h0 : 0 < b) (h1 : b ≤ 1000000) : ¬ (Builtin.divisionGoesByPylong a b = true) := by
  unfold Builtin.divisionGoesByPylong
  have e : (b == 0) = false := beq_eq_false_iff_ne.mpr (by omega)
  have l : b.natAbs.log2 < 20 := by
    rw [Nat.log2_lt (by omega)]
    omega
  simp only [e, Bool.false_eq_true, if_false, Bool.and_eq_true, decide_eq_true_eq, not_and]
  intro q
  omega
theorem b_mod_int {a b : Int} {u v : Tok} {Q : Value → Shared → Prop} (h0 : 0 < b) (q : ∀ t' k', Q (.int (a % b) t') ⟨h, g, d, k', os⟩) : WP w A (binaryOp .Mod (.int a u) (.int b v)) Q E ⟨h, g, d, t, os⟩ :=
  ⟨AutoIntOps.mod_1 (by simp only [beq_iff_eq]; omega) (by rw [Int.fmod_eq_emod_of_nonneg _ (Int.le_of_lt h0)]; exact q _ _)⟩
theorem b_div_int {a b : Int} {u v : Tok} {Q : Value → Shared → Prop} (h0 : 0 < b) (h1 : b ≤ 1000000) (q : ∀ t' k', Q (.int (a / b) t') ⟨h, g, d, k', os⟩) : WP w A (binaryOp .FloorDiv (.int a u) (.int b v)) Q E ⟨h, g, d, t, os⟩ :=
  ⟨AutoIntOps.floordiv_1 (by simp only [beq_iff_eq]; omega) (pylong_no h0 h1) (by rw [Int.fdiv_eq_ediv_of_nonneg _ (Int.le_of_lt h0)]; exact q _ _)⟩
theorem b_sub_int {a b : Int} {u v : Tok} {Q : Value → Shared → Prop} (q : ∀ t' k', Q (.int (a - b) t') ⟨h, g, d, k', os⟩) : WP w A (binaryOp .Sub (.int a u) (.int b v)) Q E ⟨h, g, d, t, os⟩ := ⟨P.sub_int (q _ _)⟩
theorem b_iadd_int {a b : Int} {u v : Tok} {Q : Value → Shared → Prop} (q : ∀ t' k', Q (.int (a + b) t') ⟨h, g, d, k', os⟩) : WP w A (inplaceOp .Add (.int a u) (.int b v)) Q E ⟨h, g, d, t, os⟩ := ⟨P.iadd_int (q _ _)⟩
theorem b_lt_int {a b : Int} {u v : Tok} {Q : Value → Shared → Prop} {s : Shared} (q : Q (.bool (decide (a < b))) s) : WP w A (compareOp .Lt (.int a u) (.int b v)) Q E s := ⟨P.lt_int q⟩
theorem b_eq_intS {a b : Int} {u v : Tok} {Q : Value → Shared → Prop} {s : Shared} (q : Q (.bool (a == b)) s) : WP w A (compareOp .Eq (.int a u) (.int b v)) Q E s := ⟨P.eq_int q⟩
theorem b_str_int {a : Int} {u : Tok} {Q : Value → Shared → Prop} (h0 : 0 ≤ a) (h1 : a < 1000) (q : ∀ t' k', Q (.str (Str.ofString (toString a)) t') ⟨h, g, d, k', os⟩) : WP w A (call (.type "str") [.int a u]) Q E ⟨h, g, d, t, os⟩ := by
  refine ⟨P.str_of_int ?_ (q _ _)⟩
  by_cases e : a = 0
  · subst e; decide
  · rw [Nat.log2_lt (by omega)]
    have : a.natAbs < 1024 := by omega
    exact Nat.lt_of_lt_of_le this (by rw [show (1024 : Nat) = 2 ^ 10 from rfl]; exact Nat.pow_le_pow_right (by decide) (by decide))
theorem n_str (w : World) : nsIn (KK w) mainGlobals (Str.ofString "str") = some none ∧ bootBuiltins (Str.ofString "str") = some (.type "str") ∧ Str.ofString "str" ≠ "__name__" := ⟨by kernel_rfl, by decide +kernel, by decide +kernel⟩
theorem n_range (w : World) : nsIn (KK w) mainGlobals (Str.ofString "range") = some none ∧ bootBuiltins (Str.ofString "range") = some (.type "range") ∧ Str.ofString "range" ≠ "__name__" := ⟨by kernel_rfl, by decide +kernel, by decide +kernel⟩

/-- lists in the ledger -/
def isL (o : Obj) (its : Array Value) : Prop := o.cls = .type "list" ∧ ∃ n, o.data = .seq its n
theorem isL.at {its : Array Value} (k : isL o its) (e : h.get? D = some o) : h.IsList D its := ⟨o, e, k.1, k.2⟩
theorem isL.mk (its : Array Value) (c : Nat) : isL { cls := .type "list", data := .seq its c } its := ⟨rfl, c, rfl⟩
theorem St.atI (S : St w h₀ L h ns vs nw) {i : Nat} {p : Addr × Obj} (e : nw[i]? = some p) : h.get? p.1 = some p.2 := (S.N p (List.mem_of_getElem? e)).1
theorem b_len_l {its : Array Value} {Q : Value → Shared → Prop} (hl : h.IsList D its) (hz : its.size ≤ 1000000) (q : ∀ t' k', Q (.int its.size t') ⟨h, g, d, k', os⟩) : WP w A (call (.builtin "len") [.ref D]) Q E ⟨h, g, d, t, os⟩ :=
  ⟨call_len_list hl (by omega) (q _ _)⟩
theorem b_true_l {its : Array Value} {Q : Bool → Shared → Prop} (hl : h.IsList D its) (hz : its.size ≤ 1000000) (q : ∀ k', Q (!its.isEmpty) ⟨h, g, d, k', os⟩) : WP w A (truthy (.ref D)) Q E ⟨h, g, d, t, os⟩ :=
  ⟨wpAny_truthy_list hl (by omega) (q _)⟩
/-- a thing of the ledger has changed -/
theorem St.swap {h' : Heap} {c : Addr} {o' : Obj} {i : Nat} (S : St w h₀ L h ns vs nw) (hi : nw[i]? = some (c, o)) (nd : (nw.map (·.1)).Nodup) (e : h'.get? c = some o') (k : ∀ b p, b ≠ c → h.get? b = some p → h'.get? b = some p) :
    St w h₀ L h' ns vs (nw.set i (c, o')) := by
  have m := List.mem_of_getElem? hi
  refine ⟨?_, fun b p e' => k b p (fun z => by rw [z, (S.N _ m).2.2] at e'; cases e') (S.keep _ _ e'), S.off, fun p hp => ?_, S.W⟩
  · obtain ⟨p, es, ep, e, r⟩ := S.F
    exact ⟨p, es, ep, k _ _ (Ne.symm (S.N _ m).2.1) e, r⟩
  · obtain ⟨j, hj⟩ := List.getElem?_of_mem hp
    rw [List.getElem?_set] at hj
    have hlt : i < nw.length := by
      rcases Nat.lt_or_ge i nw.length with z | z
      · exact z
      · rw [List.getElem?_eq_none z] at hi; cases hi
    by_cases q : i = j
    · subst q
      rw [if_pos rfl, if_pos hlt] at hj
      cases hj
      exact ⟨e, (S.N _ m).2⟩
    · rw [if_neg q] at hj
      have mp := List.mem_of_getElem? hj
      refine ⟨k _ _ (fun z => q ?_) (S.N _ mp).1, (S.N _ mp).2⟩
      have hjl : j < nw.length := by
        rcases Nat.lt_or_ge j nw.length with z | z
        · exact z
        · rw [List.getElem?_eq_none z] at hj; cases hj
      refine (List.getElem_inj (xs := nw.map (·.1)) (h₀ := by simpa using hlt) (h₁ := by simpa using hjl) nd).mp ?_
      rw [List.getElem_map, List.getElem_map]
      have e1 : nw[i] = (c, o) := Option.some.inj ((List.getElem?_eq_getElem hlt).symm.trans hi)
      have e2 : nw[j] = p := Option.some.inj ((List.getElem?_eq_getElem hjl).symm.trans hj)
      rw [e1, e2]; exact z.symm
theorem b_append {its : Array Value} {x : Value} {c : Nat} {i : Nat} {Q : Value → Shared → Prop} (S : St w h₀ L h ns vs nw) (hi : nw[i]? = some (D, { cls := .type "list", data := .seq its c })) (nd : (nw.map (·.1)).Nodup) (hz : its.size ≤ 1000000)
    (q : ∀ h' c', St w h₀ L h' ns vs (nw.set i (D, { cls := .type "list", data := .seq (its.push x) c' })) → Q .none ⟨h', g, d, t, os⟩) : WP w A (call (.builtin "list.append") [.ref D, x]) Q E ⟨h, g, d, t, os⟩ := by
  refine ⟨wpAny_list_append_plain (s := ⟨h, g, d, t, os⟩) (hsz := by rw [sizeLine_eq]; omega) ⟨c, S.atI hi⟩ fun h' hl' hs' => ?_⟩
  obtain ⟨c', e'⟩ := hl'
  exact q h' c' (S.swap hi nd e' fun b p n e => (hs'.2 b n).trans e)
theorem St.fresh (S : St w h₀ L h ns vs nw) (e : h.get? D = none) : D ∉ nw.map (·.1) := fun m => by
  obtain ⟨p, hp, rfl⟩ := List.mem_map.mp m
  rw [(S.N p hp).1] at e; cases e
theorem St.freshL (S : St w h₀ L h ns vs nw) (e : h.get? D = none) : D ≠ L := fun q => by obtain ⟨o, es, ep, e', _⟩ := S.F; rw [q, e'] at e; cases e
theorem St.fresh0 (S : St w h₀ L h ns vs nw) (e : h.get? D = none) : h₀.get? D = none := by
  cases q : h₀.get? D with
  | none => rfl
  | some o => rw [S.keep _ _ q] at e; cases e
/-- after `_law_heard` -/
theorem St.upsL {h' : Heap} (S : St w h₀ L h ns vs nw) (U : Ups [L] h h') : St w h₀ L h' ns vs nw :=
  S.ups (outs := [L]) (.head _) (fun c hc => .inl (List.mem_singleton.mp hc)) (fun p hp => by rw [List.mem_singleton]; exact (S.N p hp).2.1) U
/-- a cell written -/
theorem r_cset {x : Str} {v : Value} {v₀ : Option Value} {c : Addr} {i : Nat} {Q : Unit → Shared → Prop} (S : St w h₀ L h ns vs nw) (nd : (nw.map (·.1)).Nodup) (hi : nw[i]? = some (c, o)) (ho : o.data = .cell v₀) (hc : env.cells.lookup x = some c)
    (q : ∀ h' o', o'.data = .cell (some v) → St w h₀ L h' ns vs (nw.set i (c, o')) → Q () ⟨h', g, d, t, os⟩)
    (hk : env.scope.kind = .function := by kernel_rfl) (hl : env.kindOf x = some .cell := by kernel_rfl) : WP w A (storeName env x v) Q E ⟨h, g, d, t, os⟩ := by
  refine ⟨wpAny_storeName_cell (s := ⟨h, g, d, t, os⟩) hk hl hc ⟨o, S.atI hi, ho⟩ fun h' hc' hs' => ?_⟩
  obtain ⟨o', e', d'⟩ := hc'
  exact q h' o' d' (S.swap hi nd e' fun b p n e => (hs'.2 b n).trans e)
theorem b_setitem {its : Array Value} {v : Value} {k : Int} {u : Tok} {i : Nat} {Q : Unit → Shared → Prop} (S : St w h₀ L h ns vs nw) (nd : (nw.map (·.1)).Nodup) (hi : nw[i]? = some (D, o)) (hl : isL o its) (h0 : 0 ≤ k) (hk : k < its.size) (hz : its.size ≤ 1000000)
    (q : ∀ h' o', isL o' (its.setIfInBounds k.toNat v) → St w h₀ L h' ns vs (nw.set i (D, o')) → Q () ⟨h', g, d, t, os⟩) : WP w A (setItem (.ref D) (.int k u) v) Q E ⟨h, g, d, t, os⟩ := by
  refine ⟨wpAny_setItem_list (s := ⟨h, g, d, t, os⟩) (hl.at (S.atI hi)) h0 (by omega) hk fun h' hl' hs' => ?_⟩
  obtain ⟨o', e', c', n'⟩ := hl'
  exact q h' o' ⟨c', n'⟩ (S.swap hi nd e' fun b p n e => (hs'.2 b n).trans e)
theorem r_seti {oe ie value : Expr} {pos' : Pos} {Q : Flow → Shared → Prop} {s : Shared}
    (hv : WP w A (eval value env) (fun v s₁ => WP w A (eval oe env) (fun ov s₂ => WP w A (eval ie env) (fun iv s₃ => WP w A (setItem ov iv v) (fun _ => Q .next) E s₃) E s₂) E s₁) E s)
    (hs : swapsWith value (some (.Subscript oe ie pos')) pos.line env = pure false := by rfl) : WP w A (exec (.Assign [.Subscript oe ie pos'] value pos) env) Q E s :=
  ⟨wpAny_Assign_Subscript (hv.to fun _ _ x => x.to fun _ _ x => x.to fun _ _ x => x.out) hs⟩
theorem r_augi {oe value : Expr} {n : Str} {np pos' : Pos} {op : Operator} {Q : Flow → Shared → Prop} {s : Shared}
    (hv : WP w A (eval oe env) (fun ov s₁ => WP w A (eval (.Name n np) env) (fun iv s₂ => WP w A (getItem ov iv) (fun old s₃ => WP w A (eval value env) (fun v s₄ => WP w A (inplaceOp op old v) (fun new s₅ => WP w A (setItem ov iv new) (fun _ => Q .next) E s₅) E s₄) E s₃) E s₂) E s₁) E s) :
    WP w A (exec (.AugAssign (.Subscript oe (.Name n np) pos') op value pos) env) Q E s :=
  ⟨wpAny_AugAssign_Subscript (hv.to fun _ _ x => x.to fun _ _ x => x.to fun _ _ x => x.to fun _ _ x => x.to fun _ _ x => x.out)⟩
theorem b_lget {its : Array Value} {k : Int} {u : Tok} {x : Value} {Q : Value → Shared → Prop} {s : Shared} (hl : s.heap.IsList D its) (h0 : 0 ≤ k) (hk : k < 1000000) (hx : its[k.toNat]? = some x) (q : Q x s) : WP w A (getItem (.ref D) (.int k u)) Q E s :=
  ⟨wpAny_getItem_list hl h0 (by omega) hx q⟩
theorem r_lget_name {value : Expr} {n : Str} {p : Pos} {Q : Value → Shared → Prop} {s : Shared}
    (hv : WP w A (eval value env) (fun o s₁ => WP w A (eval (.Name n p) env) (fun i s₂ => ∃ l its k u x, o = .ref l ∧ i = .int k u ∧ s₂.heap.IsList l its ∧ 0 ≤ k ∧ k < 1000000 ∧ its[k.toNat]? = some x ∧ Q x s₂) E s₁) E s)
    (ht : ∀ o r, letTemporaryGo value o r = pure () := by intro _ _; rfl) : WP w A (eval (.Subscript value (.Name n p) pos) env) Q E s := by
  refine ⟨Subscript_Name (hv.to fun o s₁ h₁ => h₁.to fun i s₂ h₂ => ?_) ht⟩
  obtain ⟨l, its, k, u, x, rfl, rfl, hl, h0, hk, hx, q⟩ := h₂
  exact ⟨"list", _, list_getitem_lookup, hl.typeIs, wpAny_getItem_list hl h0 (by omega) hx q⟩
theorem r_lget_bin {value e₁ e₂ : Expr} {op : Operator} {p : Pos} {Q : Value → Shared → Prop} {s : Shared}
    (hv : WP w A (eval value env) (fun o s₁ => WP w A (eval (.BinOp e₁ op e₂ p) env) (fun i s₂ => ∃ l its k u x, o = .ref l ∧ i = .int k u ∧ s₂.heap.IsList l its ∧ 0 ≤ k ∧ k < 1000000 ∧ its[k.toNat]? = some x ∧ Q x s₂) E s₁) E s)
    (ht : ∀ o r, letTemporaryGo value o r = pure () := by intro _ _; rfl) : WP w A (eval (.Subscript value (.BinOp e₁ op e₂ p) pos) env) Q E s := by
  refine ⟨Subscript_BinOp (hv.to fun o s₁ h₁ => h₁.to fun i s₂ h₂ => ?_) ht⟩
  obtain ⟨l, its, k, u, x, rfl, rfl, hl, h0, hk, hx, q⟩ := h₂
  exact ⟨"list", _, list_getitem_lookup, hl.typeIs, wpAny_getItem_list hl h0 (by omega) hx q⟩
theorem r_tget_bin {value e₁ e₂ : Expr} {op : Operator} {p : Pos} {Q : Value → Shared → Prop} {s : Shared}
    (hv : WP w A (eval value env) (fun o s₁ => WP w A (eval (.BinOp e₁ op e₂ p) env) (fun i s₂ => ∃ l vs k u x, o = .ref l ∧ i = .int k u ∧ s₂.heap.get? l = some (tup vs) ∧ 0 ≤ k ∧ k < 1000000 ∧ vs[k.toNat]? = some x ∧ Q x s₂) E s₁) E s)
    (ht : ∀ o r, letTemporaryGo value o r = pure () := by intro _ _; rfl) : WP w A (eval (.Subscript value (.BinOp e₁ op e₂ p) pos) env) Q E s := by
  refine ⟨Subscript_BinOp (hv.to fun o s₁ h₁ => h₁.to fun i s₂ h₂ => ?_) ht⟩
  obtain ⟨l, vs, k, u, x, rfl, rfl, hl, h0, hk, hx, q⟩ := h₂
  have hlt : k.toNat < vs.length := by
    rcases Nat.lt_or_ge k.toNat vs.length with z | z
    · exact z
    · rw [List.getElem?_eq_none z] at hx; cases hx
  refine ⟨"tuple", _, F.slot_tuple_getitem.lookup, ⟨_, hl, rfl⟩, P.getItem_tuple (items := vs.toArray) (n := 0) (k := k.toNat) hl (by omega) (by omega) ?_ (by simpa using hx) q⟩
  have e1 : ¬ (k < 0) := by omega
  have e2 : (decide (0 ≤ k) && decide (k < ((vs.toArray.size : Nat) : Int))) = true := by simp; omega
  simp only [seqIndex?, if_neg e1, e2, if_true]
theorem r_lst0 {Q : Value → Shared → Prop} {s : Shared} (q : Q (.ref s.heap.objs.size) { s with heap := s.heap.push { cls := .type "list", data := .seq #[] } }) : WP w A (eval (.List [] pos) env) Q E s :=
  ⟨wpAny_List_spliced (sp_nil (w := w) (A := A) (E := E) (Q := fun vs s₁ => vs.length ≤ sizeLine ∧ Q (.ref s₁.heap.objs.size) { s₁ with heap := s₁.heap.push { cls := .type "list", data := .seq vs.toArray } }) ⟨Nat.zero_le _, q⟩).out⟩
theorem r_lst1 {e₁ : Expr} {Q : Value → Shared → Prop} {s : Shared} (q : WP w A (eval e₁ env) (fun v s₁ => Q (.ref s₁.heap.objs.size) { s₁ with heap := s₁.heap.push { cls := .type "list", data := .seq #[v] } }) E s)
    (he₁ : starEach [e₁] env = (false, eval e₁ env) :: starEach [] env := by rfl) : WP w A (eval (.List [e₁] pos) env) Q E s :=
  ⟨wpAny_List_spliced (sp_cons (w := w) (A := A) (E := E) (Q := fun vs s₁ => vs.length ≤ sizeLine ∧ Q (.ref s₁.heap.objs.size) { s₁ with heap := s₁.heap.push { cls := .type "list", data := .seq vs.toArray } }) he₁ (q.monoQ fun _ _ x => sp_nil ⟨by simp [sizeLine_eq], x⟩)).out⟩
theorem r_lst3 {e₁ e₂ e₃ : Expr} {Q : Value → Shared → Prop} {s : Shared} (q : WP w A (eval e₁ env) (fun v₁ s₁ => WP w A (eval e₂ env) (fun v₂ s₂ => WP w A (eval e₃ env) (fun v₃ s₃ => Q (.ref s₃.heap.objs.size) { s₃ with heap := s₃.heap.push { cls := .type "list", data := .seq #[v₁, v₂, v₃] } }) E s₂) E s₁) E s)
    (he₁ : starEach [e₁, e₂, e₃] env = (false, eval e₁ env) :: starEach [e₂, e₃] env := by rfl) (he₂ : starEach [e₂, e₃] env = (false, eval e₂ env) :: starEach [e₃] env := by rfl) (he₃ : starEach [e₃] env = (false, eval e₃ env) :: starEach [] env := by rfl) : WP w A (eval (.List [e₁, e₂, e₃] pos) env) Q E s :=
  ⟨wpAny_List_spliced (sp_cons (w := w) (A := A) (E := E) (Q := fun vs s₁ => vs.length ≤ sizeLine ∧ Q (.ref s₁.heap.objs.size) { s₁ with heap := s₁.heap.push { cls := .type "list", data := .seq vs.toArray } }) he₁ (q.monoQ fun _ _ x => sp_cons he₂ (x.monoQ fun _ _ x => sp_cons he₃ (x.monoQ fun _ _ x => sp_nil ⟨by simp [sizeLine_eq], x⟩)))).out⟩
theorem b_ne_l {a b : Addr} {xs ys : Array Value} {Q : Value → Shared → Prop} {s : Shared} (ha : s.heap.IsList a xs) (hb : s.heap.IsList b ys) (hu : A.units < cLine) (hz : xs.size = ys.size)
    (he : ∀ j (h1 : j < xs.size) (h2 : j < ys.size), SeqAt.EqAt A.in1 s xs[j] ys[j] true) (q : Q (.bool false) s) : WP w A (compareOp .NotEq (.ref a) (.ref b)) Q E s := by
  refine ⟨SeqAt.RcNeAt.lists (e := fun _ => true) ha hb hz hu he pg w E Q ?_⟩
  rw [show (List.range xs.size).all (fun _ => true) = true from List.all_eq_true.mpr fun _ _ => rfl]
  exact q
theorem b_eq_l {a b : Addr} {xs ys : Array Value} {Q : Value → Shared → Prop} {s : Shared} (ha : s.heap.IsList a xs) (hb : s.heap.IsList b ys) (hu : A.units < cLine) (hz : xs.size = ys.size)
    (he : ∀ j (h1 : j < xs.size) (h2 : j < ys.size), SeqAt.EqAt A.in1 s xs[j] ys[j] true) (q : Q (.bool true) s) : WP w A (compareOp .Eq (.ref a) (.ref b)) Q E s := by
  refine ⟨SeqAt.RcAt.lists (e := fun _ => true) ha hb hz hu he pg w E Q ?_⟩
  rw [show (List.range xs.size).all (fun _ => true) = true from List.all_eq_true.mpr fun _ _ => rfl]
  exact q
theorem StrsAre.get : ∀ {vs : List Value} {ws : List Str}, StrsAre vs ws → ∀ (j : Nat) (hj : j < vs.length) (hj' : j < ws.length), ∃ t, vs[j] = .str ws[j] t
  | _, _, .cons y t h, 0, _, _ => ⟨t, rfl⟩
  | _, _, .cons y t h, j + 1, hj, hj' => StrsAre.get h j (by simpa using hj) (by simpa using hj')
theorem eq_strs {s : Shared} {a b : Addr} {xs ys : Array Value} {ws : List Str} (ha : s.heap.IsList a xs) (hb : s.heap.IsList b ys) (hu : A.units < cLine) (hx : StrsAre xs.toList ws) (hy : StrsAre ys.toList ws) (hne : a ≠ b) : SeqAt.EqAt A s (.ref a) (.ref b) true := by
  have l1 := StrsAre.length hx
  have l2 := StrsAre.length hy
  have z1 : xs.toList.length = xs.size := by simp
  have z2 : ys.toList.length = ys.size := by simp
  have k := SeqAt.RcAt.lists (A := A) (e := fun _ => true) ha hb (by omega) hu (fun j h1 h2 => by
    obtain ⟨t, e⟩ := StrsAre.get hx j (by omega) (by omega)
    obtain ⟨u, e'⟩ := StrsAre.get hy j (by omega) (by omega)
    rw [Array.getElem_toList] at e e'
    rw [e, e']
    have := SeqAt.EqAt.str_str (A := A.in1) (s := s) (ws[j]'(by omega)) t (ws[j]'(by omega)) u
    rwa [beq_self_eq_true] at this)
  rw [show (List.range xs.size).all (fun _ => true) = true from List.all_eq_true.mpr fun _ _ => rfl] at k
  exact SeqAt.EqAt.of_refs hne k
/-- two lists of the same texts -/
theorem b_ne_strs {a b : Addr} {xs ys : Array Value} {ws : List Str} {Q : Value → Shared → Prop} {s : Shared} (ha : s.heap.IsList a xs) (hb : s.heap.IsList b ys) (hu : A.units < cLine) (hx : StrsAre xs.toList ws) (hy : StrsAre ys.toList ws)
    (q : Q (.bool false) s) : WP w A (compareOp .NotEq (.ref a) (.ref b)) Q E s := by
  have l1 := StrsAre.length hx
  have l2 := StrsAre.length hy
  have z1 : xs.toList.length = xs.size := by simp
  have z2 : ys.toList.length = ys.size := by simp
  refine b_ne_l ha hb hu (by omega) (fun j h1 h2 => ?_) q
  obtain ⟨t, e⟩ := StrsAre.get hx j (by omega) (by omega)
  obtain ⟨u, e'⟩ := StrsAre.get hy j (by omega) (by omega)
  rw [Array.getElem_toList] at e e'
  rw [e, e']
  have := SeqAt.EqAt.str_str (A := A.in1) (s := s) (ws[j]'(by omega)) t (ws[j]'(by omega)) u
  rwa [beq_self_eq_true] at this
theorem b_eq_strs {a b : Addr} {xs ys : Array Value} {ws : List Str} {Q : Value → Shared → Prop} {s : Shared} (ha : s.heap.IsList a xs) (hb : s.heap.IsList b ys) (hu : A.units < cLine) (hx : StrsAre xs.toList ws) (hy : StrsAre ys.toList ws)
    (q : Q (.bool true) s) : WP w A (compareOp .Eq (.ref a) (.ref b)) Q E s := by
  have l1 := StrsAre.length hx
  have l2 := StrsAre.length hy
  have z1 : xs.toList.length = xs.size := by simp
  have z2 : ys.toList.length = ys.size := by simp
  refine b_eq_l ha hb hu (by omega) (fun j h1 h2 => ?_) q
  obtain ⟨t, e⟩ := StrsAre.get hx j (by omega) (by omega)
  obtain ⟨u, e'⟩ := StrsAre.get hy j (by omega) (by omega)
  rw [Array.getElem_toList] at e e'
  rw [e, e']
  have := SeqAt.EqAt.str_str (A := A.in1) (s := s) (ws[j]'(by omega)) t (ws[j]'(by omega)) u
  rwa [beq_self_eq_true] at this
/-- two lists of the same truths -/
theorem b_ne_bools {a b : Addr} {xs ys : Array Value} {bs : List Bool} {Q : Value → Shared → Prop} {s : Shared} (ha : s.heap.IsList a xs) (hb : s.heap.IsList b ys) (hu : A.units < cLine) (hx : xs.toList = bs.map .bool) (hy : ys.toList = bs.map .bool)
    (q : Q (.bool false) s) : WP w A (compareOp .NotEq (.ref a) (.ref b)) Q E s := by
  have e : xs = ys := Array.toList_inj.mp (hx.trans hy.symm)
  subst e
  exact b_ne_l ha hb hu rfl (fun j h1 h2 => SeqAt.EqAt.same _) q
/-- a tuple of a text and a list of texts -/
def TupAt (h : Heap) (y : Value) (x : Str) (ws : List Str) : Prop := ∃ T u Dn, y = .ref T ∧ h.get? T = some (tup [.str x u, .ref Dn]) ∧ ListAt h Dn ws
theorem Pget {α β : Type} {F : α → β → Prop} : ∀ {l₁ : List α} {l₂ : List β}, Paired F l₁ l₂ → ∀ (j : Nat) (h₁ : j < l₁.length) (h₂ : j < l₂.length), F l₁[j] l₂[j]
  | _, _, .cons x y, 0, _, _ => x
  | _, _, .cons x y, j + 1, h₁, h₂ => Pget y j (by simpa using h₁) (by simpa using h₂)
theorem eq_tups {s : Shared} {y y' : Value} {x : Str} {ws : List Str} (hy : TupAt s.heap y x ws) (hy' : TupAt s.heap y' x ws) (hu : A.units + 1 < cLine) : SeqAt.EqAt A s y y' true := by
  obtain ⟨T, u, Dn, rfl, hT, hD⟩ := hy
  obtain ⟨T', u', Dn', rfl, hT', hD'⟩ := hy'
  by_cases q : T = T'
  · subst q; exact SeqAt.EqAt.same _
  have k := SeqAt.RcAt.tuples (A := A) (s := s) (l := T) (b := T') (items := [Value.str x u, .ref Dn].toArray) (items2 := [Value.str x u', .ref Dn'].toArray) (e := fun _ => true) ⟨_, hT, rfl, 0, rfl⟩ ⟨_, hT', rfl, 0, rfl⟩ (by omega) (fun j h1 h2 => by
    match j, h1, h2 with
    | 0, _, _ =>
      have := SeqAt.EqAt.str_str (A := A.in1) (s := s) x u x u'
      rw [beq_self_eq_true] at this
      exact this
    | 1, _, _ =>
      show SeqAt.EqAt A.in1 s (.ref Dn) (.ref Dn') true
      by_cases q : Dn = Dn'
      · subst q; exact SeqAt.EqAt.same _
      obtain ⟨its, hl, hs⟩ := hD.isList
      obtain ⟨its', hl', hs'⟩ := hD'.isList
      exact eq_strs hl hl' hu hs hs' q)
  exact SeqAt.EqAt.of_refs q k
theorem b_ne_tups {a b : Addr} {xs ys : Array Value} {l : List (Str × List Str)} {Q : Value → Shared → Prop} {s : Shared} (ha : s.heap.IsList a xs) (hb : s.heap.IsList b ys) (hu : A.units + 2 < cLine) (hx : Paired (fun y p => TupAt s.heap y p.1 p.2) xs.toList l) (hy : Paired (fun y p => TupAt s.heap y p.1 p.2) ys.toList l)
    (q : Q (.bool false) s) : WP w A (compareOp .NotEq (.ref a) (.ref b)) Q E s := by
  have l1 := hx.length
  have l2 := hy.length
  have z1 : xs.toList.length = xs.size := by simp
  have z2 : ys.toList.length = ys.size := by simp
  refine b_ne_l ha hb (by omega) (by omega) (fun j h1 h2 => ?_) q
  have p1 := Pget hx j (by omega) (by omega)
  have p2 := Pget hy j (by omega) (by omega)
  rw [Array.getElem_toList] at p1 p2
  exact eq_tups p1 p2 (by show A.units + 1 + 1 < cLine; omega)
end
end Mine
end
section
open PySem PySem.W PyProof.Rows PySem.Calls Builtin.ObjectAttr Builtin.Getset_descriptor
set_option Elab.async false
set_option maxRecDepth 100000
set_option maxHeartbeats 1000000
namespace Mine
section
variable {w : World} {A : Around} {E : Value → Shared → Prop} {h h₁ : Heap} {g : Array GenState} {d : Drawn} {t : Nat} {os : OsState} {env : Env} {scope : Scope} {cl : List (Str × Addr)}
/-- what an element's value keeps meaning as long as the old things and its own new ones stand -/
def Own (h₁ h₃ h₄ : Heap) (P : Heap → Prop) : Prop := ∀ hb, h₁.StaysIn hb → (∀ b o, h₃.get? b = none → h₄.get? b = some o → hb.get? b = some o) → P hb
/-- a comprehension over a list, its values speaking of the heap -/
structure EachH (w : World) (A : Around) (env : Env) (scope : Scope) (cl : List (Str × Addr)) (x : Str) (ifs : List Expr) (elt : Expr) (h₁ : Heap) (items : Array Value) (p : Value → Bool) (F : Heap → Value → Value → Prop) : Prop where
  tests : ∀ C v h₃ (g : Array GenState) (d : Drawn) (os : OsState) t₃ m₃ E', (∃ i : Nat, items[i]? = some v) → h₁.StaysIn h₃ → h₃.Ns C m₃ → m₃ x = some v →
    WP w A (forIn ifs true fun c r => if r = true then do let ok ← isTrue c (compEnvC scope cl C env) (eval c (compEnvC scope cl C env)); pure (ForInStep.yield ok) else pure (ForInStep.yield r))
      (fun ok s₄ => ok = p v ∧ ∃ h₄ t₄, s₄ = ⟨h₄, g, d, t₄, os⟩ ∧ h₃.StaysIn h₄) E' ⟨h₃, g, d, t₃, os⟩
  elt : ∀ C v h₃ (g : Array GenState) (d : Drawn) (os : OsState) t₃ m₃ E', (∃ i : Nat, items[i]? = some v) → p v = true → h₁.StaysIn h₃ → h₃.Ns C m₃ → m₃ x = some v →
    WP w A (eval elt (compEnvC scope cl C env)) (fun y s₄ => ∃ h₄ t₄, s₄ = ⟨h₄, g, d, t₄, os⟩ ∧ h₃.StaysIn h₄ ∧ Own h₁ h₃ h₄ (fun hb => F hb v y)) E' ⟨h₃, g, d, t₃, os⟩

def FF (h₁ : Heap) (C D : Addr) (wr : List Addr) (F : Heap → Value → Value → Prop) (h : Heap) (v y : Value) : Prop :=
  ∀ hb, h₁.StaysIn hb → (∀ b o, b ≠ C → b ∉ wr → b ≠ D → h.get? b = some o → hb.get? b = some o) → F hb v y
theorem FF.mono {C D : Addr} {wr : List Addr} {F : Heap → Value → Value → Prop} {h h' : Heap} {v y : Value} (x : FF h₁ C D wr F h v y) (k : ∀ b o, b ≠ C → b ∉ wr → b ≠ D → h.get? b = some o → h'.get? b = some o) : FF h₁ C D wr F h' v y :=
  fun hb k₁ k₂ => x hb k₁ fun b o n₁ n₂ n₃ e => k₂ b o n₁ n₂ n₃ (k b o n₁ n₂ n₃ e)

theorem loopF {elt iter : Expr} {x : Str} {px pos : Pos} {ifs : List Expr} {I C D : Addr} {ax : Addr} {items : Array Value} {m : Str → Option Value} {R : Result → Shared → Prop} (p : Value → Bool) (F : Heap → Value → Value → Prop) (hh : A.handled = none)
    (hkind : scope.kind = .function) (hx : scope.names.lookup x = some .local) (hz : items.size ≤ sizeLine)
    (hDC : D ≠ C) (hDI : D ≠ I) (hCI : C ≠ I) (hax : ax ≠ I) (haC : ax ≠ C) (haD : ax ≠ D)
    (hit : h.IsListIter I ax 0) (hl : h₁.IsList ax items) (hacc : h.PlainList D #[]) (hn : h.Ns C m) (k : h₁.StaysIn h) (nC : h₁.get? C = none) (nD : h₁.get? D = none) (nI : h₁.get? I = none)
    (Y : EachH w A env scope cl x ifs elt h₁ items p F)
    (fin : ∀ h' tk m' ys, h'.Ns C m' → h'.PlainList D ys → Paired (FF h₁ C D [I] F h') (items.toList.filter p) ys.toList → (∀ b o, b ≠ C → b ≠ I → b ≠ D → h.get? b = some o → h'.get? b = some o) → R (.ok .next) ⟨h', g, d, tk, os⟩) :
    codeAny (MM w) A (.compLoop (.ListComp elt [⟨.Name x px, iter, ifs, 0⟩] scope pos) 0 (.ref I) (.ref D) (compEnvC scope cl C env)) R ⟨h, g, d, t, os⟩ := by
  have W := Walks.list (prog := pg) (w := w) hh I ax hax items
  have kof : (compEnvC scope cl C env).kindOf x = some .local := lookup_relabel_local hx
  have kp : ((compEnvC scope cl C env).scope.kind == .class || ((compEnvC scope cl C env).scope.kind == .module && (compEnvC scope cl C env).locals != (compEnvC scope cl C env).globals)) = false := by simp [compEnvC, relabel, hkind]
  have old : ∀ {h' : Heap}, (∀ b o, b ≠ C → b ≠ I → b ≠ D → h.get? b = some o → h'.get? b = some o) → h₁.StaysIn h' := fun {h'} kk b o e =>
    kk b o (fun q => by rw [q, nC] at e; cases e) (fun q => by rw [q, nI] at e; cases e) (fun q => by rw [q, nD] at e; cases e) (k _ _ e)
  refine codeAny_compLoop_tests
    (fun n s' => ∃ h' tk m' ys, ∃ vs : List Value, s' = ⟨h', g, d, tk, os⟩ ∧ (h'.IsListIter I ax vs.length ∧ h'.IsList ax items) ∧ h'.PlainList D ys ∧ h'.Ns C m' ∧ (∀ j v, vs[j]? = some v → items[j]? = some v) ∧
      Paired (FF h₁ C D [I] F h') (vs.filter p) ys.toList ∧ vs.length ≤ items.size ∧ n = items.size + 1 - vs.length ∧ (∀ b o, b ≠ C → b ≠ I → b ≠ D → h.get? b = some o → h'.get? b = some o)) ?_ (items.size + 1)
    ⟨h, t, m, #[], [], rfl, ⟨hit, hl.at fun o e => k _ _ e⟩, hacc, hn, fun j v hj => (by rw [List.getElem?_nil] at hj; cases hj), .nil, Nat.zero_le _, rfl, fun _ _ _ _ _ e => e⟩
  rintro n s' ⟨H, tk, m', ys, vs, rfl, hst, hacc', hn', hP, hF, hi, rfl, hk⟩
  by_cases hlt : vs.length < items.size
  · refine W.item vs.length _ _ _ hlt hst fun v h₂ tk₂ hPv hst₂ hk₂ => ?_
    have k2 : ∀ b o, b ≠ I → H.get? b = some o → h₂.get? b = some o := fun b o n e => hk₂ b o (by simpa using n) e
    refine wpAny_assign_Name (wpAny_storeName_local kof (hn'.at' fun o e => k2 _ o hCI e) (fun h₃ hn₃ hs₃ => ?_) kp)
    have k3 : ∀ b o, b ≠ C → b ≠ I → H.get? b = some o → h₃.get? b = some o := fun b o n₁ n₂ e => hs₃.extBut b o n₁ (k2 b o n₂ e)
    have kk3 : ∀ b o, b ≠ C → b ≠ I → b ≠ D → h.get? b = some o → h₃.get? b = some o := fun b o n₁ n₂ n₃ e => k3 b o n₁ n₂ (hk b o n₁ n₂ n₃ e)
    have st3 : h₃.IsListIter I ax (vs.length + 1) ∧ h₃.IsList ax items := ⟨hst₂.1.at fun o e => hs₃.extBut _ _ (Ne.symm hCI) e, hst₂.2.at fun o e => hs₃.extBut _ _ haC e⟩
    refine (Y.tests C v h₃ g d os _ _ _ ⟨_, hPv⟩ (old kk3) hn₃ (by simp)).to fun ok s₄ z => ?_
    obtain ⟨rfl, h₄, t₄, rfl, hk₄⟩ := z
    have hP' : ∀ j u, (vs ++ [v])[j]? = some u → items[j]? = some u := fun j u hj => by
      rcases Nat.lt_trichotomy j vs.length with z | z | z
      · exact hP j u (by rwa [List.getElem?_append_left z] at hj)
      · subst z; simp at hj; subst hj; exact hPv
      · rw [List.getElem?_eq_none (by rw [List.length_append, List.length_singleton]; omega)] at hj; cases hj
    have st4 : h₄.IsListIter I ax (vs.length + 1) ∧ h₄.IsList ax items := ⟨st3.1.at fun o e => hk₄ _ _ e, st3.2.at fun o e => hk₄ _ _ e⟩
    have hacc₄ : h₄.PlainList D ys := hacc'.at fun o e => hk₄ _ o (k3 D o hDC hDI e)
    have kk4 : ∀ b o, b ≠ C → b ≠ I → b ≠ D → h.get? b = some o → h₄.get? b = some o := fun b o n₁ n₂ n₃ e => hk₄ _ _ (kk3 b o n₁ n₂ n₃ e)
    have hF₄ : Paired (FF h₁ C D [I] F h₄) (vs.filter p) ys.toList := hF.mono fun _ _ y => y.mono fun b o n₁ n₂ n₃ e => hk₄ _ _ (k3 b o n₁ (by simpa using n₂) e)
    have len1 : (vs ++ [v]).length = vs.length + 1 := by rw [List.length_append, List.length_singleton]
    cases hpv : p v with
    | false =>
      simp only [Bool.false_eq_true, if_false]
      refine ⟨items.size + 1 - (vs.length + 1), by omega, h₄, t₄, _, ys, vs ++ [v], rfl, by rw [len1]; exact st4, hacc₄, hn₃.keeps hk₄, hP', ?_, by rw [len1]; exact hlt, by rw [len1], kk4⟩
      rw [List.filter_append]; simpa [hpv] using hF₄
    | true =>
      simp only [if_true]
      refine (Y.elt C v h₄ g d os _ _ _ ⟨_, hPv⟩ hpv (old kk4) (hn₃.keeps hk₄) (by simp)).to fun y s₅ z => ?_
      obtain ⟨h₅, t₅, rfl, hk₅, O⟩ := z
      have hys : ys.size ≤ sizeLine := by
        have e1 := hF.length
        have e2 : (vs.filter p).length ≤ vs.length := List.length_filter_le _ _
        have e4 : ys.toList.length = ys.size := by simp
        omega
      refine wpAny_list_append_plain (hsz := hys) (hacc₄.at fun o e => hk₅ _ o e) fun h₆ hl₆ hs₆ => ?_
      have st6 : h₆.IsListIter I ax (vs.length + 1) ∧ h₆.IsList ax items := ⟨st4.1.at fun o e => hs₆.extBut _ _ (Ne.symm hDI) (hk₅ _ _ e), st4.2.at fun o e => hs₆.extBut _ _ haD (hk₅ _ _ e)⟩
      refine ⟨items.size + 1 - (vs.length + 1), by omega, h₆, t₅, _, ys.push y, vs ++ [v], rfl, by rw [len1]; exact st6, hl₆, ((hn₃.keeps hk₄).keeps hk₅).sameBut hs₆ (Ne.symm hDC), hP', ?_, by rw [len1]; exact hlt, by rw [len1], fun b o n₁ n₂ n₃ e => hs₆.extBut b o n₃ (hk₅ _ _ (kk4 b o n₁ n₂ n₃ e))⟩
      have hF₆ : Paired (FF h₁ C D [I] F h₆) (vs.filter p) ys.toList := hF₄.mono fun _ _ y => y.mono fun b o n₁ n₂ n₃ e => hs₆.extBut b o n₃ (hk₅ _ _ e)
      have hy : FF h₁ C D [I] F h₆ v y := fun hb k₁ k₂ => O hb k₁ fun b o e₁ e₂ => by
        have nC : b ≠ C := fun q => by obtain ⟨o', es, ep, e', _⟩ := hn₃.keeps hk₄; rw [q] at e₁; exact nomatch e'.symm.trans e₁
        have nD : b ≠ D := fun q => by obtain ⟨c', e'⟩ := hacc₄; rw [q, e'] at e₁; cases e₁
        have nI : b ≠ I := fun q => by obtain ⟨o', e', _⟩ := st4.1; rw [q, e'] at e₁; cases e₁
        exact k₂ b o nC (by simpa using nI) nD (hs₆.extBut b o nD e₂)
      rw [List.filter_append]; simpa [hpv] using Paired.snoc hF₆ hy
  · have hin : vs.length = items.size := by omega
    refine W.done _ _ _ (hin ▸ hst) fun h₂ tk₂ hk₂ => ?_
    have k2 : ∀ b o, b ≠ I → H.get? b = some o → h₂.get? b = some o := fun b o n e => hk₂ b o (by simpa using n) e
    have ev : vs = items.toList := by
      refine List.ext_getElem? fun j => ?_
      cases q : vs[j]? with
      | none =>
        have := List.getElem?_eq_none_iff.mp q
        rw [List.getElem?_eq_none (by rw [Array.length_toList]; omega)]
      | some v => have := hP j v q; simpa using this.symm
    subst ev
    exact fin h₂ tk₂ m' ys (hn'.at' fun o e => k2 _ o hCI e) (hacc'.at fun o e => k2 _ o hDI e) (hF.mono fun _ _ y => y.mono fun b o n₁ n₂ n₃ e => k2 b o (by simpa using n₂) e) fun b o n₁ n₂ n₃ e => k2 b o n₂ (hk b o n₁ n₂ n₃ e)
end
end Mine
end
section
open PySem PySem.W PyProof.Rows PySem.Calls Builtin.ObjectAttr Builtin.Getset_descriptor
set_option Elab.async false
set_option maxRecDepth 100000
set_option maxHeartbeats 1000000
namespace Mine
section
variable {w : World} {A : Around} {E : Value → Shared → Prop} {h h₁ : Heap} {g : Array GenState} {d : Drawn} {t : Nat} {os : OsState} {env : Env} {scope : Scope} {cl : List (Str × Addr)}
theorem r_lcompH {elt iter : Expr} {x : Str} {px pos : Pos} {ifs : List Expr} {Q : Value → Shared → Prop} {s : Shared} (p : Value → Bool) (F : Heap → Value → Value → Prop) (hh : A.handled = none)
    (hclos : closureFor scope env = pure cl) (hcell : (scope.names.all fun y => y.2 != .cell) = true) (hkind : scope.kind = .function)
    (hnames : (scope.names.all fun y => y.2 != .local || scope.names.lookup y.1 == some .local) = true) (hx : scope.names.lookup x = some .local)
    (hv : WP w A (eval iter env) (fun v s₁ => ∃ ax items h₁ t₁, v = .ref ax ∧ s₁ = ⟨h₁, g, d, t₁, os⟩ ∧ h₁.IsList ax items ∧ items.size ≤ sizeLine ∧ EachH w A env scope cl x ifs elt h₁ items p F ∧
      ∀ D h' tk ys, h₁.get? D = none → h'.PlainList D ys → Paired (F h') (items.toList.filter p) ys.toList → h₁.StaysIn h' → Q (.ref D) ⟨h', g, d, tk, os⟩) E s)
    (hs : ∀ x, foldedSetIterable iter env x = pure x := by intro _; rfl) :
    WP w A (eval (.ListComp elt [⟨.Name x px, iter, ifs, 0⟩] scope pos) env) Q E s := by
  have hcell' : ∀ y ∈ scope.names, y.2 ≠ .cell := fun y hy => by simpa using List.all_eq_true.mp hcell y hy
  refine ⟨?_⟩
  rw [eval_ListComp]
  refine wpAny_comprehension_free (use := none) rfl hs hclos hkind (fun y hy e => by have := List.all_eq_true.mp hnames y hy; simpa [e] using this) (hv.to fun v s₁ z => ?_)
  obtain ⟨ax, items, h₁, t₁, rfl, rfl, hl, hz, Y, hQ⟩ := z
  refine wpAny_pyIter_list (s := ⟨h₁, g, d, t₁, os⟩) hl ?_
  dsimp only
  generalize hI2 : h₁.push { cls := .type "list_iterator", data := .fields #[.ref ax, .int 0 0] } = hI
  have upI : h₁.StaysIn hI := fun b o e => hI2 ▸ Heap.get?_push_of_some _ e
  have itI : hI.IsListIter h₁.objs.size ax 0 := by rw [← hI2]; exact ⟨_, Heap.get?_push_size _ rfl, rfl, rfl⟩
  have szI : hI.objs.size = h₁.objs.size + 1 := by rw [← hI2, Heap.size_push]
  refine wpAny_newObj_type (wpAny_newFunctionEnv hcell' (by intro y hy; simp at hy) (fun h₃ hns₃ hsb₃ => ?_) hkind)
  dsimp only at hns₃ hsb₃ ⊢
  generalize hH2 : hI.push { cls := .type "list", dict := none, data := .seq ([] : List Value).toArray } = H2 at hns₃ hsb₃ ⊢
  have szH : H2.objs.size = h₁.objs.size + 2 := by rw [← hH2, Heap.size_push, szI]
  have lax : ax < h₁.objs.size := by obtain ⟨o, e, _⟩ := hl; exact Heap.lt_size e
  have none_ge : ∀ a, h₁.objs.size ≤ a → h₁.get? a = none := fun a ha => by
    cases e : h₁.get? a with
    | none => rfl
    | some o' => exact absurd (Heap.lt_size e) (Nat.not_lt.mpr ha)
  have oldI : ∀ b o, hI.get? b = some o → h₃.get? b = some o := fun b o e => hsb₃.extBut b o (by have := Heap.lt_size e; rw [szI] at this; rw [szH]; exact Nat.ne_of_lt (Nat.lt_succ_of_lt this)) (Heap.get?_push_of_some _ (by rw [← hH2]; exact Heap.get?_push_of_some _ e))
  have hacc : h₃.PlainList hI.objs.size #[] := ⟨_, hsb₃.extBut _ _ (by rw [szI, szH]; exact Nat.ne_of_lt (Nat.lt_succ_self _)) (Heap.get?_push_of_some _ (by rw [← hH2]; exact Heap.get?_push_size _ rfl))⟩
  have loop : ∀ s₃ : Shared, s₃ = ⟨h₃, g, d, t₁ + ([] : List (Str × Value)).length, os⟩ →
      codeAny (MM w) A (.compLoop (.ListComp elt [⟨.Name x px, iter, ifs, 0⟩] scope pos) 0 (.ref h₁.objs.size) (.ref hI.objs.size) (compEnvC scope cl H2.objs.size env))
        (compPost (MM w) A E none Q (.ref hI.objs.size) H2.objs.size) s₃ := by
    rintro s₃ rfl
    refine loopF (h₁ := h₁) (ax := ax) (items := items) p F hh hkind hx hz ?_ ?_ ?_ ?_ ?_ ?_ (itI.at fun o e => oldI _ _ e) hl hacc hns₃ (fun b o e => oldI _ _ (upI _ _ e)) (none_ge _ (by rw [szH]; exact Nat.le_add_right _ _)) (none_ge _ (by rw [szI]; exact Nat.le_add_right _ _)) (none_ge _ (Nat.le_refl _)) Y fun h' tk m' ys hn hpl hF hk => ?_
    · rw [szI, szH]; exact Nat.ne_of_lt (Nat.lt_succ_self _)
    · rw [szI]; exact Nat.ne_of_gt (Nat.lt_succ_self _)
    · rw [szH]; exact Nat.ne_of_gt (Nat.lt_succ_of_lt (Nat.lt_succ_self _))
    · exact Nat.ne_of_lt lax
    · rw [szH]; exact Nat.ne_of_lt (Nat.lt_of_lt_of_le lax (Nat.le_add_right _ _))
    · rw [szI]; exact Nat.ne_of_lt (Nat.lt_of_lt_of_le lax (Nat.le_add_right _ _))
    refine ⟨m', hn, fun h'' hs'' => ?_⟩
    have dc : hI.objs.size ≠ H2.objs.size := by rw [szI, szH]; exact Nat.ne_of_lt (Nat.lt_succ_self _)
    have kfin : h₁.StaysIn h'' := fun b o e => by
      have lb := Heap.lt_size e
      refine hs''.extBut b o (by rw [szH]; exact Nat.ne_of_lt (Nat.lt_of_lt_of_le lb (Nat.le_add_right _ _))) (hk b o (by rw [szH]; exact Nat.ne_of_lt (Nat.lt_of_lt_of_le lb (Nat.le_add_right _ _))) (Nat.ne_of_lt lb) (by rw [szI]; exact Nat.ne_of_lt (Nat.lt_of_lt_of_le lb (Nat.le_add_right _ _))) (oldI _ _ (upI _ _ e)))
    exact hQ hI.objs.size h'' tk ys (none_ge _ (by rw [szI]; exact Nat.le_add_right _ _)) (hpl.extBut hs''.extBut dc) (hF.mono fun v y z => z h'' kfin fun b o n₁ n₂ n₃ e => hs''.extBut b o n₁ e) kfin
  exact codeAny_compStart_list (loop _ rfl) (wpAny_pyIter_listiter (itI.at fun o e => oldI _ _ e) (loop _ rfl))
end
end Mine
end
section
open PySem PySem.W PyProof.Rows PySem.Calls
set_option Elab.async false
set_option maxRecDepth 100000
set_option maxHeartbeats 1000000
namespace Mine
/-- a text's signs -/
def tl (x : Str) : List Nat := x.cps.toList
def mk (l : List Nat) : Str := ⟨l.toArray⟩
theorem tl_mk (l : List Nat) : tl (mk l) = l := by simp [tl, mk]
theorem mk_tl (x : Str) : mk (tl x) = x := Str.ext' (by simp [tl, mk])
theorem tl_inj {x y : Str} (e : tl x = tl y) : x = y := by rw [← mk_tl x, e, mk_tl]
theorem tl_append (x y : Str) : tl (x ++ y) = tl x ++ tl y := by simp [tl, Str.cps_append]
theorem tl_len (x : Str) : (tl x).length = x.length := by simp [tl, Str.length]
theorem idx_clip (l u : Option Int) (n : Nat) (a b : Nat) (ha : match l with | none => a = 0 | some i => (a : Int) = max 0 (min i n) ∧ 0 ≤ i) (hb : match u with | none => b = n | some i => (b : Int) = max 0 (min i n) ∧ 0 ≤ i) :
    Builtin.Str.strSliceIndices l u 1 n = Builtin.Str.strSliceIndices (some (a : Int)) (some (b : Int)) 1 n := by
  unfold Builtin.Str.strSliceIndices
  simp only [show (1 : Int) > 0 from by decide, if_true]
  have han : (a : Int) ≤ n := by cases l <;> simp only at ha <;> omega
  have hbn : (b : Int) ≤ n := by cases u <;> simp only at hb <;> omega
  congr 1
  · cases l with
    | none => simp only at ha ⊢; subst ha; rw [if_neg (by omega)]; omega
    | some i => simp only at ha ⊢; rw [if_neg (by omega), if_neg (by omega)]; omega
  · cases u with
    | none => simp only at hb ⊢; rw [if_neg (by omega)]; omega
    | some i => simp only at hb ⊢; rw [if_neg (by omega), if_neg (by omega)]; omega
theorem tl_ss {x : Str} {a b : Nat} (hab : a ≤ b) (hb : b ≤ x.length) : tl (Txt.slice x (some (a : Int)) (some (b : Int))) = ((tl x).drop a).take (b - a) := by
  unfold Txt.slice
  rw [StrLaws.strSliceIndices_plain hab hb]
  split
  · rename_i h
    have h : b - a = x.length := by simpa using h
    have : a = 0 := by omega
    subst this
    rw [List.drop_zero, h, List.take_of_length_le (by rw [tl_len]; omega)]
  · rw [← StrLaws.strSliceIndices_plain hab hb, StrLaws.sliced_plain x hab hb]
    simp [tl]
theorem slice_clip {x : Str} (l u : Option Int) (a b : Nat) (ha : match l with | none => a = 0 | some i => (a : Int) = max 0 (min i x.length) ∧ 0 ≤ i) (hb : match u with | none => b = x.length | some i => (b : Int) = max 0 (min i x.length) ∧ 0 ≤ i) :
    Txt.slice x l u = Txt.slice x (some (a : Int)) (some (b : Int)) := by
  unfold Txt.slice
  rw [idx_clip l u x.length a b ha hb]
theorem tl_to (x : Str) (k : Nat) : tl (Txt.slice x none (some (k : Int))) = (tl x).take k := by
  rw [slice_clip none (some (k : Int)) 0 (min k x.length) rfl ⟨by omega, by omega⟩, tl_ss (by omega) (by omega), List.drop_zero, Nat.sub_zero]
  rcases Nat.le_total k x.length with h | h
  · rw [Nat.min_eq_left h]
  · rw [Nat.min_eq_right h, List.take_of_length_le (by rw [tl_len]; omega), List.take_of_length_le (by rw [tl_len]; omega)]
theorem tl_from (x : Str) (k : Nat) : tl (Txt.slice x (some (k : Int)) none) = (tl x).drop k := by
  rw [slice_clip (some (k : Int)) none (min k x.length) x.length ⟨by omega, by omega⟩ rfl, tl_ss (by omega) (by omega), List.take_of_length_le (by rw [List.length_drop, tl_len]; omega)]
  rcases Nat.le_total k x.length with h | h
  · rw [Nat.min_eq_left h]
  · rw [Nat.min_eq_right h, List.drop_of_length_le (by rw [tl_len]; omega), List.drop_of_length_le (by rw [tl_len]; omega)]
theorem tl_mid (x : Str) {a b : Nat} (hab : a ≤ b) : tl (Txt.slice x (some (a : Int)) (some (b : Int))) = ((tl x).drop a).take (b - a) := by
  rw [slice_clip (some (a : Int)) (some (b : Int)) (min a x.length) (min b x.length) ⟨by omega, by omega⟩ ⟨by omega, by omega⟩, tl_ss (by omega) (by omega)]
  rcases Nat.le_total a x.length with h | h
  · rw [Nat.min_eq_left h]
    rcases Nat.le_total b x.length with h' | h'
    · rw [Nat.min_eq_left h']
    · rw [Nat.min_eq_right h', List.take_of_length_le (by rw [List.length_drop, tl_len]; omega), List.take_of_length_le (by rw [List.length_drop, tl_len]; omega)]
  · rw [Nat.min_eq_right h, List.drop_of_length_le (by rw [tl_len]; omega), List.drop_of_length_le (by rw [tl_len]; omega)]
    simp
/-- where a sign stands -/
def spots (c : Nat) : List Nat → Nat → List Nat
  | [], _ => []
  | a :: l, i => if a = c then i :: spots c l (i + 1) else spots c l (i + 1)
theorem at_one {x : Str} {c i : Nat} (hi : i < x.length) : Builtin.Str.subAt x (mk [c]) i = decide (x.cps[i]? = some c) := by
  have hi' : i < x.cps.toList.length := by simpa [Str.length] using hi
  rw [StrLaws.subAt_eq]
  have e1 : (mk [c]).length = 1 := rfl
  have e2 : (mk [c]).cps.toList = [c] := by simp [mk]
  rw [e1, e2, List.drop_eq_getElem_cons hi', List.take_succ_cons, List.take_zero]
  have e3 : x.cps[i]? = some x.cps.toList[i] := by rw [← Array.getElem?_toList, List.getElem?_eq_getElem hi']
  rw [e3]
  by_cases q : x.cps.toList[i] = c
  · simp [q]
  · simp
    rfl
theorem occ_spots (x : Str) (c limit : Nat) : ∀ (n i : Nat) (st : Array Nat × Nat), i + n = x.length + 1 → st.1.size ≤ i → st.2 ≤ i → x.length < limit →
    ((forIn (List.range' i n) st (StrLaws.occBody x (mk [c]) x.length limit)).run.fst.toList) = st.1.toList ++ spots c ((tl x).drop i) i
  | 0, i, st, h, _, _, _ => by
    have : (tl x).drop i = [] := List.drop_of_length_le (by rw [tl_len]; omega)
    rw [this]; simp [spots]
  | n + 1, i, st, h, h1, h2, h3 => by
    rw [List.range'_succ, List.forIn_cons]
    unfold StrLaws.occBody
    have e1 : (mk [c]).length = 1 := rfl
    rw [e1]
    rcases Nat.lt_or_ge i x.length with hi | hi
    · have hi' : i < (tl x).length := by rw [tl_len]; exact hi
      have e3 : x.cps[i]? = some (tl x)[i] := by rw [← Array.getElem?_toList]; exact List.getElem?_eq_getElem hi'
      rw [List.drop_eq_getElem_cons hi', spots, at_one hi, e3]
      by_cases q : (tl x)[i] = c
      · rw [if_pos ⟨⟨⟨by omega, h2⟩, by omega⟩, by simp [q]⟩, if_pos q]
        have := occ_spots x c limit n (i + 1) (st.1.push i, i + 1) (by omega) (by simp; omega) (Nat.le_refl _) h3
        unfold StrLaws.occBody at this
        rw [e1] at this
        refine Eq.trans this ?_
        simp
      · rw [if_neg (by simp [q]), if_neg q]
        have := occ_spots x c limit n (i + 1) (st.1, st.2) (by omega) (by simp; omega) (by simp; omega) h3
        unfold StrLaws.occBody at this
        rw [e1] at this
        exact this
    · rw [if_neg (by omega)]
      have := occ_spots x c limit n (i + 1) (st.1, st.2) (by omega) (by simp; omega) (by simp; omega) h3
      unfold StrLaws.occBody at this
      rw [e1] at this
      refine Eq.trans this ?_
      rw [List.drop_of_length_le (by rw [tl_len]; omega), List.drop_of_length_le (by rw [tl_len]; omega)]
      rfl
theorem occ_one (x : Str) (c : Nat) : Builtin.Str.occurrences x (mk [c]) 0 x.length (x.length + 1) = spots c (tl x) 0 := by
  rw [StrLaws.occ_eq]
  have := occ_spots x c (x.length + 1) (x.length + 1) 0 (#[], 0) (by omega) (by simp) (Nat.le_refl _) (by omega)
  simpa using this
/-- the pieces between a sign -/
def cutAt (c : Nat) : List Nat → List (List Nat)
  | [] => [[]]
  | a :: l => if a = c then [] :: cutAt c l else match cutAt c l with
    | [] => [[a]]
    | p :: ps => (a :: p) :: ps
theorem cutAt_ne (c : Nat) : ∀ l, cutAt c l ≠ []
  | [] => by simp [cutAt]
  | a :: l => by
    simp only [cutAt]
    split
    · simp
    · split <;> simp
theorem parts_cut (x : Str) (c : Nat) : ∀ (n i : Nat), i + n = x.length → (StrLaws.partsFrom x 1 i (spots c ((tl x).drop i) i)).map tl = cutAt c ((tl x).drop i)
  | 0, i, h => by
    have : (tl x).drop i = [] := List.drop_of_length_le (by rw [tl_len]; omega)
    rw [this]
    simp only [spots, StrLaws.partsFrom, cutAt, List.map_cons, List.map_nil, tl, StrLaws.strSub_toList]
    have e : x.cps.toList.drop i = [] := this
    rw [e]; simp
  | n + 1, i, h => by
    have hi' : i < (tl x).length := by rw [tl_len]; omega
    have ih := parts_cut x c n (i + 1) (by omega)
    rw [List.drop_eq_getElem_cons hi', spots, cutAt]
    by_cases q : (tl x)[i] = c
    · rw [if_pos q, if_pos q]
      simp only [StrLaws.partsFrom, List.map_cons, ih]
      simp [tl, StrLaws.strSub_toList]
    · rw [if_neg q, if_neg q, ← ih]
      have low : ∀ (l : List Nat) (j : Nat), ∀ k ∈ spots c l j, j ≤ k := by
        intro l
        induction l with
        | nil => intro j k hk; simp [spots] at hk
        | cons a l ih =>
          intro j k hk
          rw [spots] at hk
          split at hk
          · rcases List.mem_cons.mp hk with rfl | hk
            · exact Nat.le_refl _
            · exact Nat.le_of_succ_le (ih _ _ hk)
          · exact Nat.le_of_succ_le (ih _ _ hk)
      have hi2 : i < x.cps.toList.length := hi'
      cases hs : spots c ((tl x).drop (i + 1)) (i + 1) with
      | nil =>
        simp only [StrLaws.partsFrom, List.map_cons, List.map_nil, tl, StrLaws.strSub_toList]
        rw [List.drop_eq_getElem_cons hi2, show x.length - i = (x.length - (i + 1)) + 1 from by omega, List.take_succ_cons]
      | cons k r =>
        have hk := low _ _ k (by rw [hs]; exact .head _)
        simp only [StrLaws.partsFrom, List.map_cons, tl, StrLaws.strSub_toList]
        rw [List.drop_eq_getElem_cons hi2, show k - i = (k - (i + 1)) + 1 from by omega, List.take_succ_cons]
theorem split_one (x : Str) {c : Nat} (hc : c < 256) : (Txt.split x (mk [c])).map tl = cutAt c (tl x) := by
  unfold Txt.split
  have k1 : Builtin.Str.strKind (mk [c]) = 1 := by simp [Builtin.Str.strKind, mk, hc]
  have k2 : ¬ (Builtin.Str.strKind x < 1) := by
    unfold Builtin.Str.strKind
    split
    · omega
    · split <;> omega
  have l1 : (mk [c]).length = 1 := rfl
  rw [k1, l1, decide_eq_false k2, Bool.or_false, occ_one]
  have pc := parts_cut x c x.length 0 (by omega)
  rw [List.drop_zero] at pc
  split
  · rename_i h
    have h : x.length < 1 := by simpa using h
    have : tl x = [] := List.length_eq_zero_iff.mp (by rw [tl_len]; omega)
    simp [this, cutAt]
  · split
    · rename_i h
      have h : spots c (tl x) 0 = [] := by simpa using h
      rw [h] at pc
      rw [← pc]
      simp [StrLaws.partsFrom, StrLaws.sub_whole]
    · rw [StrLaws.partsBetween_eq, pc]
theorem cut_none {c : Nat} : ∀ {l : List Nat}, (∀ a ∈ l, a ≠ c) → cutAt c l = [l]
  | [], _ => rfl
  | a :: l, h => by
    rw [cutAt, if_neg (h a (.head _)), cut_none fun b hb => h b (.tail _ hb)]
theorem cut_at {c : Nat} : ∀ {u v : List Nat}, (∀ a ∈ u, a ≠ c) → cutAt c (u ++ c :: v) = u :: cutAt c v
  | [], v, _ => by rw [List.nil_append, cutAt, if_pos rfl]
  | a :: u, v, h => by
    rw [List.cons_append, cutAt, if_neg (h a (.head _)), cut_at fun b hb => h b (.tail _ hb)]
/-- cut in two at any place, the second piece going on with the rest of the first -/
theorem cut_two {c : Nat} : ∀ (u v : List Nat), ∃ ps r, cutAt c u = ps ++ [r] ∧ cutAt c (u ++ v) = ps ++ cutAt c (r ++ v)
  | [], v => ⟨[], [], rfl, rfl⟩
  | a :: u, v => by
    obtain ⟨ps, r, e1, e2⟩ := cut_two (c := c) u v
    rw [cutAt, List.cons_append, cutAt, e1, e2]
    by_cases q : a = c
    · rw [if_pos q, if_pos q]
      exact ⟨[] :: ps, r, rfl, rfl⟩
    · rw [if_neg q, if_neg q]
      cases ps with
      | nil =>
        refine ⟨[], a :: r, rfl, ?_⟩
        rw [List.nil_append, List.nil_append, List.cons_append, cutAt, if_neg q]
      | cons p ps => exact ⟨(a :: p) :: ps, r, rfl, rfl⟩
theorem cut_last {c : Nat} (u : List Nat) : ∃ ps r, cutAt c u = ps ++ [r] := let ⟨ps, r, e, _⟩ := cut_two (c := c) u []; ⟨ps, r, e⟩
theorem cut_log {c : Nat} : ∀ {ls : List (List Nat)}, (∀ l ∈ ls, ∀ a ∈ l, a ≠ c) → cutAt c (ls.map (· ++ [c])).flatten = ls ++ [[]]
  | [], _ => rfl
  | l :: ls, h => by
    rw [List.map_cons, List.flatten_cons, List.append_assoc, List.singleton_append, cut_at (h l (.head _)), cut_log fun l' hl => h l' (.tail _ hl)]
    rfl
end Mine
end
section
open PySem PySem.W PyProof.Rows PySem.Calls
set_option Elab.async false
set_option maxRecDepth 100000
set_option maxHeartbeats 1000000
namespace Mine
theorem xor_add : ∀ (n a b : Nat), a ≤ n → (a ^^^ b) + 2 * (a &&& b) = a + b := by
  intro n
  induction n with
  | zero => intro a b h; have : a = 0 := by omega
            subst this; simp
  | succ n ih =>
    intro a b h
    by_cases q : a = 0
    · subst q; simp
    have := ih (a / 2) (b / 2) (by omega)
    have e1 := Nat.xor_div_two (a := a) (b := b)
    have e2 := Nat.and_div_two (a := a) (b := b)
    have e3 : (a ^^^ b) % 2 = (a + b) % 2 := by
      have h1 := Nat.testBit_xor a b 0
      simp only [Nat.testBit_zero] at h1
      rcases Nat.mod_two_eq_zero_or_one a with ha | ha <;> rcases Nat.mod_two_eq_zero_or_one b with hb | hb <;> rcases Nat.mod_two_eq_zero_or_one (a ^^^ b) with hc | hc <;> simp [ha, hb, hc] at h1 <;> omega
    have e4 : (a &&& b) % 2 = (a % 2) * (b % 2) := by
      have h1 := Nat.testBit_and a b 0
      simp only [Nat.testBit_zero] at h1
      rcases Nat.mod_two_eq_zero_or_one a with ha | ha <;> rcases Nat.mod_two_eq_zero_or_one b with hb | hb <;> rcases Nat.mod_two_eq_zero_or_one (a &&& b) with hc | hc <;> simp [ha, hb, hc] at h1 ⊢
    rcases Nat.mod_two_eq_zero_or_one a with ha | ha <;> rcases Nat.mod_two_eq_zero_or_one b with hb | hb <;> (rw [ha, hb] at e4; omega)
theorem bx_nat (a b : Nat) : Builtin.bitXor (a : Int) (b : Int) = ((a ^^^ b : Nat) : Int) := by
  rw [bitXor_and]
  have e : Builtin.bitAnd (a : Int) (b : Int) = ((a &&& b : Nat) : Int) := by
    unfold Builtin.bitAnd
    simp
  rw [e]
  have := xor_add a a b (Nat.le_refl _)
  omega
/-- the sum of the signs -/
def xn : List Nat → Nat
  | [] => 0
  | a :: l => a ^^^ xn l
theorem xsum_xn (x : Str) : xsum x 0 0 = (xn (tl x) : Int) := by
  have key : ∀ (l : List Nat) (acc : Nat), l.foldl (fun (a : Int) (c : Nat) => Builtin.bitXor a (c : Int)) (acc : Int) = ((acc ^^^ xn l : Nat) : Int) := by
    intro l
    induction l with
    | nil => intro acc; simp [xn]
    | cons a l ih => intro acc; rw [List.foldl_cons, bx_nat, ih, xn, Nat.xor_assoc]
  have := key (tl x) 0
  rw [Nat.zero_xor] at this
  exact this
theorem xn_lt : ∀ {l : List Nat}, (∀ c ∈ l, c < 128) → xn l < 128
  | [], _ => by simp [xn]
  | a :: l, h => Nat.xor_lt_two_pow (n := 7) (h a (.head _)) (xn_lt fun c hc => h c (.tail _ hc))
theorem xn_set {b : Nat} : ∀ {l : List Nat} {i c : Nat}, l[i]? = some c → xn (l.set i (c ^^^ b)) = xn l ^^^ b
  | [], i, c, h => by simp at h
  | a :: l, 0, c, h => by
    have : a = c := by simpa using h
    subst this
    rw [List.set_cons_zero, xn, xn, Nat.xor_assoc, Nat.xor_assoc, Nat.xor_comm b]
  | a :: l, i + 1, c, h => by
    rw [List.set_cons_succ, xn, xn, xn_set (l := l) (by simpa using h), Nat.xor_assoc]
/-- a sign that may stand behind an opening -/
def okc (c : Nat) : Bool := decide (32 ≤ c) && decide (c < 128) && c != 42 && c != 43 && c != 58 && c != 59
theorem okc_all : ∀ c : _root_.Fin 128, okc c.val = true → okc (c.val ^^^ 1) = true ∧ okc (c.val ^^^ 16) = true := by decide +kernel
theorem okc_lt {c : Nat} (h : okc c = true) : c < 128 := by simp [okc] at h; omega
theorem okc_x {c b : Nat} (h : okc c = true) (hb : b = 16 ∨ b = 1) : okc (c ^^^ b) = true := by
  have := okc_all ⟨c, okc_lt h⟩ h
  rcases hb with rfl | rfl
  · exact this.2
  · exact this.1
def opn : Nat → List Nat
  | 0 => [71, 80, 87, 67, 86, 44]
  | 1 => [73, 73, 88, 84, 69, 44]
  | _ => [80, 65, 66, 67, 68, 44]
theorem opn_len (o : Nat) : (opn o).length = 6 := by unfold opn; split <;> rfl
theorem opn_ok (o : Nat) : ∀ c ∈ opn o, okc c = true := by unfold opn; split <;> decide
/-- a plain text of the law: an opening and signs behind it -/
structure Row (x : Str) (o : Nat) (y : List Nat) : Prop where
  e : tl x = opn o ++ y
  ne : 1 ≤ y.length
  le : y.length ≤ 40
  ok : ∀ c ∈ y, okc c = true
theorem Row.all {x : Str} {o : Nat} {y : List Nat} (R : Row x o y) : ∀ c ∈ tl x, okc c = true := fun c hc => by
  rw [R.e] at hc
  rcases List.mem_append.mp hc with h | h
  · exact opn_ok o c h
  · exact R.ok c h
theorem Row.len {x : Str} {o : Nat} {y : List Nat} (R : Row x o y) : x.length = 6 + y.length := by rw [← tl_len, R.e, List.length_append, opn_len]
theorem asc_of {x : Str} (h : ∀ c ∈ tl x, c < 128) : (x.cps.all (· < 128)) = true := by
  rw [← Array.all_toList, List.all_eq_true]
  intro c hc
  simpa using h c hc
theorem Row.asc {x : Str} {o : Nat} {y : List Nat} (R : Row x o y) : (x.cps.all (· < 128)) = true := asc_of fun c hc => okc_lt (R.all c hc)
noncomputable def kn : Nat → Knd
  | 0 => .talk 291 (Str.ofString "GP") (Str.ofString "WCV")
  | 1 => .talk 309 (Str.ofString "II") (Str.ofString "XTE")
  | _ => .prop (Str.ofString "ABC")
theorem kn_fits (o : Nat) : (kn o).fits := by
  unfold kn
  split
  · exact ⟨.inl rfl, by decide +kernel, by decide +kernel⟩
  · exact ⟨.inr rfl, by decide +kernel, by decide +kernel⟩
  · show (Str.ofString "ABC").length ≤ 100; decide +kernel
def wat : Nat → Nat
  | 0 => 6
  | 1 => 6
  | _ => 4
noncomputable def wds (x : Str) (o : Nat) : List Str := Txt.split (Txt.slice x (some (wat o : Int)) none) (Str.ofString ",")
theorem comma_mk : Str.ofString "," = mk [44] := by decide +kernel
theorem cut_sum (c : Nat) : ∀ l : List Nat, ((cutAt c l).map (·.length)).sum + (cutAt c l).length = l.length + 1
  | [] => rfl
  | a :: l => by
    have ih := cut_sum c l
    rw [cutAt]
    split
    · simp only [List.map_cons, List.sum_cons, List.length_cons, List.length_nil]; omega
    · cases e : cutAt c l with
      | nil => exact absurd e (cutAt_ne c l)
      | cons p ps =>
        rw [e] at ih
        simp only [List.map_cons, List.sum_cons, List.length_cons] at ih ⊢; omega
theorem wds_len {x : Str} {o : Nat} {y : List Nat} (R : Row x o y) : ((wds x o).map (·.length)).sum + (wds x o).length * 64 ≤ 16777216 ∧ (wds x o).length ≤ 1000000 := by
  have s := split_one (Txt.slice x (some (wat o : Int)) none) (c := 44) (by decide)
  have z := cut_sum 44 (tl (Txt.slice x (some (wat o : Int)) none))
  rw [← s, tl_len, List.map_map, List.length_map] at z
  have l := Txt.slice_le x (some (wat o : Int)) none
  have e : (wds x o) = Txt.split (Txt.slice x (some (wat o : Int)) none) (mk [44]) := by unfold wds; rw [comma_mk]
  rw [e]
  have e2 : (List.map (·.length) (Txt.split (Txt.slice x (some (wat o : Int)) none) (mk [44]))) = List.map ((fun x => x.length) ∘ tl) (Txt.split (Txt.slice x (some (wat o : Int)) none) (mk [44])) := List.map_congr_left fun a _ => (tl_len a).symm
  have hl := R.len
  have hle := R.le
  rw [e2]
  omega
theorem head_eq (o : Nat) : tl (kn o).head = (opn o).take (wat o) := by
  unfold kn opn wat
  split <;> decide +kernel
/-- a sentence's bare text is the row -/
theorem bare_eq {x : Str} {o : Nat} {y : List Nat} (R : Row x o y) : bareT (kn o) (wds x o) = x := by
  unfold bareT wds
  refine tl_inj ?_
  rw [tl_append]
  have e : Txt.join (Str.ofString ",") (Txt.split (Txt.slice x (some (wat o : Int)) none) (Str.ofString ",")) = Txt.slice x (some (wat o : Int)) none := (StrLaws.glued_eq_join _ _).trans (StrLaws.join_split _ _)
  rw [e, tl_from, head_eq]
  have w6 : wat o ≤ 6 := by unfold wat; split <;> decide
  have : (opn o).take (wat o) = (tl x).take (wat o) := by rw [R.e, List.take_append_of_le_length (by rw [opn_len]; exact w6)]
  rw [this, List.take_append_drop]
theorem sl_to {x : Str} {k : Nat} {l : List Nat} (e : (tl x).take k = l) : Txt.slice x none (some (k : Int)) = mk l := tl_inj (by rw [tl_to, e, tl_mk])
theorem sl_mid {x : Str} {a b : Nat} {l : List Nat} (hab : a ≤ b) (e : ((tl x).drop a).take (b - a) = l) : Txt.slice x (some (a : Int)) (some (b : Int)) = mk l := tl_inj (by rw [tl_mid x hab, e, tl_mk])
theorem kind_talk0 {x : Str} {y : List Nat} (R : Row x 0 y) : TalkP x 291 (Str.ofString "GP") (Str.ofString "WCV") (wds x 0) := by
  have e : tl x = 71 :: 80 :: 87 :: 67 :: 86 :: 44 :: y := R.e
  have s1 : Txt.slice x none (some 1) = mk [71] := sl_to (k := 1) (by rw [e]; rfl)
  have s4 : Txt.slice x none (some 4) = mk [71, 80, 87, 67] := sl_to (k := 4) (by rw [e]; rfl)
  have s5 : Txt.slice x none (some 5) = mk [71, 80, 87, 67, 86] := sl_to (k := 5) (by rw [e]; rfl)
  have s6 : Txt.slice x none (some 6) = mk [71, 80, 87, 67, 86, 44] := sl_to (k := 6) (by rw [e]; rfl)
  have s46 : Txt.slice x (some 4) (some 6) = mk [86, 44] := sl_mid (a := 4) (b := 6) (by decide) (by rw [e]; rfl)
  have s56 : Txt.slice x (some 5) (some 6) = mk [44] := sl_mid (a := 5) (b := 6) (by decide) (by rw [e]; rfl)
  exact ⟨by rw [s1]; decide +kernel, by rw [s4]; decide +kernel, by rw [s4]; decide +kernel, by rw [s4]; decide +kernel, by rw [s46]; decide +kernel, by rw [s5]; decide +kernel, by rw [s5]; decide +kernel, by rw [s5]; decide +kernel, by rw [s56]; decide +kernel, by rw [s6]; decide +kernel, by rw [s6]; decide +kernel, by rw [s6]; decide +kernel, by rw [s6]; decide +kernel, by kernel_rfl, .inl rfl, rfl⟩
theorem kind_talk1 {x : Str} {y : List Nat} (R : Row x 1 y) : TalkP x 309 (Str.ofString "II") (Str.ofString "XTE") (wds x 1) := by
  have e : tl x = 73 :: 73 :: 88 :: 84 :: 69 :: 44 :: y := R.e
  have s1 : Txt.slice x none (some 1) = mk [73] := sl_to (k := 1) (by rw [e]; rfl)
  have s4 : Txt.slice x none (some 4) = mk [73, 73, 88, 84] := sl_to (k := 4) (by rw [e]; rfl)
  have s5 : Txt.slice x none (some 5) = mk [73, 73, 88, 84, 69] := sl_to (k := 5) (by rw [e]; rfl)
  have s6 : Txt.slice x none (some 6) = mk [73, 73, 88, 84, 69, 44] := sl_to (k := 6) (by rw [e]; rfl)
  have s46 : Txt.slice x (some 4) (some 6) = mk [69, 44] := sl_mid (a := 4) (b := 6) (by decide) (by rw [e]; rfl)
  have s56 : Txt.slice x (some 5) (some 6) = mk [44] := sl_mid (a := 5) (b := 6) (by decide) (by rw [e]; rfl)
  exact ⟨by rw [s1]; decide +kernel, by rw [s4]; decide +kernel, by rw [s4]; decide +kernel, by rw [s4]; decide +kernel, by rw [s46]; decide +kernel, by rw [s5]; decide +kernel, by rw [s5]; decide +kernel, by rw [s5]; decide +kernel, by rw [s56]; decide +kernel, by rw [s6]; decide +kernel, by rw [s6]; decide +kernel, by rw [s6]; decide +kernel, by rw [s6]; decide +kernel, by kernel_rfl, .inr rfl, rfl⟩
theorem kind_prop {x : Str} {y : List Nat} (R : Row x 2 y) : PropP x (Str.ofString "ABC") (wds x 2) := by
  have e : tl x = 80 :: 65 :: 66 :: 67 :: 68 :: 44 :: y := R.e
  have s1 : Txt.slice x none (some 1) = mk [80] := sl_to (k := 1) (by rw [e]; rfl)
  have s4 : Txt.slice x none (some 4) = mk [80, 65, 66, 67] := sl_to (k := 4) (by rw [e]; rfl)
  have s14 : Txt.slice x (some 1) (some 4) = mk [65, 66, 67] := sl_mid (a := 1) (b := 4) (by decide) (by rw [e]; rfl)
  exact ⟨by rw [s1]; decide +kernel, by rw [s14]; decide +kernel, by rw [s14]; decide +kernel, by rw [s14]; decide +kernel, by rw [s4]; decide +kernel, by rw [s4]; decide +kernel, by rw [s4]; decide +kernel, by rw [s4]; decide +kernel, by rw [s4]; kernel_rfl, rfl⟩
theorem kind_row {x : Str} {o : Nat} {y : List Nat} (R : Row x o y) (ho : o < 3) : KindP x (kn o) (wds x o) := by
  match o, ho, R with
  | 0, _, R => exact kind_talk0 R
  | 1, _, R => exact kind_talk1 R
  | 2, _, R => exact kind_prop R
/-- the law's own word for the kind -/
theorem kindT_row {x : Str} {o : Nat} {y : List Nat} (R : Row x o y) (ho : o < 3) : kindT (kn o).cls = Txt.slice x (some 2) (some 5) := by
  have e := R.e
  match o, ho, e with
  | 0, _, e => rw [show Txt.slice x (some 2) (some 5) = mk [87, 67, 86] from sl_mid (a := 2) (b := 5) (by decide) (by rw [e]; rfl)]; decide +kernel
  | 1, _, e => rw [show Txt.slice x (some 2) (some 5) = mk [88, 84, 69] from sl_mid (a := 2) (b := 5) (by decide) (by rw [e]; rfl)]; decide +kernel
  | 2, _, e => rw [show Txt.slice x (some 2) (some 5) = mk [66, 67, 68] from sl_mid (a := 2) (b := 5) (by decide) (by rw [e]; rfl)]; decide +kernel
def fst6 : Nat → Nat
  | 0 => 71
  | 1 => 73
  | _ => 80
theorem first_row {x : Str} {o : Nat} {y : List Nat} (R : Row x o y) : x.cps[0]? = some (fst6 o) := by
  have e := R.e
  have : x.cps[0]? = (tl x)[0]? := by rw [← Array.getElem?_toList]; rfl
  rw [this, e]
  unfold opn fst6
  split <;> rfl
theorem words_row {x : Str} {o : Nat} {y : List Nat} (R : Row x o y) : wordsT x (fst6 o) = wds x o := by
  unfold wordsT wds
  have : (if fst6 o = 80 then (4 : Int) else 6) = (wat o : Int) := by
    unfold fst6 wat
    split <;> decide
  rw [this]
end Mine
end
section
open PySem PySem.W PyProof.Rows PySem.Calls
set_option Elab.async false
set_option maxRecDepth 100000
set_option maxHeartbeats 1000000
namespace Mine
/-- a line of a log: what it says, its opening, the sum it bears, its dollar -/
structure Lin where
  new ::
  x : Str
  o : Nat
  sm : Option Nat
  dol : Bool
def Lin.said (l : Lin) : List Nat := (if l.dol then [36] else []) ++ tl l.x
noncomputable def Lin.tail (l : Lin) : List Nat := match l.sm with
  | none => []
  | some v => 42 :: tl (hexT v)
noncomputable def Lin.text (l : Lin) : Str := mk (l.said ++ l.tail)
def Lin.lost (l : Lin) : Bool := match l.sm with
  | none => false
  | some v => v != xn (tl l.x)
structure Lin.Ok (l : Lin) : Prop where
  row : ∃ y, Row l.x l.o y
  o : l.o < 3
  sm : ∀ v, l.sm = some v → v < 128
noncomputable def Lin.msg (l : Lin) : Msg := if l.lost then .bad else .sent (kn l.o) (wds l.x l.o)
theorem hex_facts : ∀ m : _root_.Fin 128, (Txt.stripChars (hexT (m.val : Int)) (Str.ofString "0123456789ABCDEFabcdef") == Str.empty && Txt.slice (hexT (m.val : Int)) none (some 2) == hexT (m.val : Int) && Txt.strip (Txt.slice (hexT (m.val : Int)) (some 2) none) == Str.empty && (tl (hexT (m.val : Int))).all (fun c => c != 42 && c != 10 && decide (c < 128))) = true := by decide +kernel
theorem hex_fact {m : Nat} (h : m < 128) : Txt.stripChars (hexT (m : Int)) (Str.ofString "0123456789ABCDEFabcdef") = Str.empty ∧ Txt.slice (hexT (m : Int)) none (some 2) = hexT (m : Int) ∧ Txt.strip (Txt.slice (hexT (m : Int)) (some 2) none) = Str.empty ∧ ∀ c ∈ tl (hexT (m : Int)), c ≠ 42 ∧ c ≠ 10 ∧ c < 128 := by
  have := hex_facts ⟨m, h⟩
  simp only [Bool.and_eq_true, beq_iff_eq, List.all_eq_true, bne_iff_ne, decide_eq_true_eq] at this
  obtain ⟨⟨⟨a, b⟩, c⟩, d⟩ := this
  exact ⟨a, b, c, fun k hk => ⟨(d k hk).1.1, (d k hk).1.2, (d k hk).2⟩⟩
theorem star_mk : Str.ofString "*" = mk [42] := by decide +kernel
theorem dollar_mk : Str.ofString "$" = mk [36] := by decide +kernel
theorem nl_mk : Str.ofString "\n" = mk [10] := by decide +kernel
theorem empty_mk : Str.empty = mk [] := rfl
/-- partition at a sign -/
theorem part_none {x : Str} {c : Nat} (h : ∀ a ∈ tl x, a ≠ c) : Txt.partition x (mk [c]) = (x, Str.empty, Str.empty) := by
  unfold Txt.partition
  rcases StrLaws.occ_head x (mk [c]) 1 (Nat.le_refl _) with ⟨e, _⟩ | ⟨i, r, e, ha, _⟩
  · rw [e]
  · exfalso
    have l1 : (mk [c]).length = 1 := rfl
    have hi : i < x.length := by have := ha.1; rw [l1] at this; omega
    have := ha.2
    rw [at_one hi] at this
    have q : x.cps[i]? = some c := by simpa using this
    refine h c ?_ rfl
    have q' : (tl x)[i]? = some c := by rw [← q, ← Array.getElem?_toList]; rfl
    exact List.mem_of_getElem? q'
theorem part_at {x : Str} {c : Nat} {u v : List Nat} (e : tl x = u ++ c :: v) (h : ∀ a ∈ u, a ≠ c) : Txt.partition x (mk [c]) = (mk u, mk [c], mk v) := by
  have lx : x.length = u.length + (v.length + 1) := by rw [← tl_len, e]; simp
  have l1 : (mk [c]).length = 1 := rfl
  have at_u : StrLaws.At x (mk [c]) x.length u.length := by
    refine ⟨by rw [l1]; omega, ?_⟩
    rw [at_one (by omega)]
    have : x.cps[u.length]? = (tl x)[u.length]? := by rw [← Array.getElem?_toList]; rfl
    rw [this, e]; simp
  have none_below : ∀ k, k < u.length → ¬ StrLaws.At x (mk [c]) x.length k := fun k hk ⟨h1, h2⟩ => by
    rw [at_one (by omega)] at h2
    have : x.cps[k]? = (tl x)[k]? := by rw [← Array.getElem?_toList]; rfl
    rw [this, e, List.getElem?_append_left hk, List.getElem?_eq_getElem hk] at h2
    exact h _ (List.getElem_mem hk) (by simpa using h2)
  unfold Txt.partition
  rcases StrLaws.occ_head x (mk [c]) 1 (Nat.le_refl _) with ⟨_, n⟩ | ⟨i, r, e', ha, hn⟩
  · exact absurd at_u (n _)
  · have : i = u.length := by
      rcases Nat.lt_trichotomy i u.length with q | q | q
      · exact absurd ha (none_below i q)
      · exact q
      · exact absurd at_u (hn _ q)
    subst this
    rw [e']
    simp only [l1]
    have e1 : Builtin.Str.strSub x 0 u.length = mk u := tl_inj (by
      show (Builtin.Str.strSub x 0 u.length).cps.toList = _
      rw [StrLaws.strSub_toList, tl_mk, List.drop_zero, Nat.sub_zero]
      show (tl x).take u.length = u
      rw [e]; simp)
    have e2 : Builtin.Str.strSub x (u.length + 1) x.length = mk v := tl_inj (by
      show (Builtin.Str.strSub x (u.length + 1) x.length).cps.toList = _
      rw [StrLaws.strSub_toList, tl_mk]
      show ((tl x).drop (u.length + 1)).take (x.length - (u.length + 1)) = v
      rw [e, lx]
      have : List.drop (u.length + 1) (u ++ c :: v) = v := by
        rw [show u ++ c :: v = (u ++ [c]) ++ v from by simp]
        exact List.drop_left' (by simp)
      rw [this]
      exact List.take_of_length_le (by omega))
    rw [e1, e2]
theorem lstrip_id {x : Str} {a : Nat} {l : List Nat} (e : tl x = a :: l) (h : Unicode.isSpace a = false) : Txt.lstrip x = x := by
  unfold Txt.lstrip Txt.stripBy
  rw [if_pos]
  unfold stripSame stripLo stripHi
  have : x.cps.toList = a :: l := e
  simp [this, h]
theorem Lin.said_ok {l : Lin} (k : l.Ok) : ∀ c ∈ l.said, c ≠ 42 ∧ c ≠ 10 ∧ c < 128 := fun c hc => by
  obtain ⟨y, R⟩ := k.row
  unfold Lin.said at hc
  rcases List.mem_append.mp hc with h | h
  · cases hd : l.dol <;> rw [hd] at h <;> simp at h
    subst h; decide
  · have := R.all c h
    simp [okc] at this
    omega
theorem Lin.tail_ok {l : Lin} (k : l.Ok) : ∀ c ∈ l.tail, c ≠ 10 ∧ c < 128 := fun c hc => by
  unfold Lin.tail at hc
  cases hs : l.sm with
  | none => rw [hs] at hc; cases hc
  | some v =>
    rw [hs] at hc
    rcases List.mem_cons.mp hc with rfl | hc
    · decide
    · have := (hex_fact (k.sm v hs)).2.2.2 c hc
      exact ⟨this.2.1, this.2.2⟩
theorem Lin.text_ok {l : Lin} (k : l.Ok) : ∀ c ∈ tl l.text, c ≠ 10 ∧ c < 128 := fun c hc => by
  unfold Lin.text at hc
  rw [tl_mk] at hc
  rcases List.mem_append.mp hc with h | h
  · exact (Lin.said_ok k c h).2
  · exact Lin.tail_ok k c h
theorem Lin.text_len {l : Lin} (k : l.Ok) : 7 ≤ l.text.length ∧ l.text.length ≤ 50 := by
  obtain ⟨y, R⟩ := k.row
  rw [← tl_len]
  unfold Lin.text Lin.said Lin.tail
  rw [tl_mk, List.length_append, List.length_append, tl_len, R.len]
  have h1 := R.ne
  have h2 := R.le
  have h3 : (if l.dol = true then [36] else ([] : List Nat)).length ≤ 1 := by split <;> simp
  cases hs : l.sm with
  | none => simp only [List.length_nil]; omega
  | some v =>
    have : (tl (hexT (v : Int))).length = 2 := by rw [tl_len]; exact hex_len v (k.sm v hs)
    simp only [List.length_cons, this]; omega
theorem Lin.cut {l : Lin} (k : l.Ok) : ∃ star tail, Cut l.text (mk l.said) star tail l.x l.dol (l.sm.map fun v => (v : Int)) := by
  obtain ⟨y, R⟩ := k.row
  have so := Lin.said_ok k
  have ln := (Lin.text_len k).2
  have hfirst : ∃ a r, tl l.x = a :: r ∧ Unicode.isSpace a = false ∧ a ≠ 36 := by
    have e := R.e
    unfold opn at e
    split at e
    · exact ⟨71, _, e, by decide +kernel, by decide⟩
    · exact ⟨73, _, e, by decide +kernel, by decide⟩
    · exact ⟨80, _, e, by decide +kernel, by decide⟩
  obtain ⟨a, r, ea, sp, na⟩ := hfirst
  have ls : Txt.lstrip l.text = l.text := by
    cases hd : l.dol with
    | false => exact lstrip_id (a := a) (l := r ++ l.tail) (by unfold Lin.text Lin.said; rw [tl_mk, hd, ea]; rfl) sp
    | true => exact lstrip_id (a := 36) (l := tl l.x ++ l.tail) (by unfold Lin.text Lin.said; rw [tl_mk, hd]; rfl) (by decide +kernel)
  have dl : (Txt.slice (mk l.said) none (some 1) == Str.ofString "$") = l.dol := by
    cases hd : l.dol with
    | false =>
      have : Txt.slice (mk l.said) none (some 1) = mk [a] := sl_to (k := 1) (by unfold Lin.said; rw [tl_mk, hd, ea]; rfl)
      rw [this, dollar_mk, beq_eq_false_iff_ne]
      intro q
      have := congrArg tl q
      rw [tl_mk, tl_mk] at this
      exact na (by simpa using this)
    | true =>
      have : Txt.slice (mk l.said) none (some 1) = mk [36] := sl_to (k := 1) (by unfold Lin.said; rw [tl_mk, hd]; rfl)
      rw [this, dollar_mk, beq_self_eq_true]
  have pd : (if l.dol = true then Txt.slice (mk l.said) (some 1) none else mk l.said) = l.x := by
    cases hd : l.dol with
    | false => rw [if_neg (by decide)]; unfold Lin.said; rw [hd]; exact mk_tl l.x
    | true =>
      rw [if_pos rfl]
      refine tl_inj ((tl_from _ 1).trans ?_)
      unfold Lin.said; rw [tl_mk, hd]; rfl
  have ql : (mk l.said).length ≤ 10000 := by
    rw [← tl_len, tl_mk]
    have : l.said.length ≤ l.text.length := by rw [← tl_len l.text]; unfold Lin.text; rw [tl_mk, List.length_append]; omega
    omega
  have pl : l.x.length ≤ 10000 := by rw [R.len]; have := R.le; omega
  cases hs : l.sm with
  | none =>
    have ht : l.text = mk l.said := by unfold Lin.text Lin.tail; rw [hs, List.append_nil]
    have pp : Txt.partition l.text (Str.ofString "*") = (mk l.said, Str.empty, Str.empty) := by rw [star_mk, ht]; exact part_none fun c hc => (so c (by rwa [tl_mk] at hc)).1
    exact ⟨Str.empty, Str.empty, by omega, ql, pl, by decide, ls, by rw [pp], by rw [pp], by rw [pp], dl, pd, R.asc, ⟨rfl, rfl⟩⟩
  | some v =>
    have hv := k.sm v hs
    have pp : Txt.partition l.text (Str.ofString "*") = (mk l.said, mk [42], mk (tl (hexT (v : Int)))) := by
      rw [star_mk]
      exact part_at (by unfold Lin.text Lin.tail; rw [hs, tl_mk]) fun c hc => (so c hc).1
    rw [mk_tl] at pp
    have hf := hex_fact hv
    have hl := hex_len v hv
    refine ⟨mk [42], hexT v, by omega, ql, pl, by rw [hl]; decide, ls, by rw [pp], by rw [pp], by rw [pp], dl, pd, R.asc, star_mk.symm, hl, hf.2.1, hf.1, hf.2.2.1, hexOk v hv, by rw [hl]; decide, ?_⟩
    rw [xsum_xn, hex_len _ (xn_lt fun c hc => okc_lt (R.all c hc))]; decide
/-- every line of a log is one that the reader takes, good or bad -/
theorem Lin.line {l : Lin} (k : l.Ok) : LineOk l.text l.msg := by
  obtain ⟨star, tail, C⟩ := Lin.cut k
  obtain ⟨y, R⟩ := k.row
  unfold Lin.msg Lin.lost
  cases hs : l.sm with
  | none =>
    rw [hs] at C
    exact ⟨_, _, _, _, _, _, C, kind_row R k.o, (wds_len R).2, kn_fits _, fun v e => by cases e⟩
  | some v =>
    rw [hs] at C
    by_cases q : v = xn (tl l.x)
    · simp only [q, bne_self_eq_false, Bool.false_eq_true, if_false]
      refine ⟨_, _, _, _, _, _, C, kind_row R k.o, (wds_len R).2, kn_fits _, fun u e => ?_⟩
      rw [xsum_xn, ← q]
      exact (Option.some.inj e).symm
    · have : (v != xn (tl l.x)) = true := bne_iff_ne.mpr q
      simp only [this, if_true]
      refine ⟨_, _, _, _, _, (v : Int), kn l.o, _, C, kind_row R k.o, (wds_len R).2, fun e => q ?_⟩
      rw [xsum_xn] at e
      exact_mod_cast e
/-- what a station writes -/
theorem Lin.render {x : Str} {o : Nat} {y : List Nat} (R : Row x o y) (s d : Bool) : renderT (bareT (kn o) (wds x o)) s d true = (Lin.new x o (if s then some (xn (tl x)) else none) d).text ++ Str.ofString "\n" := by
  rw [bare_eq R]
  unfold renderT Lin.text Lin.said Lin.tail
  rw [xsum_xn]
  refine tl_inj ?_
  cases s <;> cases d <;> simp [tl_append, tl_mk, star_mk, dollar_mk]
end Mine
end
section
open PySem PySem.W PyProof.Rows PySem.Calls
set_option Elab.async false
set_option maxRecDepth 100000
set_option maxHeartbeats 1000000
namespace Mine
noncomputable def logT (ls : List Lin) : Str := mk (ls.map fun l => tl l.text ++ [10]).flatten
theorem logT_len : ∀ {ls : List Lin}, (∀ l ∈ ls, l.Ok) → (logT ls).length ≤ ls.length * 51
  | [], _ => by simp [logT, mk, Str.length]
  | l :: ls, h => by
    have ih := logT_len fun l' hl => h l' (.tail _ hl)
    have z := (Lin.text_len (h l (.head _))).2
    rw [← tl_len, logT, tl_mk] at ih ⊢
    rw [← tl_len] at z
    simp only [List.map_cons, List.flatten_cons, List.length_append, List.length_cons, List.length_nil] at ih ⊢
    omega
theorem map_mk {xs : List Str} {ps : List (List Nat)} (e : xs.map tl = ps) : xs = ps.map mk := by
  subst e
  rw [List.map_map]
  conv => lhs; rw [← List.map_id xs]
  exact List.map_congr_left fun x _ => (mk_tl x).symm
/-- the log cut in two anywhere: the lines come in order -/
theorem heard_split {ls : List Lin} (ok : ∀ l ∈ ls, l.Ok) (cut : Nat) : ∃ a b rest₁ rest₂, a ++ b = ls ∧
    Txt.split (Str.ofString "" ++ Txt.slice (logT ls) none (some (cut : Int))) (Str.ofString "\n") = a.map Lin.text ++ [rest₁] ∧
    Txt.split (rest₁ ++ Txt.slice (logT ls) (some (cut : Int)) none) (Str.ofString "\n") = b.map Lin.text ++ [rest₂] ∧ rest₁.length ≤ (logT ls).length := by
  have e0 : tl (Str.ofString "") = [] := by decide +kernel
  obtain ⟨ps, r, e1, e2⟩ := cut_two (c := 10) ((tl (logT ls)).take cut) ((tl (logT ls)).drop cut)
  obtain ⟨qs, r2, e3⟩ := cut_last (c := 10) (r ++ (tl (logT ls)).drop cut)
  rw [List.take_append_drop, e3] at e2
  have e4 : cutAt 10 (tl (logT ls)) = ls.map (fun l => tl l.text) ++ [[]] := by
    unfold logT
    rw [tl_mk]
    have := cut_log (c := 10) (ls := ls.map fun l => tl l.text) (by
      intro l hl a ha
      obtain ⟨k, hk, rfl⟩ := List.mem_map.mp hl
      exact (Lin.text_ok (ok k hk) a ha).1)
    rw [List.map_map] at this
    exact this
  rw [e4, ← List.append_assoc] at e2
  have e5 := List.append_inj' e2 rfl
  obtain ⟨a, b, rfl, ea, eb⟩ := List.map_eq_append_iff.mp e5.1
  refine ⟨a, b, mk r, mk r2, rfl, ?_, ?_, ?_⟩
  · have s := split_one (Str.ofString "" ++ Txt.slice (logT (a ++ b)) none (some (cut : Int))) (c := 10) (by decide)
    rw [tl_append, e0, List.nil_append, tl_to, e1, ← nl_mk] at s
    rw [map_mk s, List.map_append, ← ea, List.map_map]
    congr 1
    try exact List.map_congr_left fun x _ => mk_tl _
  · have s := split_one (mk r ++ Txt.slice (logT (a ++ b)) (some (cut : Int)) none) (c := 10) (by decide)
    rw [tl_append, tl_mk, tl_from, e3, ← nl_mk] at s
    rw [map_mk s, List.map_append, ← eb, List.map_map]
    congr 1
    try exact List.map_congr_left fun x _ => mk_tl _
  · have z := cut_sum 10 ((tl (logT (a ++ b))).take cut)
    rw [e1] at z
    simp only [List.map_append, List.sum_append, List.map_cons, List.map_nil, List.sum_cons, List.sum_nil, List.length_append, List.length_cons, List.length_nil, List.length_take, tl_len] at z
    rw [← tl_len, tl_mk]
    omega
/-- a sign struck -/
theorem struck_tl {x : Str} {i c b : Nat} (hc : x.cps[i]? = some c) : tl (struckT x i c (b : Int)) = (tl x).set i (c ^^^ b) := by
  have hc' : (tl x)[i]? = some c := by rw [← hc, ← Array.getElem?_toList]; rfl
  have hi : i < (tl x).length := by
    rcases Nat.lt_or_ge i (tl x).length with z | z
    · exact z
    · rw [List.getElem?_eq_none z] at hc'; cases hc'
  unfold struckT
  rw [tl_append, tl_append, tl_to, bx_nat]
  have : tl (Txt.slice x (some ((i : Int) + 1)) none) = (tl x).drop (i + 1) := tl_from x (i + 1)
  rw [this, List.set_eq_take_append_cons_drop, if_pos hi, List.append_assoc]
  rfl
theorem Row.strike {x : Str} {o i c b : Nat} {y : List Nat} (R : Row x o y) (h6 : 6 ≤ i) (hc : x.cps[i]? = some c) (hb : b = 16 ∨ b = 1) : Row (struckT x i c (b : Int)) o (y.set (i - 6) (c ^^^ b)) := by
  have hc' : (tl x)[i]? = some c := by rw [← hc, ← Array.getElem?_toList]; rfl
  refine ⟨?_, by rw [List.length_set]; exact R.ne, by rw [List.length_set]; exact R.le, fun k hk => ?_⟩
  · rw [struck_tl hc, R.e, List.set_append_right _ _ (by rw [opn_len]; exact h6), opn_len]
  · rcases List.mem_or_eq_of_mem_set hk with h | rfl
    · exact R.ok k h
    · exact okc_x (R.all c (List.mem_of_getElem? hc')) hb
theorem strike_xn {x : Str} {i c b : Nat} (hc : x.cps[i]? = some c) : xn (tl (struckT x i c (b : Int))) = xn (tl x) ^^^ b := by
  have hc' : (tl x)[i]? = some c := by rw [← hc, ← Array.getElem?_toList]; rfl
  rw [struck_tl hc, xn_set hc']
/-- the same sign in the line that bears the text -/
theorem line_sign {l : Lin} {i c : Nat} (hc : l.x.cps[i]? = some c) : (l.text ++ Str.ofString "\n").cps[(if l.dol then i + 1 else i)]? = some c := by
  have hc' : (tl l.x)[i]? = some c := by rw [← hc, ← Array.getElem?_toList]; rfl
  have hi : i < (tl l.x).length := by
    rcases Nat.lt_or_ge i (tl l.x).length with z | z
    · exact z
    · rw [List.getElem?_eq_none z] at hc'; cases hc'
  rw [← Array.getElem?_toList]
  show (tl (l.text ++ Str.ofString "\n"))[_]? = _
  rw [tl_append]
  unfold Lin.text Lin.said
  rw [tl_mk]
  cases l.dol
  · simp only [Bool.false_eq_true, if_false, List.nil_append, List.append_assoc]
    rw [List.getElem?_append_left hi]; exact hc'
  · simp only [if_true, List.singleton_append, List.nil_append, List.cons_append, List.append_assoc, List.getElem?_cons_succ]
    rw [List.getElem?_append_left hi]; exact hc'
theorem line_strike {l : Lin} {i c b : Nat} (hc : l.x.cps[i]? = some c) : struckT (l.text ++ Str.ofString "\n") (if l.dol then i + 1 else i) c (b : Int) = (Lin.new (struckT l.x i c (b : Int)) l.o l.sm l.dol).text ++ Str.ofString "\n" := by
  have hc' : (tl l.x)[i]? = some c := by rw [← hc, ← Array.getElem?_toList]; rfl
  have hi : i < (tl l.x).length := by
    rcases Nat.lt_or_ge i (tl l.x).length with z | z
    · exact z
    · rw [List.getElem?_eq_none z] at hc'; cases hc'
  refine tl_inj ?_
  rw [struck_tl (line_sign hc), tl_append, tl_append]
  unfold Lin.text Lin.said Lin.tail
  rw [tl_mk, tl_mk, struck_tl hc]
  cases l.dol
  · simp only [Bool.false_eq_true, if_false, List.nil_append, List.append_assoc]
    rw [List.set_append_left _ _ hi]
  · simp only [if_true, List.singleton_append, List.nil_append, List.cons_append, List.append_assoc, List.set_cons_succ]
    rw [List.set_append_left _ _ hi]
/-- the first texts -/
noncomputable def opS : Nat → Str
  | 0 => Str.ofString "GPWCV,"
  | 1 => Str.ofString "IIXTE,"
  | _ => Str.ofString "PABCD,"
noncomputable def reS : Nat → Str
  | 0 => Str.ofString "N"
  | 1 => Str.ofString "4.5,k"
  | 2 => Str.ofString ""
  | _ => Str.ofString "A,B,C"
theorem digits_ok : ∀ m : _root_.Fin 1000, ((tl (Str.ofString (toString (m.val : Int)))).all okc && decide ((tl (Str.ofString (toString (m.val : Int)))).length ≤ 3)) = true := by decide +kernel
noncomputable def rowT (n : Int) : Str := opS (n % 3).toNat ++ Str.ofString (toString (n % 1000)) ++ Str.ofString "," ++ reS (n / 3 % 4).toNat
theorem row_new (n : Int) : ∃ y, Row (rowT n) (n % 3).toNat y := by
  have hm : ((n % 1000).toNat : Int) = n % 1000 := by omega
  have d := digits_ok ⟨(n % 1000).toNat, by omega⟩
  simp only [hm, Bool.and_eq_true, List.all_eq_true, decide_eq_true_eq] at d
  have ho : ∀ k, k < 3 → tl (opS k) = opn k := by
    intro k hk
    match k, hk with
    | 0, _ => decide +kernel
    | 1, _ => decide +kernel
    | 2, _ => decide +kernel
  have hr : ∀ k, (tl (reS k)).length ≤ 5 ∧ ∀ c ∈ tl (reS k), okc c = true := by
    intro k
    unfold reS
    split <;> (constructor <;> decide +kernel)
  refine ⟨tl (Str.ofString (toString (n % 1000))) ++ [44] ++ tl (reS (n / 3 % 4).toNat), ?_, ?_, ?_, ?_⟩
  · unfold rowT
    rw [tl_append, tl_append, tl_append, ho _ (by omega), comma_mk, tl_mk]
    simp only [List.append_assoc]
  · simp only [List.length_append, List.length_cons, List.length_nil]; omega
  · have := (hr (n / 3 % 4).toNat).1
    simp only [List.length_append, List.length_cons, List.length_nil]; omega
  · intro c hc
    rcases List.mem_append.mp hc with h | h
    · rcases List.mem_append.mp h with h | h
      · exact d.1 c h
      · rw [List.mem_singleton.mp h]; decide
    · exact (hr _).2 c h
theorem join_empty (xs : List Str) : tl (Txt.join (Str.ofString "") xs) = (xs.map tl).flatten := by
  have e0 : tl (Str.ofString "") = [] := by decide +kernel
  rw [Txt.join, StrLaws.glued_eq_join]
  induction xs with
  | nil => rfl
  | cons x xs ih =>
    cases xs with
    | nil => show tl x = _; simp
    | cons z zs =>
      show tl (x ++ Str.ofString "" ++ Str.join (Str.ofString "") (z :: zs)) = _
      rw [tl_append, tl_append, e0, ih]; simp
theorem join_log (ls : List Lin) : Txt.join (Str.ofString "") (ls.map fun l => l.text ++ Str.ofString "\n") = logT ls := by
  refine tl_inj ?_
  rw [join_empty, logT, tl_mk, List.map_map]
  congr 1
  exact List.map_congr_left fun l _ => by
    show tl (l.text ++ Str.ofString "\n") = _
    rw [tl_append, nl_mk, tl_mk]
theorem join_first (a b c : Str) : Txt.join (Str.ofString "\n") [a, b, c] ++ Str.ofString "\n" = mk ([a, b, c].map fun x => tl x ++ [10]).flatten := by
  refine tl_inj ?_
  rw [tl_append, Txt.join, StrLaws.glued_eq_join]
  show tl (a ++ Str.ofString "\n" ++ (b ++ Str.ofString "\n" ++ c)) ++ _ = _
  simp [tl_append, nl_mk, tl_mk]
theorem first_line (x : Str) (o : Nat) : (Lin.new x o none false).text = x := by
  unfold Lin.text Lin.said Lin.tail
  simp [mk_tl]
end Mine
end
section
open PySem PySem.W PyProof.Rows PySem.Calls Builtin.ObjectAttr Builtin.Getset_descriptor
set_option Elab.async false
set_option maxRecDepth 100000
set_option maxHeartbeats 1000000
namespace Mine
noncomputable def nsL : List Str := [Str.ofString "script", Str.ofString "known", Str.ofString "numbers", Str.ofString "k", Str.ofString "n", Str.ofString "log", Str.ofString "heard", Str.ofString "told", Str.ofString "bit", Str.ofString "lines", Str.ofString "hits", Str.ofString "m", Str.ofString "at", Str.ofString "last"]
noncomputable abbrev lenv (w : World) (L fa : Addr) (cd : Value) : Env := envOfC (fdOf w 353).name (fdOf w 353).scope L fa cd
noncomputable def lawB (w : World) : List Stmt := match (fdOf w 353).body with
  | .stmts b => b
  | _ => []
theorem lawB_at {w : World} {b : List Stmt} (h : (fdOf w 353).body = .stmts b) : lawB w = b := by unfold lawB; rw [h]
abbrev cR (L : Addr) : Addr := L + 1
abbrev cT (L : Addr) : Addr := L + 1 + 1
abbrev cS (L : Addr) : Addr := L + 1 + 1 + 1
abbrev cD (L : Addr) : Addr := L + 1 + 1 + 1 + 1
section
variable {w : World} {A : Around} {E : Value → Shared → Prop} {h₀ h : Heap} {g : Array GenState} {d : Drawn} {t : Nat} {os : OsState} {L fa : Addr} {cd : Value} {ns : List Str} {vs : List (Option Value)} {nw : List (Addr × Obj)} {Q : Flow → Shared → Prop} {env : Env} {pos : Pos}
/-- a dict's display of two -/
theorem r_dict {k₁ k₂ v₁ v₂ : Expr} {Q : Value → Shared → Prop} (S : St w h₀ L h ns vs nw)
    (q₁ : ∀ h₁ t₁ Q', (∀ u t₂, Q' (.str (Str.ofString "WCV") u) ⟨h₁, g, d, t₂, os⟩) → WP w A (eval k₁ env) Q' E ⟨h₁, g, d, t₁, os⟩)
    (q₂ : ∀ h₁ t₁ Q', h.StaysIn h₁ → Q' (.ref 291) ⟨h₁, g, d, t₁, os⟩ → WP w A (eval v₁ env) Q' E ⟨h₁, g, d, t₁, os⟩)
    (q₃ : ∀ h₁ t₁ Q', (∀ u t₂, Q' (.str (Str.ofString "XTE") u) ⟨h₁, g, d, t₂, os⟩) → WP w A (eval k₂ env) Q' E ⟨h₁, g, d, t₁, os⟩)
    (q₄ : ∀ h₁ t₁ Q', h.StaysIn h₁ → Q' (.ref 309) ⟨h₁, g, d, t₁, os⟩ → WP w A (eval v₂ env) Q' E ⟨h₁, g, d, t₁, os⟩)
    (q : ∀ h' t', h.StaysIn h' → Kinds w h' h.objs.size → h.get? h.objs.size = none → Q (.ref h.objs.size) ⟨h', g, d, t', os⟩) :
    WP w A (eval (.Dict [some k₁, some k₂] [v₁, v₂] pos) env) Q E ⟨h, g, d, t, os⟩ := by
  have up : h.StaysIn (h.push { cls := .type "dict", data := .dict #[] }) := fun b o e => Heap.get?_push_of_some _ e
  have hd : ∀ {h' : Heap}, h.StaysIn h' → h'.StaysIn h' := fun _ _ _ e => e
  have D0 := Heap.DictOf.new (knd := PySem.strKind pg w) h
  refine ⟨wpAny_Dict_walk (knd := PySem.strKind pg w) rfl rfl (by simp) (by simp) (pairTrees_cons_walk (q₁ _ _ _ fun u₁ t₁ => (q₂ _ _ _ up ?_).out).out)⟩
  refine pairTrees_cons_walk (q₃ _ _ _ fun u₂ t₂ => (q₄ _ _ _ up ?_).out).out
  refine pairTrees_nil_walk ⟨[(Str.ofString "WCV", .ref 291), (Str.ofString "XTE", .ref 309)], ⟨by simp [PySem.strKind, Value.isStrOf], rfl, by simp [PySem.strKind, Value.isStrOf], rfl, trivial⟩, D0, fun h' D' sb => ?_⟩
  have k : h.StaysIn h' := fun b o e => sb.extBut b o (Nat.ne_of_lt (Heap.lt_size e)) (up _ _ e)
  refine q _ _ k ⟨?_, ?_⟩ (get_size h)
  · have : merged [] [(Str.ofString "WCV", Value.ref 291), (Str.ofString "XTE", Value.ref 309)] = kindTab := by kernel_rfl
    rw [this] at D'
    exact D'
  · have e := S.world.X 312 _ (by rfl)
    have : 312 < h.objs.size := Heap.lt_size e
    exact beq_eq_false_iff_ne.mpr (Nat.ne_of_gt (Nat.lt_trans (by decide) this))
theorem g_open (w : World) : nsIn (KK w) mainGlobals (Str.ofString "_law_OPEN") = some (some (.ref 312)) := by kernel_rfl
theorem g_rest (w : World) : nsIn (KK w) mainGlobals (Str.ofString "_law_REST") = some (some (.ref 313)) := by kernel_rfl
theorem g_heard (w : World) : nsIn (KK w) mainGlobals (Str.ofString "_law_heard") = some (some (.ref 334)) := by kernel_rfl
theorem g_struck (w : World) : nsIn (KK w) mainGlobals (Str.ofString "_law_struck") = some (some (.ref 327)) := by kernel_rfl
theorem g_kind (w : World) : nsIn (KK w) mainGlobals (Str.ofString "_law_kind") = some (some (.ref 341)) := by kernel_rfl
theorem g_words (w : World) : nsIn (KK w) mainGlobals (Str.ofString "_law_words") = some (some (.ref 348)) := by kernel_rfl
theorem g_sum (w : World) : nsIn (KK w) mainGlobals (Str.ofString "_law_sum") = some (some (.ref 320)) := by kernel_rfl
theorem look_open (w : World) : ∃ t₁ t₂ t₃, (KK w).lookup 312 = some (tup [.str (Str.ofString "GPWCV,") t₁, .str (Str.ofString "IIXTE,") t₂, .str (Str.ofString "PABCD,") t₃]) := ⟨_, _, _, rfl⟩
theorem look_rest (w : World) : ∃ t₁ t₂ t₃ t₄, (KK w).lookup 313 = some (tup [.str (Str.ofString "N") t₁, .str (Str.ofString "4.5,k") t₂, .str (Str.ofString "") t₃, .str (Str.ofString "A,B,C") t₄]) := ⟨_, _, _, _, rfl⟩
theorem open_get {t₁ t₂ t₃ : Tok} {k : Nat} (h : k < 3) : ∃ u, [Value.str (Str.ofString "GPWCV,") t₁, .str (Str.ofString "IIXTE,") t₂, .str (Str.ofString "PABCD,") t₃][k]? = some (.str (opS k) u) := by
  match k, h with
  | 0, _ => exact ⟨_, rfl⟩
  | 1, _ => exact ⟨_, rfl⟩
  | 2, _ => exact ⟨_, rfl⟩
theorem rest_get {t₁ t₂ t₃ t₄ : Tok} {k : Nat} (h : k < 4) : ∃ u, [Value.str (Str.ofString "N") t₁, .str (Str.ofString "4.5,k") t₂, .str (Str.ofString "") t₃, .str (Str.ofString "A,B,C") t₄][k]? = some (.str (reS k) u) := by
  match k, h with
  | 0, _ => exact ⟨_, rfl⟩
  | 1, _ => exact ⟨_, rfl⟩
  | 2, _ => exact ⟨_, rfl⟩
  | 3, _ => exact ⟨_, rfl⟩
/-- `script[:5]` -/
theorem r_lsl_to {value e : Expr} {p : Pos} {Q : Value → Shared → Prop} {s : Shared}
    (hv : WP w A (eval value env) (fun o s₁ => WP w A (eval e env) (fun i s₂ => ∃ l items j u, o = .ref l ∧ i = .int j u ∧ s₂.heap.IsList l items ∧ items.size ≤ sizeLine ∧
      ∀ vl vu, Q (.ref (s₂.heap.objs.size + 1)) { s₂ with heap := (s₂.heap.push { cls := .type "slice", data := .fields #[vl, vu, .none] }).push { cls := .type "list", data := .seq (slicePick items none (some j) none) } }) E s₁) E s)
    (ht : ∀ o r, letTemporaryGo value o r = pure () := by intro _ _; rfl) : WP w A (eval (.Subscript value (.Slice none (some e) none p) pos) env) Q E s := by
  refine ⟨wpAny_Subscript_list_slice (hv.to fun o s₁ z => evalPart_none_step (evalPart_some_step (z.to fun i s₂ z => ?_))) ht⟩
  obtain ⟨l, items, j, u, rfl, rfl, hl, hz, hq⟩ := z
  exact ⟨l, items, none, some j, rfl, hl, hz, by constructor, by constructor, hq _ _⟩
theorem pick_mem {items : Array Value} {lo hi st : Option Int} {j : Nat} {v : Value} (e : (slicePick items lo hi st)[j]? = some v) : ∃ i : Nat, items[i]? = some v := by
  unfold slicePick at e
  rw [List.getElem?_toArray] at e
  obtain ⟨a, _, ha⟩ := List.mem_filterMap.mp (List.mem_of_getElem? e)
  exact ⟨a, ha⟩
theorem ints_at : ∀ {vs : List Value} {xs : List Int}, IntsAre vs xs → ∀ (j : Nat) v, vs[j]? = some v → ∃ n u, v = .int n u
  | _, _, .nil, j, v, e => by simp at e
  | _, _, .cons n t h, 0, v, e => ⟨n, t, by simpa using e.symm⟩
  | _, _, .cons n t h, j + 1, v, e => ints_at h j v (by simpa using e)
theorem m_append {D : Addr} {o : Obj} {pl : Sem Bool} {Q : Value × List Value → Shared → Prop} {s : Shared} (ho : s.heap.get? D = some o) (hc : o.cls = .type "list") (hd : o.dict = none) (q : Q (.builtin "list.append", [.ref D]) s) :
    WP w A (getMethod (.ref D) (Str.ofString "append") pl) Q E s := ⟨getMethod_list_append ho hc hd q⟩
theorem b_range1 {n : Int} {u : Tok} {Q : Value → Shared → Prop} (q : ∀ h' t₁ t₂ t₃ k, h.StaysIn h' → IsRange h' h.objs.size 0 n 1 t₁ t₂ t₃ → Q (.ref h.objs.size) ⟨h', g, d, k, os⟩) : WP w A (call (.type "range") [.int n u]) Q E ⟨h, g, d, t, os⟩ :=
  ⟨call_range_1 (q _ _ _ _ _ (fun b o e => Heap.get?_push_of_some _ e) (IsRange.new ..))⟩
theorem i_range {r : Addr} {n : Nat} {u v x : Tok} {Q : Value → Shared → Prop} (hr : IsRange h r 0 n 1 u v x) (hn : n ≤ 1000000) (q : ∀ h', h.StaysIn h' → IsRangeIter h' h.objs.size (0 + ((0 : Nat) : Int) * 1) ((n : Int) - ((0 : Nat) : Int)) 1 → Q (.ref h.objs.size) ⟨h', g, d, t, os⟩) : WP w A (pyIter (.ref r)) Q E ⟨h, g, d, t, os⟩ := by
  refine ⟨wpAny_pyIter_range hr (small_one (by omega) (by omega) (by omega) (by omega)) (q _ (fun b o e => Heap.get?_push_of_some _ e) ?_)⟩
  have e : Builtin.Range.rangeSize 0 (n : Int) 1 = (n : Int) := by rw [rangeSize_one]; split <;> omega
  have e1 : (0 + ((0 : Nat) : Int) * 1) = 0 := by omega
  have e2 : ((n : Int) - ((0 : Nat) : Int)) = (n : Int) := by omega
  rw [e1, e2]
  have := Heap.get?_push_size h (o := { cls := .type "range_iterator", data := .fields #[rawInt 0, rawInt (Builtin.Range.rangeSize 0 n 1), rawInt 1] }) rfl
  rw [e] at this ⊢
  exact this
end
end Mine
end
section
open PySem PySem.W PyProof.Rows PySem.Calls Builtin.ObjectAttr Builtin.Getset_descriptor
set_option Elab.async false
set_option maxRecDepth 100000
set_option maxHeartbeats 1000000
namespace Mine
section
variable {w : World} {A : Around} {E : Value → Shared → Prop} {h₀ h : Heap} {g : Array GenState} {d : Drawn} {t : Nat} {os : OsState} {L fa Sc : Addr} {cd : Value} {ns : List Str} {vs : List (Option Value)} {nw : List (Addr × Obj)} {Q : Flow → Shared → Prop} {o1 o2 o3 o4 : Obj} {script : List Int} {vals : List Value}
abbrev lst (its : Array Value) (c : Nat) : Obj := { cls := .type "list", data := .seq its c }
theorem push_stay (h : Heap) (o : Obj) : h.StaysIn (h.push o) := fun _ _ e => Heap.get?_push_of_some _ e
theorem Kinds.hide {D : Addr} {as : List Addr} (K : Kinds w h D) (n : D ∉ as) : Kinds w (hideAll h as) D := let ⟨⟨o, es, ep, e, r⟩, m⟩ := K; ⟨⟨o, es, ep, hideAll_get _ e n, r⟩, m⟩
/-- an object just made, taken into the ledger -/
theorem St.list (S : St w h₀ L h ns vs nw) (its : Array Value) (c : Nat) : St w h₀ L (h.push (lst its c)) ns vs ((h.objs.size, lst its c) :: nw) := (S.keeps (push_stay _ _)).add (Heap.get?_push_size _ rfl) S.newL S.new0
theorem St.sizeN (S : St w h₀ L h ns vs nw) : h.objs.size ∉ nw.map (·.1) := S.fresh (get_size h)
theorem digits_len (n : Int) : (opS (n % 3).toNat).length ≤ 6 ∧ (Str.ofString (toString (n % 1000))).length ≤ 3 ∧ (Str.ofString ",").length = 1 ∧ (reS (n / 3 % 4).toNat).length ≤ 5 ∧ (opS (n % 3).toNat ++ Str.ofString (toString (n % 1000))).length ≤ 9 ∧ (opS (n % 3).toNat ++ Str.ofString (toString (n % 1000)) ++ Str.ofString ",").length ≤ 10 := by
  have hm : ((n % 1000).toNat : Int) = n % 1000 := by omega
  have d := digits_ok ⟨(n % 1000).toNat, by omega⟩
  simp only [hm, Bool.and_eq_true, decide_eq_true_eq] at d
  have d2 := d.2
  rw [tl_len] at d2
  have a : ∀ k, (opS k).length ≤ 6 := by intro k; unfold opS; split <;> decide +kernel
  have b : ∀ k, (reS k).length ≤ 5 := by intro k; unfold reS; split <;> decide +kernel
  have c : (Str.ofString ",").length = 1 := by decide +kernel
  have a' := a (n % 3).toNat
  refine ⟨a', d2, c, b _, ?_, ?_⟩
  · rw [Str.length_append]; omega
  · rw [Str.length_append, Str.length_append]; omega
theorem b_joinL {D : Addr} {its : Array Value} {y : Str} {u : Tok} {ws : List Str} {Q : Value → Shared → Prop} (hl : h.IsList D its) (hs : StrsAre its.toList ws) (hsep : y.length ≤ 64) (hok : (ws.map (·.length)).sum + ws.length * 64 ≤ 16777216) (q : ∀ t' k', Q (.str (Txt.join y ws) t') ⟨h, g, d, k', os⟩) :
    WP w A (call (.builtin "str.join") [.str y u, .ref D]) Q E ⟨h, g, d, t, os⟩ := ⟨join_listC hl hs hsep hok fun _ _ => q _ _⟩
theorem rowT_len (n : Int) : (rowT n).length ≤ 15 := by
  have := digits_len n
  unfold rowT
  rw [Str.length_append]; omega
/-- the first statements -/
theorem law_pre0 (S : St w h₀ L h nsL [some (.ref Sc), none, none, none, none, none, none, none, none, none, none, none, none, none] [(cD L, o4), (cS L, o3), (cT L, o2), (cR L, o1)]) (nd : [cD L, cS L, cT L, cR L].Nodup)
    (e1 : o1.data = .cell none) (hl : h₀.IsList Sc vals.toArray) (hI : IntsAre vals script) (hz : vals.length ≤ 63)
    (q : ∀ b h' t' Dk Nm o1' Rl nums c c', h₀.StaysIn b → St w b L h' nsL [some (.ref Sc), some (.ref Dk), some (.ref Nm), none, none, none, none, none, none, none, none, none, none, none] [(Rl, lst #[] c), (Nm, lst nums c'), (cD L, o4), (cS L, o3), (cT L, o2), (cR L, o1')] →
      Kinds w b Dk → o1'.data = .cell (some (.ref Rl)) → (∀ (j : Nat) (v : Value), nums[j]? = some v → ∃ n u, v = .int n u) → 1 ≤ nums.size → nums.size ≤ 63 → [Rl, Nm, cD L, cS L, cT L, cR L].Nodup → WP w A (execs ((lawB w).drop 3) (lenv w L fa cd)) Q E ⟨h', g, d, t', os⟩) :
    WP w A (execs (lawB w) (lenv w L fa cd)) Q E ⟨h, g, d, t, os⟩ := by
  rw [lawB_at rfl] at q ⊢
  have zz : sizeLine = 16777216 := sizeLine_eq
  refine r_cons (r_asg (r_dict S (fun _ _ _ q => r_cstr fun u t => q u t) (fun _ _ _ k q => r_globW (S.world.keeps k) (n_291 w) q) (fun _ _ _ q => r_cstr fun u t => q u t) (fun _ _ _ k q => r_globW (S.world.keeps k) (n_309 w) q) fun h₁ t₁ k₁ K f₁ => ?_))
  have nK : h.objs.size ∉ L :: [(cD L, o4), (cS L, o3), (cT L, o2), (cR L, o1)].map (·.1) := fun m => by
    rcases List.mem_cons.mp m with e | m
    · exact S.freshL f₁ e
    · exact S.fresh f₁ m
  have S := S.keeps k₁
  have kb := S.rebased
  have S := S.rebase
  have Kb := K.hide nK
  have kb' : h₀.StaysIn (hideAll h₁ (L :: [(cD L, o4), (cS L, o3), (cT L, o2), (cR L, o1)].map (·.1))) := kb
  generalize hideAll h₁ (L :: [(cD L, o4), (cS L, o3), (cT L, o2), (cR L, o1)].map (·.1)) = b at S Kb kb'
  have hl := hl.at fun o e => kb' _ o e
  refine r_store S 1 (hi := by simp) (q := fun h₂ t₂ S => r_cons (r_asg (WP.monoQ (Q := fun v s' => ∃ h' t' Nm nums c', v = .ref Nm ∧ s' = ⟨h', g, d, t', os⟩ ∧ St w b L h' nsL [some (.ref Sc), some (.ref h.objs.size), none, none, none, none, none, none, none, none, none, none, none, none] [(Nm, lst nums c'), (cD L, o4), (cS L, o3), (cT L, o2), (cR L, o1)] ∧ (∀ (j : Nat) (v : Value), nums[j]? = some v → ∃ n u, v = .int n u) ∧ 1 ≤ nums.size ∧ nums.size ≤ 63 ∧ Nm ∉ [cD L, cS L, cT L, cR L]) (r_or ?_) ?_)))
  rotate_left
  · rintro v s' ⟨h₃, t₃, Nm, nums, c', rfl, rfl, S, hn, z1, z2, nN⟩
    have ndN : [Nm, cD L, cS L, cT L, cR L].Nodup := List.nodup_cons.mpr ⟨nN, nd⟩
    refine r_store S 2 (hi := by simp) (q := fun h₄ t₄ S => r_cons (r_asg (r_lst0 ?_)))
    have fr := S.sizeN
    have S := S.list #[] 0
    have nd' : [h₄.objs.size, Nm, cD L, cS L, cT L, cR L].Nodup := List.nodup_cons.mpr ⟨fr, ndN⟩
    refine r_cset S nd' (i := 5) rfl e1 (by kernel_rfl) fun h₅ o1' e1' S => ?_
    exact q _ _ _ _ _ _ _ _ _ _ kb' S Kb e1' hn z1 z2 nd'
  refine r_call (r_boot S (n_list w) (cw1 kept_type (r_lsl_to (r_name S 0 (q := r_cint fun _ _ => ⟨_, _, _, _, rfl, rfl, hl.at fun o e => S.keep _ o e, by rw [zz]; simp; omega, fun vl vu => ?_⟩)))))
  have S := (S.keeps (push_stay _ { cls := .type "slice", data := .fields #[vl, vu, .none] })).list (slicePick vals.toArray none (some 5) none) 0
  have hp : (slicePick vals.toArray none (some 5) none).size ≤ 63 := Nat.le_trans (slicePick_size_le ..) (by simpa using hz)
  have hn : ∀ (j : Nat) (v : Value), (slicePick vals.toArray none (some 5) none)[j]? = some v → ∃ n u, v = .int n u := fun j v e => by
    obtain ⟨i, e⟩ := pick_mem e
    exact ints_at hI i v (by simpa using e)
  generalize slicePick vals.toArray none (some 5) none = pk at S hp hn
  rw [Heap.size_push] at S
  have nN := fun m => S.sizeN (List.mem_cons_of_mem _ m)
  refine ⟨S.world, b_list S (S.at (.head _)) (by rw [zz]; omega) fun h₃ c' S k₃ => ?_⟩
  have S := S.sub (nw' := (_, lst pk c') :: [(cD L, o4), (cS L, o3), (cT L, o2), (cR L, o1)]) (fun p hp => by
    rcases List.mem_cons.mp hp with rfl | hp
    · exact .head _
    · exact .tail _ (.tail _ hp))
  refine b_true_l (hl := ⟨_, S.at (.head _), rfl, c', rfl⟩) (by omega) fun k' => ?_
  by_cases he : pk.isEmpty = true
  · rw [he]
    have S := S.sub (nw' := [(cD L, o4), (cS L, o3), (cT L, o2), (cR L, o1)]) (fun p hp => .tail _ hp)
    refine c_ff (r_one (r_lst1 (r_cint fun u t₃ => ⟨_, _, _, _, 0, rfl, rfl, S.list #[.int 0 u] 0, fun j v e => ?_, by simp, by simp, S.sizeN⟩)))
    match j, e with
    | 0, e => exact ⟨0, u, by simpa using e.symm⟩
  · have he' : pk.isEmpty = false := by simpa using he
    rw [he']
    refine c_tt ⟨_, _, _, _, _, rfl, rfl, S, hn, ?_, hp, nN⟩
    have : pk.size ≠ 0 := fun z => he (by simpa using z)
    omega
end
end Mine
end
section
open PySem PySem.W PyProof.Rows PySem.Calls Builtin.ObjectAttr Builtin.Getset_descriptor
set_option Elab.async false
set_option maxRecDepth 100000
set_option maxHeartbeats 1000000
namespace Mine
section
variable {w : World} {A : Around} {E : Value → Shared → Prop} {h₀ h b : Heap} {g : Array GenState} {d : Drawn} {t : Nat} {os : OsState} {L fa Sc Dk Nm Rl : Addr} {cd : Value} {ns : List Str} {vs : List (Option Value)} {nw : List (Addr × Obj)} {Q : Flow → Shared → Prop} {o1 o2 o3 o4 : Obj} {nums : Array Value} {c c' : Nat}
/-- the loop that builds the first texts -/
theorem law_pre1 (S : St w b L h nsL [some (.ref Sc), some (.ref Dk), some (.ref Nm), none, none, none, none, none, none, none, none, none, none, none] [(Rl, lst #[] c), (Nm, lst nums c'), (cD L, o4), (cS L, o3), (cT L, o2), (cR L, o1)])
    (hh : A.handled = none) (e1 : o1.data = .cell (some (.ref Rl))) (e2 : o2.data = .cell none) (f : Nat → Int) (hn : ∀ (j : Nat) (v : Value), nums[j]? = some v → ∃ u, v = .int (f j) u) (z1 : 1 ≤ nums.size) (z2 : nums.size ≤ 63) (nd : [Rl, Nm, cD L, cS L, cT L, cR L].Nodup)
    (q : ∀ h' t' kv nv its c T o2' u x₁ x₂ x₃, St w b L h' nsL [some (.ref Sc), some (.ref Dk), some (.ref Nm), kv, nv, some (.str (Txt.join (Str.ofString "\n") [x₁, x₂, x₃] ++ Str.ofString "\n") u), none, none, none, none, none, none, none, none]
        [(T, lst #[.bool false, .bool false, .bool false] 0), (Rl, lst its c), (Nm, lst nums c'), (cD L, o4), (cS L, o3), (cT L, o2'), (cR L, o1)] →
      o2'.data = .cell (some (.ref T)) → StrsAre its.toList [x₁, x₂, x₃] → (∃ n, x₁ = rowT n) → (∃ n, x₂ = rowT n) → (∃ n, x₃ = rowT n) → [T, Rl, Nm, cD L, cS L, cT L, cR L].Nodup → WP w A (execs ((lawB w).drop 6) (lenv w L fa cd)) Q (fun _ _ => False) ⟨h', g, d, t', os⟩) :
    WP w A (execs ((lawB w).drop 3) (lenv w L fa cd)) Q (fun _ _ => False) ⟨h, g, d, t, os⟩ := by
  rw [lawB_at rfl] at q ⊢
  simp only [List.drop_succ_cons, List.drop_zero] at q ⊢
  have zz : sizeLine = 16777216 := sizeLine_eq
  refine r_cons (r_for (r_call (r_boot S (n_range w) (cw1 kept_type (r_cint fun u₁ t₁ => ⟨S.world, b_range1 fun h₁ u₂ u₃ u₄ t₂ k₁ R => i_range (n := 3) R (by decide) fun h₂ k₂ It => ?_⟩)))))
  have hI : (h₁.objs.size) ∉ [Rl, Nm, cD L, cS L, cT L, cR L] := (S.keeps k₁).sizeN
  have hIL : h₁.objs.size ≠ L := (S.keeps k₁).newL
  have hI0 : b.get? h₁.objs.size = none := (S.keeps k₁).new0
  have S := (S.keeps k₁).keeps k₂
  refine for_walk (Walks.range hh h₁.objs.size 0 1 3) 3 (fun i vs nw => ∃ kv nv its c, vs = [some (.ref Sc), some (.ref Dk), some (.ref Nm), kv, nv, none, none, none, none, none, none, none, none, none] ∧ nw = [(Rl, lst its c), (Nm, lst nums c'), (cD L, o4), (cS L, o3), (cT L, o2), (cR L, o1)] ∧ ∃ xs, StrsAre its.toList xs ∧ xs.length = i ∧ ∀ x ∈ xs, ∃ n, x = rowT n) S It ⟨none, none, _, _, rfl, rfl, [], .nil, rfl, by simp⟩ (fun a ha => by rw [List.mem_singleton.mp ha]; exact hIL) hI0 (.head _) ?_ ?_ ?_
  · rintro i vs nw ⟨kv, nv, its, c, rfl, rfl, _⟩
    refine ⟨by simp, fun a ha p hp => ?_⟩
    rw [List.mem_singleton.mp ha]
    intro e
    have := List.mem_map_of_mem (f := (·.1)) hp
    rw [e] at this
    exact hI this
  · rintro i v h₃ t₃ vs nw hi ⟨u₅, rfl⟩ ⟨kv, nv, its, c, rfl, rfl, xs, hs, hl, hx⟩ kb S
    have hlN := (isL.mk nums c').at (S.at (.tail _ (.head _)))
    have hk : ∀ (j : Int), 0 ≤ j → j < nums.size → ∃ v, nums[j.toNat]? = some v ∧ ∃ u, v = .int (f j.toNat) u := fun j h0 h1 => by
      have : j.toNat < nums.size := by omega
      exact ⟨nums[j.toNat], Array.getElem?_eq_getElem this, hn _ _ (Array.getElem?_eq_getElem this)⟩
    have m0 := Int.emod_nonneg (0 + (i : Int) * 1) (b := (nums.size : Int)) (by omega)
    have m1 := Int.emod_lt_of_pos (0 + (i : Int) * 1) (b := (nums.size : Int)) (by omega)
    obtain ⟨v, hv, uv, rfl⟩ := hk _ m0 m1
    refine r_cons (r_asg (r_bin (r_lget_bin (r_name S 2 (q := r_bin (r_name S 3 (q := r_call (r_boot S (n_len w) (cw1 kept_builtin (r_name S 2 (q := ⟨S.world, b_len_l hlN (by omega) fun _ _ => b_mod_int (by omega) fun _ _ => ⟨_, _, _, _, _, rfl, rfl, hlN, m0, by omega, hv, ?_⟩⟩)))))))))))
    refine r_name S 3 (q := b_add_int fun u₆ _ => r_store S 4 (hi := by simp) (q := fun h₄ t₄ S => ?_))
    generalize f ((0 + (i : Int) * 1) % (nums.size : Int)).toNat + (0 + (i : Int) * 1) = n at S
    obtain ⟨a₁, a₂, a₃, lo⟩ := look_open w
    obtain ⟨r₁, r₂, r₃, r₄, lr⟩ := look_rest w
    obtain ⟨ou, ho⟩ := open_get (t₁ := a₁) (t₂ := a₂) (t₃ := a₃) (k := (n % 3).toNat) (by omega)
    obtain ⟨ru, hr⟩ := rest_get (t₁ := r₁) (t₂ := r₂) (t₃ := r₃) (t₄ := r₄) (k := (n / 3 % 4).toNat) (by omega)
    have dl := (digits_len n)
    refine r_cons (r_expr (r_meth (r_cload S (.tail _ (.tail _ (.tail _ (.tail _ (.tail _ (.head _)))))) e1 (by kernel_rfl) (m_append (S.at (.head _)) rfl rfl (cwm1 kept_builtin ?_)))))
    refine r_bin (r_bin (r_bin (r_tget_bin (r_glob S (g_open w) (r_bin (r_name S 4 (q := r_cint fun _ _ => b_mod_int (by decide) fun _ _ => ⟨_, _, _, _, _, rfl, rfl, S.world.X _ _ lo, by omega, by omega, ho, ?_⟩)))))))
    refine r_call (r_boot S (n_str w) (cw1 kept_type (r_bin (r_name S 4 (q := r_cint fun _ _ => b_mod_int (by decide) fun _ _ => ⟨S.world, b_str_int (by omega) (by omega) fun _ _ => b_add_str (by rw [zz]; omega) fun _ _ => r_cstr fun _ _ => b_add_str (by rw [zz]; omega) fun _ _ => ?_⟩)))))
    refine r_tget_bin (r_glob S (g_rest w) (r_bin (r_bin (r_name S 4 (q := r_cint fun _ _ => b_div_int (by decide) (by decide) fun _ _ => r_cint fun _ _ => b_mod_int (by decide) fun _ _ => ⟨_, _, _, _, _, rfl, rfl, S.world.X _ _ lr, by omega, by omega, hr, b_add_str (by rw [zz]; omega) fun u₇ _ => ⟨S.world, ?_⟩⟩)))))
    refine b_append S (i := 0) rfl (by exact nd) (by have := StrsAre.length hs; simp at this; omega) fun h₅ c₅ S => r_nil ⟨rfl, _, _, _, _, rfl, S, _, _, _, _, rfl, rfl, xs ++ [rowT n], strsAre_push hs, by simp [hl], fun x hx' => ?_⟩
    rcases List.mem_append.mp hx' with h | h
    · exact hx x h
    · exact ⟨n, List.mem_singleton.mp h⟩
  · rintro h₃ t₃ vs nw S ⟨kv, nv, its, c, rfl, rfl, xs, hs, hl, hx⟩
    have hxs : ∃ x₁ x₂ x₃, xs = [x₁, x₂, x₃] := by
      match xs, hl with
      | [a, b, c], _ => exact ⟨a, b, c, rfl⟩
    obtain ⟨x₁, x₂, x₃, rfl⟩ := hxs
    obtain ⟨n₁, rfl⟩ := hx x₁ (by simp)
    obtain ⟨n₂, rfl⟩ := hx x₂ (by simp)
    obtain ⟨n₃, rfl⟩ := hx x₃ (by simp)
    have l1 := rowT_len n₁
    have l2 := rowT_len n₂
    have l3 := rowT_len n₃
    have hlR := (isL.mk its c).at (S.at (.head _))
    have nl1 : (Str.ofString "\n").length = 1 := by decide +kernel
    have jl : (Txt.join (Str.ofString "\n") [rowT n₁, rowT n₂, rowT n₃]).length ≤ 1000 := by
      have := StrLaws.join_length_le (Str.ofString "\n") [rowT n₁, rowT n₂, rowT n₃]
      rw [← StrLaws.glued_eq_join] at this
      refine Nat.le_trans this ?_
      simp [nl1]; omega
    refine r_cons (r_asg (r_bin (r_meth (r_cstr fun _ _ => m_str F.slot_str_join F.type_str_join (cwm1 kept_builtin (r_cload S (.tail _ (.tail _ (.tail _ (.tail _ (.tail _ (.head _)))))) e1 (by kernel_rfl) ⟨S.world, b_joinL hlR hs (by rw [nl1]; decide) (by simp; omega) fun _ _ => ?_⟩))))))
    refine r_cstr fun _ _ => b_add_str (by rw [zz, nl1]; omega) fun u₈ _ => r_store S 5 (hi := by simp) (q := fun h₄ t₄ S => ?_)
    refine r_cons (r_asg (r_lst3 (r_cbool (r_cbool (r_cbool ?_)))))
    have fr := S.sizeN
    have S := S.list #[.bool false, .bool false, .bool false] 0
    have nd' : [h₄.objs.size, Rl, Nm, cD L, cS L, cT L, cR L].Nodup := List.nodup_cons.mpr ⟨fr, nd⟩
    refine r_cset S nd' (i := 5) rfl e2 (by kernel_rfl) fun h₅ o2' e2' S => ?_
    exact q _ _ _ _ _ _ _ _ _ _ _ _ S e2' hs ⟨_, rfl⟩ ⟨_, rfl⟩ ⟨_, rfl⟩ nd'
end
end Mine
end
section
open PySem PySem.W PyProof.Rows PySem.Calls Builtin.ObjectAttr Builtin.Getset_descriptor
set_option Elab.async false
set_option maxRecDepth 100000
set_option maxHeartbeats 1000000
namespace Mine
section
variable {w : World} {A : Around} {E : Value → Shared → Prop} {h₀ h b : Heap} {g : Array GenState} {d : Drawn} {t : Nat} {os : OsState} {L fa Sc Dk Nm Rl : Addr} {cd : Value} {ns : List Str} {vs : List (Option Value)} {nw : List (Addr × Obj)} {o1 o2 o3 o4 : Obj} {nums : Array Value} {c c' : Nat}
theorem paired_of {α β : Type} {F : α → β → Prop} : ∀ {l₁ : List α} {l₂ : List β}, l₁.length = l₂.length → (∀ (j : Nat) a b, l₁[j]? = some a → l₂[j]? = some b → F a b) → Paired F l₁ l₂
  | [], [], _, _ => .nil
  | [], _ :: _, e, _ => by simp at e
  | _ :: _, [], e, _ => by simp at e
  | a :: l₁, b :: l₂, e, k => .cons (k 0 a b rfl rfl) (paired_of (by simpa using e) fun j x y e₁ e₂ => k (j + 1) x y (by simpa using e₁) (by simpa using e₂))
theorem frames_law (S : St w h₀ L h ns vs nw) : h.FunFrames {} [lenv w L fa cd] := by
  obtain ⟨o, es, ep, e, dd, r⟩ := S.F
  have hk : (lenv w L fa cd).scope.kind = .function := by kernel_rfl
  exact ⟨by rw [hk]; decide, ⟨L, o, rfl, rfl, e, fun vs q => by rw [dd] at q; cases q⟩, trivial⟩
theorem call_heard {Q : Value → Shared → Prop} {ls : List Lin} {ul uc : Tok} {cut : Int} (S : St w b L h ns vs nw) (K : Kinds w b Dk) (fr : A.frames = some [lenv w L fa cd]) (hh : A.handled = none) (room : A.depth < 840) (ok : ∀ l ∈ ls, l.Ok) (hz : ls.length ≤ 3) (h0 : 0 ≤ cut)
    (q : ∀ h' g' t' Hl items c, Gk g g' → Ups [L] h h' → h.get? Hl = none → h'.get? Hl = some (lst items c) → Paired (fun v l => MsgAt w (hideAll h' [L]) v (Lin.msg l)) items.toList ls → Q (.ref Hl) ⟨h', g', d, t', os⟩) :
    WP w A (call (.ref 334) [.ref Dk, .str (logT ls) ul, .int cut uc]) Q E ⟨h, g, d, t, os⟩ := by
  obtain ⟨cut, rfl⟩ := Int.eq_ofNat_of_zero_le h0
  obtain ⟨a, b', r₁, r₂, rfl, s₁, s₂, lr⟩ := heard_split ok cut
  have ll := logT_len ok
  have e0 : (Str.ofString "").length = 0 := by decide +kernel
  have z1 := Txt.slice_le (logT (a ++ b')) none (some (cut : Int))
  have z2 := Txt.slice_le (logT (a ++ b')) (some (cut : Int)) none
  have la : a.length + b'.length ≤ 3 := by simpa using hz
  let m : List Lin → Nat → Msg := fun l i => match l[i]? with
    | some x => x.msg
    | none => .bad
  have hm : ∀ l : List Lin, (∀ x ∈ l, x.Ok) → ∀ i y, (l.map Lin.text)[i]? = some y → y.length ≤ 10000 ∧ LineOk y (m l i) := fun l okl i y e => by
    rw [List.getElem?_map] at e
    cases e' : l[i]? with
    | none => rw [e'] at e; cases e
    | some x =>
      rw [e'] at e
      have := Option.some.inj e
      subst this
      have k := okl x (List.mem_of_getElem? e')
      refine ⟨Nat.le_trans (Lin.text_len k).2 (by decide), ?_⟩
      show LineOk _ (match l[i]? with | some x => x.msg | none => .bad)
      rw [e']
      exact Lin.line k
  refine call_cc (heard_spec (outer := [lenv w L fa cd]) S.W K S.keep (frames_law S) fr hh room (fun c hc => ?_) s₁ s₂ (by omega) (by rw [Str.length_append, e0]; omega) (by rw [Str.length_append]; omega) (by simp; omega) (by simp; omega)
    (hm a fun x hx => ok x (List.mem_append_left _ hx)) (hm b' fun x hx => ok x (List.mem_append_right _ hx)) fun h' g' t' Hl a₁ a₂ c gk up n1 e1 y1 y2 M₁ M₂ => ?_)
  · have : c = L := List.mem_singleton.mp hc
    rw [this]; exact S.off
  · refine q h' g' t' Hl (a₁ ++ a₂) c gk up n1 e1 (paired_of (by simp at y1 y2 ⊢; omega) fun j v l e₁ e₂ => ?_)
    rw [List.length_map] at y1 y2
    have e₁' : (a₁ ++ a₂)[j]? = some v := by rw [← Array.getElem?_toList]; exact e₁
    rcases Nat.lt_or_ge j a.length with q | q
    · rw [List.getElem?_append_left q] at e₂
      rw [Array.getElem?_append_left (by omega)] at e₁'
      have := M₁ j v e₁'
      show MsgAt w _ v l.msg
      simp only [m, e₂] at this
      exact this
    · rw [List.getElem?_append_right q] at e₂
      rw [Array.getElem?_append_right (by omega), y1] at e₁'
      have := M₂ _ v e₁'
      simp only [m, e₂] at this
      exact this
/-- a message is bad or a sentence, never both -/
def badV (w : World) (h : Heap) (v : Value) : Prop := MsgAt w h v .bad
theorem kn_cls {k : Knd} (f : k.fits) : k.cls = 291 ∨ k.cls = 309 ∨ k.cls = 244 := by
  cases k with
  | talk C _ _ => exact f.1.elim .inl fun e => .inr (.inl e)
  | prop _ => exact .inr (.inr rfl)
theorem MsgAt.not {v : Value} {k : Knd} {ws : List Str} (M : MsgAt w h v (.sent k ws)) : ¬ MsgAt w h v .bad := by
  rintro ⟨x', o', rfl, e', c'⟩
  obtain ⟨f, x, ex, S⟩ := M
  cases ex
  obtain ⟨dx, od, I⟩ := Sent.at (k := k) (ws := ws) S
  have := I.x.symm.trans e'
  have := Option.some.inj this
  rw [← this] at c'
  have c' : Value.ref k.cls = .ref 89 := c'
  injection c' with c'
  rcases kn_cls f with e | e | e <;> rw [e] at c' <;> exact absurd c' (by decide)
theorem ListAt.uniq {D : Addr} {ws ws' : List Str} (I : ListAt h D ws) (J : ListAt h D ws') : ws = ws' := by
  obtain ⟨c, l, e, r⟩ := I
  obtain ⟨c', l', e', r'⟩ := J
  have := congrArg Obj.data (Option.some.inj (e.symm.trans e'))
  injection this with this
  have this := congrArg Array.toList this
  simp only at this
  rw [← r, ← r']
  have key : ∀ {l l' : List (Str × Tok)}, strValues l = strValues l' → l.map (·.1) = l'.map (·.1) := by
    intro l
    induction l with
    | nil => intro l' q; cases l' with
      | nil => rfl
      | cons a l' => exact absurd q (by simp [strValues])
    | cons a l ih => intro l' q; cases l' with
      | nil => exact absurd q (by simp [strValues])
      | cons a' l' =>
        simp only [strValues, List.map_cons, List.cons.injEq] at q ⊢
        exact ⟨by injection q.1, ih q.2⟩
  exact key this
theorem Sent.uniq {x : Addr} {ws ws' : List Str} : ∀ {k k' : Knd}, k.fits → k'.fits → Sent w h x k ws → Sent w h x k' ws' → k = k' ∧ ws = ws'
  | .talk C ta ty, .talk C' ta' ty', _, _, ⟨dx, t₁, t₂, t₃, u₁, u₂, Dn, I, l⟩, ⟨dx', t₁', t₂', t₃', u₁', u₂', Dn', I', l'⟩ => by
    have ex := Option.some.inj (I.x.symm.trans I'.x)
    have e1 : (Value.ref C) = .ref C' := congrArg Obj.cls ex
    have e2 : some dx = some dx' := congrArg Obj.dict ex
    injection e1 with e1
    injection e2 with e2
    subst e1 e2
    have ed := Option.some.inj (I.d.symm.trans I'.d)
    have d1 := congrArg (lookIn sT) ed; rw [odT_1, odT_1] at d1
    have d2 := congrArg (lookIn sY) ed; rw [odT_2, odT_2] at d2
    have d3 := congrArg (lookIn sD) ed; rw [odT_3, odT_3] at d3
    simp only [Option.some.injEq, Value.str.injEq, Value.ref.injEq] at d1 d2 d3
    obtain ⟨rfl, _⟩ := d1
    obtain ⟨rfl, _⟩ := d2
    subst d3
    exact ⟨rfl, l.uniq l'⟩
  | .prop m, .prop m', _, _, ⟨dx, t₁, t₃, u₁, Dn, I, l⟩, ⟨dx', t₁', t₃', u₁', Dn', I', l'⟩ => by
    have ex := Option.some.inj (I.x.symm.trans I'.x)
    have e2 : some dx = some dx' := congrArg Obj.dict ex
    injection e2 with e2
    subst e2
    have ed := Option.some.inj (I.d.symm.trans I'.d)
    have d1 := congrArg (lookIn sM) ed; rw [odP_1, odP_1] at d1
    have d3 := congrArg (lookIn sD) ed; rw [odP_3, odP_3] at d3
    simp only [Option.some.injEq, Value.str.injEq, Value.ref.injEq] at d1 d3
    obtain ⟨rfl, _⟩ := d1
    subst d3
    exact ⟨rfl, l.uniq l'⟩
  | .talk C ta ty, .prop m', f, _, ⟨dx, t₁, t₂, t₃, u₁, u₂, Dn, I, l⟩, ⟨dx', t₁', t₃', u₁', Dn', I', l'⟩ => by
    have e1 : (Value.ref C) = .ref 244 := congrArg Obj.cls (Option.some.inj (I.x.symm.trans I'.x))
    injection e1 with e1
    rcases f.1 with e | e <;> rw [e] at e1 <;> exact absurd e1 (by decide)
  | .prop m, .talk C ta ty, _, f, ⟨dx', t₁', t₃', u₁', Dn', I', l'⟩, ⟨dx, t₁, t₂, t₃, u₁, u₂, Dn, I, l⟩ => by
    have e1 : (Value.ref C) = .ref 244 := congrArg Obj.cls (Option.some.inj (I.x.symm.trans I'.x))
    injection e1 with e1
    rcases f.1 with e | e <;> rw [e] at e1 <;> exact absurd e1 (by decide)
def isCell : Data → Bool
  | .cell _ => true
  | _ => false
/-- cells are none of a sentence's things -/
theorem Sent.hideC {x : Addr} {ws : List Str} {k : Knd} {as : List Addr} (ha : ∀ c ∈ as, ∀ o, h.get? c = some o → ∃ v, o.data = .cell v) (S : Sent w h x k ws) : Sent w (hideAll h as) x k ws := by
  have no : ∀ {a : Addr} {o : Obj}, h.get? a = some o → isCell o.data = false → a ∉ as := fun {a o} e n m => by
    obtain ⟨v, q⟩ := ha a m o e
    rw [q] at n; cases n
  cases k with
  | talk C ta ty =>
    obtain ⟨dx, t₁, t₂, t₃, u₁, u₂, Dn, I, c, l, e, r⟩ := S
    exact ⟨dx, t₁, t₂, t₃, u₁, u₂, Dn, ⟨hideAll_get _ I.x (no I.x rfl), hideAll_get _ I.d (no I.d (by kernel_rfl))⟩, c, l, hideAll_get _ e (no e rfl), r⟩
  | prop m =>
    obtain ⟨dx, t₁, t₃, u₁, Dn, I, c, l, e, r⟩ := S
    exact ⟨dx, t₁, t₃, u₁, Dn, ⟨hideAll_get _ I.x (no I.x rfl), hideAll_get _ I.d (no I.d (by kernel_rfl))⟩, c, l, hideAll_get _ e (no e rfl), r⟩
end
end Mine
end
section
open PySem PySem.W PyProof.Rows PySem.Calls Builtin.ObjectAttr Builtin.Getset_descriptor
set_option Elab.async false
set_option maxRecDepth 100000
set_option maxHeartbeats 1000000
namespace Mine
section
variable {w : World} {A : Around} {E : Value → Shared → Prop} {h₀ h b b₁ : Heap} {g : Array GenState} {d : Drawn} {t : Nat} {os : OsState} {L fa Sc Dk Nm Rl : Addr} {cd : Value} {ns : List Str} {vs vs' : List (Option Value)} {nw nw' : List (Addr × Obj)} {o1 o2 o3 o4 : Obj} {nums : Array Value} {c c' : Nat} {env : Env} {pos : Pos}
theorem keep_334 (w : World) : keepIn (KK w) (.ref 334) = true := by kernel_rfl
theorem keep_341 (w : World) : keepIn (KK w) (.ref 341) = true := by kernel_rfl
theorem keep_348 (w : World) : keepIn (KK w) (.ref 348) = true := by kernel_rfl
theorem keep_320 (w : World) : keepIn (KK w) (.ref 320) = true := by kernel_rfl
theorem keep_327 (w : World) : keepIn (KK w) (.ref 327) = true := by kernel_rfl
def isB : Msg → Bool
  | .bad => true
  | _ => false
theorem isB_lin (l : Lin) : isB l.msg = l.lost := by unfold Lin.msg; cases l.lost <;> rfl
theorem MsgAt.isB_eq {v : Value} : ∀ {m m' : Msg}, MsgAt w h v m → MsgAt w h v m' → isB m = isB m'
  | .bad, .bad, _, _ => rfl
  | .sent _ _, .sent _ _, _, _ => rfl
  | .bad, .sent _ _, M, M' => absurd M M'.not
  | .sent _ _, .bad, M, M' => absurd M' M.not
theorem MsgAt.isB_dec {v : Value} {m : Msg} (M : MsgAt w h v m) : isB m = @decide (MsgAt w h v .bad) (Classical.propDecidable _) := by
  cases m with
  | bad => exact (@decide_eq_true _ (Classical.propDecidable _) M).symm
  | sent k ws => exact (@decide_eq_false _ (Classical.propDecidable _) M.not).symm
theorem b_isi {v : Value} {Q : Value → Shared → Prop} : ∀ {m : Msg}, Wd w h → MsgAt w h v m → (∀ t', Q (.bool (isB m)) ⟨h, g, d, t', os⟩) → WP w A (call (.builtin "isinstance") [v, .ref 89]) Q E ⟨h, g, d, t, os⟩
  | .bad, W, ⟨x, o, e, ho, hc⟩, q => by
    subst e
    exact b_is_yes W ho hc (nots89 w).2.2.2 (q _)
  | .sent k ws, W, ⟨f, x, e, S⟩, q => by
    subst e
    obtain ⟨dx, od, I⟩ := Sent.at (k := k) (ws := ws) S
    have Y := k.clsA (w := w) f
    have hC := kn_cls f
    generalize k.cls = C at *
    rcases hC with rfl | rfl | rfl
    · exact b_is_no W I.inst Y (nots89 w).1 fun _ => q _
    · exact b_is_no W I.inst Y (nots89 w).2.1 fun _ => q _
    · exact b_is_no W I.inst Y (nots89 w).2.2.1 fun _ => q _
theorem t_if1 {c : PySem.Expr} {e : Env} {Q : Bool → Shared → Prop} {s : Shared} (z : WP w A (isTrue c e (eval c e)) Q E s) :
    WP w A (forIn [c] true fun c r => if r = true then do let ok ← isTrue c e (eval c e); pure (ForInStep.yield ok) else pure (ForInStep.yield r)) Q E s := by
  refine ⟨?_⟩
  rw [List.forIn_cons]
  simp only [if_true]
  refine wpAny_bind (wpAny_bind (z.to fun ok s' q => wpAny_pure ?_))
  simp only [List.forIn_nil]
  exact wpAny_pure q
theorem r_cellH {x : Str} {pos : Pos} {a : Addr} {v : Value} {Q : Value → Shared → Prop} {s : Shared} (hv : s.heap.IsCell a (some v)) (hc : env.cells.lookup x = some a) (q : Q v s)
    (hk : env.scope.kind = .function := by kernel_rfl) (hl : env.kindOf x = some .cell := by kernel_rfl) (hd : (x == ("__debug__" : Str)) = false := by kernel_rfl) :
    WP w A (eval (.Name x pos) env) Q E s := ⟨wpAny_Name (wpAny_loadName_cell hk hl hc hv q) hd⟩
theorem paired_map {α β γ : Type} {F : α → β → Prop} {G : α → γ → Prop} {φ : γ → β} (z : ∀ a b c, F a b → G a c → b = φ c) : ∀ {l₁ : List α} {l₂ : List β} {l₃ : List γ}, Paired F l₁ l₂ → Paired G l₁ l₃ → l₂ = l₃.map φ
  | _, _, _, .nil, .nil => rfl
  | _, _, _, .cons x xs, .cons y ys => by rw [List.map_cons, ← z _ _ _ x y, ← paired_map z xs ys]
theorem paired_strs {α γ : Type} {F : α → Value → Prop} {G : α → γ → Prop} {φ : γ → Str} (z : ∀ a b c, F a b → G a c → ∃ u, b = .str (φ c) u) : ∀ {l₁ : List α} {l₂ : List Value} {l₃ : List γ}, Paired F l₁ l₂ → Paired G l₁ l₃ → StrsAre l₂ (l₃.map φ)
  | _, _, _, .nil, .nil => .nil
  | _, _, _, .cons x xs, .cons y ys => by
    obtain ⟨u, rfl⟩ := z _ _ _ x y
    exact .cons _ u (paired_strs z xs ys)
theorem paired_filter {α γ : Type} {G : α → γ → Prop} {p : α → Bool} {r : γ → Bool} (z : ∀ a c, G a c → p a = r c) : ∀ {l₁ : List α} {l₃ : List γ}, Paired G l₁ l₃ → Paired G (l₁.filter p) (l₃.filter r)
  | _, _, .nil => .nil
  | _, _, .cons (a := a) (b := b') x xs => by
    rw [List.filter_cons, List.filter_cons, z _ _ x]
    cases r b'
    · simp only [Bool.false_eq_true, if_false]; exact paired_filter z xs
    · simp only [if_true]; exact .cons x (paired_filter z xs)
theorem paired_trans {α β γ : Type} {F : α → β → Prop} {G : α → γ → Prop} {H : β → γ → Prop} (z : ∀ a b c, F a b → G a c → H b c) : ∀ {l₁ : List α} {l₂ : List β} {l₃ : List γ}, Paired F l₁ l₂ → Paired G l₁ l₃ → Paired H l₂ l₃
  | _, _, _, .nil, .nil => .nil
  | _, _, _, .cons x xs, .cons y ys => .cons (z _ _ _ x y) (paired_trans z xs ys)
theorem paired_mem {α γ : Type} {G : α → γ → Prop} : ∀ {l₁ : List α} {l₃ : List γ}, Paired G l₁ l₃ → Paired (fun a c => G a c ∧ c ∈ l₃) l₁ l₃
  | _, _, .nil => .nil
  | _, _, .cons x xs => .cons ⟨x, .head _⟩ ((paired_mem xs).mono fun _ _ z => ⟨z.1, .tail _ z.2⟩)
theorem paired_at {α γ : Type} {G : α → γ → Prop} : ∀ {l₁ : List α} {l₃ : List γ}, Paired G l₁ l₃ → ∀ (i : Nat) a, l₁[i]? = some a → ∃ c, c ∈ l₃ ∧ G a c
  | _, _, .cons x xs, 0, a, e => by
    have := Option.some.inj e
    subst this
    exact ⟨_, .head _, x⟩
  | _, _, .cons x xs, i + 1, a, e => let ⟨c, m, k⟩ := paired_at xs i a (by simpa using e); ⟨c, .tail _ m, k⟩
theorem paired_mapR {α β γ : Type} {G : α → β → Prop} {φ : γ → β} : ∀ {l₁ : List α} {l₃ : List γ}, Paired (fun a c => G a (φ c)) l₁ l₃ → Paired G l₁ (l₃.map φ)
  | _, _, .nil => .nil
  | _, _, .cons x xs => .cons x (paired_mapR xs)
theorem paired_ofS {γ : Type} {φ : γ → Str} : ∀ {l₁ : List Value} {l₃ : List γ}, StrsAre l₁ (l₃.map φ) → Paired (fun v c => ∃ u, v = .str (φ c) u) l₁ l₃
  | [], [], _ => .nil
  | [], _ :: _, h => by cases h
  | _ :: _, [], h => by cases h
  | a :: l₁, c :: l₃, h => by
    rw [List.map_cons] at h
    cases h with
    | cons y t h => exact .cons ⟨t, rfl⟩ (paired_ofS h)
theorem s_dataB {k : Knd} {ws : List Str} {x : Addr} {expr : Bool} {Q : Value → Shared → Prop} (W : Wd w h) (I : Sent w b x k ws) (kb : b.StaysIn h) (hk : k.fits) (q : ∀ Dn t', ListAt b Dn ws → Q (.ref Dn) ⟨h, g, d, t', os⟩) : WP w A (getAttr (.ref x) (Str.ofString "data") expr) Q E ⟨h, g, d, t, os⟩ := by
  cases k with
  | talk C ta ty =>
    obtain ⟨dx, t₁, t₂, t₃, u₁, u₂, Dn, I, l⟩ := I
    exact b_attr W (I.keeps kb) hk.1.cls hk.1.none.2.2 odT_3 rfl fun _ => q _ _ l
  | prop m =>
    obtain ⟨dx, t₁, t₃, u₁, Dn, I, l⟩ := I
    exact b_attr W (I.keeps kb) (cls_244 w) (none_244 w).2 odP_3 rfl fun _ => q _ _ l
/-- one sentence's `render` -/
theorem rend_row {x : Str} {o : Nat} {y : List Nat} {xa : Addr} {args : List Value} {sum dol nlB : Bool} {nl : Value} {Q : Value → Shared → Prop} (W : Wd w h) (hroom : A.depth < 890) (hh : A.handled = none) (R : Row x o y) (I : Sent w h xa (kn o) (wds x o))
    (hb : ∀ s : Shared, (KK w).In s.heap → BindsTo s (fdOf w 154) ⟨args, []⟩ (nm154.zip [.ref xa, .bool sum, .bool dol, nl])) (hnl : (nl = .bool false ∧ nlB = false) ∨ (∃ u, nl = .str (Str.ofString "\n") u ∧ nlB = true))
    (q : ∀ h' t' k', h.StaysIn h' → Q (.str (renderT (bareT (kn o) (wds x o)) sum dol nlB) t') ⟨h', g, d, k', os⟩) : CC w A (.call (.ref 154) ⟨args, []⟩) (RQ Q) ⟨h, g, d, t, os⟩ := by
  have hs : xsum (bareT (kn o) (wds x o)) 0 0 = (xn (tl x) : Int) := by rw [bare_eq R, xsum_xn]
  have hlt : xn (tl x) < 128 := xn_lt fun c hc => okc_lt (R.all c hc)
  refine render_spec W hroom hh I (kn_fits o) (by rw [bare_eq R]; exact R.asc) (by rw [bare_eq R, R.len]; have := R.le; omega) (wds_len R).1 (by rw [hs, hex_len _ hlt]; decide) ?_ hb hnl q
  rw [hs]
  show (xn (tl x)).log2 < 1920
  by_cases e : xn (tl x) = 0
  · rw [e]; decide
  · rw [Nat.log2_lt e]
    exact Nat.lt_of_lt_of_le hlt (by rw [show (128 : Nat) = 2 ^ 7 from rfl]; exact Nat.pow_le_pow_right (by decide) (by decide))
theorem TupAt.keeps {h h' : Heap} {y : Value} {x : Str} {ws : List Str} (I : TupAt h y x ws) (k : h.StaysIn h') : TupAt h' y x ws := let ⟨T, u, Dn, e, ht, l⟩ := I; ⟨T, u, Dn, e, k _ _ ht, l.keeps k⟩
/-- back to the old base -/
theorem St.back {h' : Heap} (S : St w b L h ns vs nw) (kb : b.StaysIn b₁) (S' : St w b₁ L h' ns vs' nw') (k : ∀ p ∈ nw, b₁.get? p.1 = some p.2) : St w b L h' ns vs' (nw' ++ nw) := by
  refine ⟨S'.F, fun c o e => S'.keep _ _ (kb _ _ e), S.off, fun p hp => ?_, S.W⟩
  rcases List.mem_append.mp hp with hp | hp
  · refine ⟨(S'.N p hp).1, (S'.N p hp).2.1, ?_⟩
    cases q : b.get? p.1 with
    | none => rfl
    | some o => have := (S'.N p hp).2.2; rw [kb _ _ q] at this; cases this
  · exact ⟨S'.keep _ _ (k p hp), (S.N p hp).2⟩
end
end Mine
end
section
open PySem PySem.W PyProof.Rows PySem.Calls Builtin.ObjectAttr Builtin.Getset_descriptor
set_option Elab.async false
set_option maxRecDepth 100000
set_option maxHeartbeats 1000000
namespace Mine
noncomputable def loopB (w : World) : List Stmt := match (lawB w)[6]? with
  | some (PySem.Stmt.For _ _ b _ _) => b
  | _ => []
theorem loopB_at {w : World} {t i : PySem.Expr} {b o : List Stmt} {p : Pos} (h : (lawB w)[6]? = some (PySem.Stmt.For t i b o p)) : loopB w = b := by unfold loopB; rw [h]
section
variable {w : World} {A : Around} {E : Value → Shared → Prop} {h b : Heap} {g : Array GenState} {d : Drawn} {t : Nat} {os : OsState} {L fa Sc Dk Nm T R : Addr} {cd : Value} {o1 o2 o3 o4 oT oR : Obj} {Q : Flow → Shared → Prop} {ls : List Lin} {n : Int} {un ul : Tok} {kv hv tv bv lv htv mv av ev v3 v4 : Option Value} {itT itR : Array Value}
theorem station1 (S : St w b L h nsL [some (.ref Sc), some (.ref Dk), some (.ref Nm), kv, some (.int n un), some (.str (logT ls) ul), hv, tv, bv, lv, htv, mv, av, ev] [(T, oT), (R, oR), (cD L, o4), (cS L, o3), (cT L, o2), (cR L, o1)])
    (K : Kinds w b Dk) (fr : A.frames = some [lenv w L fa cd]) (hh : A.handled = none) (room : A.depth < 800) (hu : A.units + 10 < cLine) (ok : ∀ l ∈ ls, l.Ok) (hz : ls.length ≤ 3)
    (e1 : o1.data = .cell (some (.ref R))) (e2 : o2.data = .cell (some (.ref T))) (e3 : o3.data = .cell v3) (e4 : o4.data = .cell v4) (nd : [T, R, cD L, cS L, cT L, cR L].Nodup)
    (lT : isL oT itT) (hT : itT.toList = (ls.map Lin.lost).map .bool) (lR : isL oR itR) (hR : StrsAre itR.toList ((ls.filter fun l => !l.lost).map (·.x)))
    (q : ∀ b₂ h' g' t' Hl TD told ct, b.StaysIn b₂ → Gk g g' → St w b₂ L h' nsL [some (.ref Sc), some (.ref Dk), some (.ref Nm), kv, some (.int n un), some (.str (logT ls) ul), some (.ref Hl), some (.ref TD), bv, lv, htv, mv, av, ev] [(cD L, o4), (cS L, o3), (cT L, o2), (cR L, o1)] →
      b₂.get? TD = some (lst told ct) → b₂.get? R = some oR → b₂.get? T = some oT → Paired (fun v l => MsgAt w b₂ v (.sent (kn l.o) (wds l.x l.o)) ∧ ∃ y, Row l.x l.o y) told.toList (ls.filter fun l => !l.lost) →
      WP w A (execs ((loopB w).drop 5) (lenv w L fa cd)) Q E ⟨h', g', d, t', os⟩) :
    WP w A (execs (loopB w) (lenv w L fa cd)) Q E ⟨h, g, d, t, os⟩ := by
  rw [loopB_at rfl] at q ⊢
  simp only [List.drop_succ_cons, List.drop_zero] at q
  have zz : sizeLine = 16777216 := sizeLine_eq
  have ll := logT_len ok
  refine r_cons (r_asg (r_call (r_glob S (g_heard w) (cw3 (kept_K (keep_334 w)) (r_name S 1 (q := r_name S 5 (q := r_bin (r_name S 4 (q := r_bin (r_call (r_boot S (n_len w) (cw1 kept_builtin (r_name S 5 (q := ⟨S.world, b_len_str (by omega) fun _ _ => r_cint fun _ _ => b_add_int fun _ _ => b_mod_int (by omega) fun _ _ => ⟨S.world, call_heard S K fr hh (by omega) ok hz (Int.emod_nonneg _ (by omega)) fun h₁ g₁ t₁ Hl items c gk up nH eH P => ?_⟩⟩))))))))))))))
  have S₁ := S.upsL up
  have S₂ := (S₁.sub (nw' := []) (fun p hp => nomatch hp)).rebase
  have kb₁ : b.StaysIn (hideAll h₁ (L :: ([] : List (Addr × Obj)).map (·.1))) := (S₁.sub (nw' := []) (fun p hp => nomatch hp)).rebased
  have HL : Hl ≠ L := S.freshL nH
  have eH₁ : (hideAll h₁ (L :: ([] : List (Addr × Obj)).map (·.1))).get? Hl = some (lst items c) := hideAll_get _ eH (by simpa using HL)
  have P : Paired (fun v l => MsgAt w (hideAll h₁ (L :: ([] : List (Addr × Obj)).map (·.1))) v (Lin.msg l)) items.toList ls := P
  have at₁ : ∀ p ∈ [(T, oT), (R, oR), (cD L, o4), (cS L, o3), (cT L, o2), (cR L, o1)], (hideAll h₁ (L :: ([] : List (Addr × Obj)).map (·.1))).get? p.1 = some p.2 := fun p hp => hideAll_get _ (S₁.N p hp).1 (by simpa using (S₁.N p hp).2.1)
  generalize hideAll h₁ (L :: ([] : List (Addr × Obj)).map (·.1)) = b₁ at S₂ kb₁ eH₁ P at₁
  have lit : items.size = ls.length := by have := P.length; simpa using this
  refine r_store S₂ 6 (hi := by simp) (q := fun h₂ t₂ S₃ => ?_)
  refine r_cons (r_if (t_cmp (r_lcomp (g := g₁) (d := d) (os := os) (fun _ => true) (fun v y => ∀ m, MsgAt w b₁ v m → y = .bool (isB m)) hh rfl (by kernel_rfl) (by kernel_rfl) (by kernel_rfl) (by kernel_rfl) (r_name S₃ 6 (q := ⟨_, _, _, _, rfl, rfl, ⟨_, S₃.keep _ _ eH₁, rfl, c, rfl⟩, by rw [zz]; omega, ⟨fun C v h₃ g₃ d₃ os₃ t₃ m₃ E' hi k₃ hn hv => t_noifs ⟨rfl, _, _, rfl, fun _ _ e => e⟩, fun C v h₃ g₃ d₃ os₃ t₃ m₃ E' hi _ k₃ hn hv => ?_⟩, fun D h₃ t₃ ys nD pD F₁ k₃ => ?_⟩)))))
  · obtain ⟨i, hi⟩ := hi
    obtain ⟨l, _, M⟩ := paired_at P i v (by simpa using hi)
    have W₃ := S₃.world.keeps k₃
    have M₃ := M.keeps (fun a o e => k₃ _ _ (S₃.keep _ _ e))
    exact r_call (r_bootW W₃ (n_isi w) (cw2 kept_builtin (r_cvar hn hv (q := r_globW W₃ (n_89 w) ⟨W₃, b_isi W₃ M₃ fun t' => ⟨fun m M' => by rw [M.isB_eq M'], _, _, rfl, fun _ _ e => e⟩⟩))))
  have hF : items.toList.filter (fun _ => true) = items.toList := by simp
  rw [hF] at F₁
  have ysT : ys.toList = (ls.map Lin.lost).map .bool := by
    rw [List.map_map]
    exact paired_map (φ := fun l => Value.bool l.lost) (fun a y l z M => by rw [z _ M, isB_lin]) F₁ P
  refine r_cellH (a := cT L) (v := .ref T) ⟨_, k₃ _ _ (S₃.keep _ _ (at₁ (cT L, o2) (by simp))), e2⟩ (by kernel_rfl) (b_ne_bools pD.isList (lT.at (k₃ _ _ (S₃.keep _ _ (at₁ (T, oT) (by simp))))) (by omega) ysT hT (b_true (c_ff (r_nil ?_))))
  have S₄ := S₃.keeps k₃
  refine r_cons (r_asg_lcomp (g := g₁) (d := d) (os := os) 7 (fun v => !(@decide (MsgAt w b₁ v .bad) (Classical.propDecidable _))) (fun v y => y = v) hh rfl (by kernel_rfl) (by kernel_rfl) (by kernel_rfl) (by kernel_rfl) rfl (by simp) (r_name S₄ 6 (q := ⟨_, _, _, _, rfl, rfl, ⟨_, S₄.keep _ _ eH₁, rfl, c, rfl⟩, by rw [zz]; omega, S₄, ⟨fun C v h₃ g₃ d₃ os₃ t₃ m₃ E' hi k₃ hn hv => ?_, fun C v h₃ g₃ d₃ os₃ t₃ m₃ E' hi _ k₃ hn hv => ?_⟩, fun TD h₅ t₅ told ct S₅ nD F₂ k₅ => ?_⟩)))
  · obtain ⟨i, hi⟩ := hi
    obtain ⟨l, _, M⟩ := paired_at P i v (by simpa using hi)
    have W₃ := S₄.world.keeps k₃
    have M₃ := M.keeps (fun a o e => k₃ _ _ (S₄.keep _ _ e))
    exact t_if1 (t_not (t_plain (r_call (r_bootW W₃ (n_isi w) (cw2 kept_builtin (r_cvar hn hv (q := r_globW W₃ (n_89 w) ⟨W₃, b_isi W₃ M₃ fun t' => b_true ⟨by rw [M.isB_dec], _, _, rfl, fun _ _ e => e⟩⟩)))))))
  · exact r_cvar hn hv (q := ⟨rfl, _, _, rfl, fun _ _ e => e⟩)
  have eT : told.toList = items.toList.filter (fun v => !(@decide (MsgAt w b₁ v .bad) (Classical.propDecidable _))) := by
    have := paired_map (φ := fun v => v) (G := fun a c => a = c) (fun a y l z e => by rw [z, e]) F₂ (paired_of rfl fun j a c e₁ e₂ => Option.some.inj (e₁.symm.trans e₂))
    simpa using this
  have P₂ : Paired (fun v l => MsgAt w b₁ v (Lin.msg l)) told.toList (ls.filter fun l => !l.lost) := by
    rw [eT]
    exact paired_filter (fun a l M => by rw [← isB_lin, M.isB_dec]) P
  have S₅' := S.back kb₁ S₅ at₁
  have fresh : TD ∉ L :: [(cD L, o4), (cS L, o3), (cT L, o2), (cR L, o1)].map (·.1) := fun m => by
    rcases List.mem_cons.mp m with e | m
    · exact S₄.freshL nD e
    · obtain ⟨p, hp, rfl⟩ := List.mem_map.mp m
      rw [S₄.keep _ _ (at₁ p (.tail _ (.tail _ hp)))] at nD; cases nD
  have S₆ := (S₅'.sub (nw' := [(cD L, o4), (cS L, o3), (cT L, o2), (cR L, o1)]) (fun p hp => .tail _ (.tail _ (.tail _ hp))))
  have kb₂ := S₆.rebased
  have S₆ := S₆.rebase
  have cells : ∀ a ∈ [cD L, cS L, cT L, cR L], ∀ o, b₁.get? a = some o → ∃ v, o.data = .cell v := fun a ha o e => by
    have q1 : b₁.get? (cD L) = some o4 := at₁ (cD L, o4) (by simp)
    have q2 : b₁.get? (cS L) = some o3 := at₁ (cS L, o3) (by simp)
    have q3 : b₁.get? (cT L) = some o2 := at₁ (cT L, o2) (by simp)
    have q4 : b₁.get? (cR L) = some o1 := at₁ (cR L, o1) (by simp)
    simp only [List.mem_cons, List.not_mem_nil, or_false] at ha
    rcases ha with rfl | rfl | rfl | rfl
    · exact ⟨_, (Option.some.inj (q1.symm.trans e)) ▸ e4⟩
    · exact ⟨_, (Option.some.inj (q2.symm.trans e)) ▸ e3⟩
    · exact ⟨_, (Option.some.inj (q3.symm.trans e)) ▸ e2⟩
    · exact ⟨_, (Option.some.inj (q4.symm.trans e)) ▸ e1⟩
  have up₂ : (hideAll b₁ [cD L, cS L, cT L, cR L]).StaysIn (hideAll h₅ (L :: [(cD L, o4), (cS L, o3), (cT L, o2), (cR L, o1)].map (·.1))) := fun a o e => by
    have e' := of_hideAll _ e
    refine hideAll_get _ (S₅.keep _ _ e') fun m => ?_
    rcases List.mem_cons.mp m with rfl | m
    · exact nomatch S₅.off.symm.trans e'
    · have z : (hideAll b₁ [cD L, cS L, cT L, cR L]).get? a = none := hideAll_none _ m
      exact nomatch z.symm.trans e
  have P₃ : Paired (fun v l => MsgAt w (hideAll h₅ (L :: [(cD L, o4), (cS L, o3), (cT L, o2), (cR L, o1)].map (·.1))) v (.sent (kn l.o) (wds l.x l.o)) ∧ ∃ y, Row l.x l.o y) told.toList (ls.filter fun l => !l.lost) :=
    (paired_mem P₂).mono fun v l ⟨M, hl⟩ => by
      obtain ⟨hl, hn⟩ := List.mem_filter.mp hl
      have hn : l.lost = false := by simpa using hn
      have em : l.msg = .sent (kn l.o) (wds l.x l.o) := by unfold Lin.msg; rw [hn]; rfl
      rw [em] at M
      obtain ⟨f, x, ex, Se⟩ := M
      exact ⟨⟨f, x, ex, (Sent.hideC cells Se).keeps up₂⟩, (ok l hl).row⟩
  have eD₂ : (hideAll h₅ (L :: [(cD L, o4), (cS L, o3), (cT L, o2), (cR L, o1)].map (·.1))).get? TD = some (lst told ct) := hideAll_get _ (S₅.at (.head _)) fresh
  have nR : ∀ a ∈ [T, R], a ∉ L :: [(cD L, o4), (cS L, o3), (cT L, o2), (cR L, o1)].map (·.1) := fun a ha m => by
    rcases List.mem_cons.mp ha with rfl | ha
    · rcases List.mem_cons.mp m with e | m
      · exact (S.N (a, oT) (by simp)).2.1 e
      · exact (List.nodup_cons.mp nd).1 (List.mem_cons_of_mem _ m)
    · have := List.mem_singleton.mp ha
      subst this
      rcases List.mem_cons.mp m with e | m
      · exact (S.N (a, oR) (by simp)).2.1 e
      · exact (List.nodup_cons.mp (List.nodup_cons.mp nd).2).1 m
  have eR₂ := hideAll_get _ (S₅.keep _ _ (at₁ (R, oR) (by simp))) (nR R (by simp))
  have eT₂ := hideAll_get _ (S₅.keep _ _ (at₁ (T, oT) (by simp))) (nR T (by simp))
  generalize hideAll h₅ (L :: [(cD L, o4), (cS L, o3), (cT L, o2), (cR L, o1)].map (·.1)) = b₂ at S₆ kb₂ P₃ eD₂ eR₂ eT₂
  have kb₃ : b.StaysIn b₂ := kb₂
  have ztold : told.size ≤ 3 := by
    have := P₃.length
    have e : told.toList.length = told.size := by simp
    have := List.length_filter_le (fun l : Lin => !l.lost) ls
    omega
  refine r_cons (r_if (t_cmp (r_lcomp (g := g₁) (d := d) (os := os) (fun _ => true) (fun v y => ∀ k ws, MsgAt w b₂ v (.sent k ws) → ∃ u, y = .str (bareT k ws) u) hh rfl (by kernel_rfl) (by kernel_rfl) (by kernel_rfl) (by kernel_rfl) (r_name S₆ 7 (q := ⟨_, _, _, _, rfl, rfl, ⟨_, S₆.keep _ _ eD₂, rfl, ct, rfl⟩, by rw [zz]; omega, ⟨fun C v h₃ g₃ d₃ os₃ t₃ m₃ E' hi k₃ hn hv => t_noifs ⟨rfl, _, _, rfl, fun _ _ e => e⟩, fun C v h₃ g₃ d₃ os₃ t₃ m₃ E' hi _ k₃ hn hv => ?_⟩, fun D h₇ t₇ ys nD₇ pD F₁ k₇ => ?_⟩)))))
  · obtain ⟨i, hi⟩ := hi
    obtain ⟨l, _, M, y, R⟩ := paired_at P₃ i v (by simpa using hi)
    have W₃ := S₆.world.keeps k₃
    obtain ⟨f, x, rfl, Se⟩ := M
    have Se₃ := Se.keeps (fun a o e => k₃ _ _ (S₆.keep _ _ e))
    refine r_meth (r_cvar hn hv (q := s_render W₃ Se₃ f fun p h' t' k' MB => cwb2 (fn_154 w) (r_cbool (r_cbool ⟨MB, b_bound MB (rend_row MB.1 (by omega) hh R (Se₃.keeps k') (fun s X => binds_render2 X) (.inl ⟨rfl, rfl⟩) fun h₈ t₈ _ k₈ => ⟨fun k ws M' => ?_, _, _, rfl, fun a o e => k₈ _ _ (k' _ _ e)⟩)⟩))))
    obtain ⟨f', x', ex, Se'⟩ := M'
    cases ex
    obtain ⟨rfl, rfl⟩ := Se.uniq f f' Se'
    exact ⟨_, rfl⟩
  have hF : ∀ l : List Value, l.filter (fun _ => true) = l := fun l => by simp
  rw [hF] at F₁
  have zS : ∀ (v y : Value) (l : Lin), (∀ k ws, MsgAt w b₂ v (.sent k ws) → ∃ u, y = .str (bareT k ws) u) → (MsgAt w b₂ v (.sent (kn l.o) (wds l.x l.o)) ∧ ∃ y, Row l.x l.o y) → ∃ u, y = .str l.x u := by
    rintro v y l z ⟨M, y', R⟩
    obtain ⟨u, e⟩ := z _ _ M
    exact ⟨u, by rw [e, bare_eq R]⟩
  have ysS : StrsAre ys.toList ((ls.filter fun l => !l.lost).map (·.x)) := paired_strs (φ := fun l : Lin => l.x) zS F₁ P₃
  have S₇ := S₆.keeps k₇
  refine r_cload S₇ (.tail _ (.tail _ (.tail _ (.head _)))) e1 (by kernel_rfl) (b_ne_strs pD.isList (lR.at (k₇ _ _ (S₆.keep _ _ eR₂))) (by omega) ysS hR (b_true (c_ff (r_nil ?_))))
  refine r_cons (r_if (t_cmp (r_lcompH (g := g₁) (d := d) (os := os) (fun _ => true) (fun hb v y => ∀ k ws, MsgAt w b₂ v (.sent k ws) → TupAt hb y (kindT k.cls) ws) hh rfl (by kernel_rfl) (by kernel_rfl) (by kernel_rfl) (by kernel_rfl) (r_name S₇ 7 (q := ⟨_, _, _, _, rfl, rfl, ⟨_, S₇.keep _ _ eD₂, rfl, ct, rfl⟩, by rw [zz]; omega, ⟨fun C v h₃ g₃ d₃ os₃ t₃ m₃ E' hi k₃ hn hv => t_noifs ⟨rfl, _, _, rfl, fun _ _ e => e⟩, fun C v h₃ g₃ d₃ os₃ t₃ m₃ E' hi _ k₃ hn hv => ?_⟩, fun D₈ h₈ t₈ ys₈ nD₈ pD₈ F₈ k₈ => ?_⟩)))))
  · obtain ⟨i, hi⟩ := hi
    obtain ⟨l, _, M, y, R⟩ := paired_at P₃ i v (by simpa using hi)
    have W₃ := S₇.world.keeps k₃
    obtain ⟨f, x, rfl, Se⟩ := M
    have Se₃ := Se.keeps (fun a o e => k₃ _ _ (S₇.keep _ _ e))
    refine r_tup2 (r_call (r_globW W₃ (g_kind w) (cw1 (kept_K (keep_341 w)) (r_cvar hn hv (q := ⟨W₃, kind_spec W₃ (by omega) Se₃ f fun h₄ u₄ t₄ k₄ => ?_⟩)))))
    refine r_attr_of (r_cvar (hn.keeps k₄) hv (q := s_dataB (W₃.keeps k₄) Se (fun a o e => k₄ _ _ (k₃ _ _ (S₇.keep _ _ e))) f fun Dn t₅ lD => ⟨_, _, rfl, fun a o e => push_stay _ _ _ _ (k₄ _ _ e), fun hb kb kn k ws M' => ?_⟩))
    obtain ⟨f', x', ex, Se'⟩ := M'
    cases ex
    obtain ⟨rfl, rfl⟩ := Se.uniq f f' Se'
    refine ⟨_, u₄, Dn, rfl, kn _ _ ?_ (Heap.get?_push_size _ rfl), lD.keeps fun a o e => kb _ _ (S₇.keep _ _ e)⟩
    cases q : h₃.get? h₄.objs.size with
    | none => rfl
    | some o => exact nomatch (get_size h₄).symm.trans (k₄ _ _ q)
  rw [hF] at F₈
  have S₈ := S₇.keeps k₈
  have hR₈ := lR.at (S₈.keep _ _ eR₂)
  have PR := paired_ofS hR
  have zR : itR.size ≤ 3 := by
    have := PR.length
    have e : itR.toList.length = itR.size := by simp
    have := List.length_filter_le (fun l : Lin => !l.lost) ls
    omega
  have rowK : ∀ l ∈ ls.filter (fun l => !l.lost), ∃ y, Row l.x l.o y := fun l hl => (ok l (List.mem_filter.mp hl).1).row
  refine r_lcompH (g := g₁) (d := d) (os := os) (fun _ => true) (fun hb v y => ∀ x u c₀, v = .str x u → x.cps[0]? = some c₀ → TupAt hb y (Txt.slice x (some 2) (some 5)) (wordsT x c₀)) hh rfl (by kernel_rfl) (by kernel_rfl) (by kernel_rfl) (by kernel_rfl) (r_cload S₈ (.tail _ (.tail _ (.tail _ (.head _)))) e1 (by kernel_rfl) ⟨_, _, _, _, rfl, rfl, hR₈, by rw [zz]; omega, ⟨fun C v h₃ g₃ d₃ os₃ t₃ m₃ E' hi k₃ hn hv => t_noifs ⟨rfl, _, _, rfl, fun _ _ e => e⟩, fun C v h₃ g₃ d₃ os₃ t₃ m₃ E' hi _ k₃ hn hv => ?_⟩, fun D₉ h₉ t₉ ys₉ nD₉ pD₉ F₉ k₉ => ?_⟩)
  · obtain ⟨i, hi⟩ := hi
    obtain ⟨l, hl, u, rfl⟩ := paired_at PR i v (by simpa using hi)
    obtain ⟨y, R⟩ := rowK l hl
    have W₃ := S₈.world.keeps k₃
    have hlen : l.x.length ≤ 46 := by rw [R.len]; have := R.le; omega
    refine r_tup2 (r_sl_ft (r_cvar hn hv (q := ⟨_, _, rfl, r_cint fun _ _ => ⟨_, _, rfl, r_cint fun _ _ => ⟨_, _, rfl, by rw [zz]; omega, fun h₄ u₄ t₄ k₄ => ?_⟩⟩⟩)))
    refine r_call (r_globW (W₃.keeps k₄) (g_words w) (cw1 (kept_K (keep_348 w)) (r_cvar (hn.keeps k₄) hv (q := ⟨W₃.keeps k₄, words_spec (W₃.keeps k₄) (by omega) (first_row R) (by omega) fun Dn ll h₅ t₅ hll k₅ nDn eDn => ⟨_, _, rfl, fun a o e => push_stay _ _ _ _ (k₅ _ _ (k₄ _ _ e)), fun hb kb kn x u' c₀ ex hc => ?_⟩⟩))))
    cases ex
    rw [first_row R] at hc
    cases hc
    have nn : ∀ {a : Addr} {hh : Heap}, h₃.StaysIn hh → hh.get? a = none → h₃.get? a = none := fun {a hh} k e => by
      cases q : h₃.get? a with
      | none => rfl
      | some o => exact nomatch e.symm.trans (k _ _ q)
    refine ⟨_, u₄, Dn, rfl, kn _ _ (nn (fun a o e => k₅ _ _ (k₄ _ _ e)) (get_size h₅)) (Heap.get?_push_size _ rfl), _, ll, kn _ _ (nn k₄ nDn) (push_stay _ _ _ _ eDn), hll⟩
  rw [hF] at F₉
  have tR : Paired (fun y (p : Str × List Str) => TupAt h₉ y p.1 p.2) ys₉.toList ((ls.filter fun l => !l.lost).map fun l => (Txt.slice l.x (some 2) (some 5), wds l.x l.o)) := by
    refine paired_mapR (paired_trans (fun v y l z k => ?_) F₉ (paired_mem PR))
    obtain ⟨⟨u, rfl⟩, hl⟩ := k
    obtain ⟨y', R⟩ := rowK l hl
    have := z _ u _ rfl (first_row R)
    rwa [words_row R] at this
  have tL : Paired (fun y (p : Str × List Str) => TupAt h₉ y p.1 p.2) ys₈.toList ((ls.filter fun l => !l.lost).map fun l => (Txt.slice l.x (some 2) (some 5), wds l.x l.o)) := by
    refine paired_mapR (paired_trans (fun v y l z k => ?_) F₈ (paired_mem P₃))
    obtain ⟨⟨M, y', R⟩, hl⟩ := k
    have := z _ _ M
    rw [kindT_row R (ok l (List.mem_filter.mp hl).1).o] at this
    exact this.keeps k₉
  refine b_ne_tups (pD₈.at fun o e => k₉ _ _ e).isList pD₉.isList (by omega) tL tR (b_true (c_ff (r_nil ?_)))
  exact q b₂ h₉ g₁ t₉ Hl TD told ct kb₃ gk (S₈.keeps k₉) eD₂ eR₂ eT₂ P₃
end
end Mine
end
section
open PySem PySem.W PyProof.Rows PySem.Calls Builtin.ObjectAttr Builtin.Getset_descriptor
set_option Elab.async false
set_option maxRecDepth 100000
set_option maxHeartbeats 1000000
namespace Mine
section
variable {w : World} {A : Around} {E : Value → Shared → Prop} {h b : Heap} {g : Array GenState} {d : Drawn} {t : Nat} {os : OsState} {L fa Sc Dk Nm T R Hl TD : Addr} {cd : Value} {o1 o2 o3 o4 oT oR : Obj} {Q : Flow → Shared → Prop} {kept : List Lin} {n : Int} {un : Tok} {kv gv bv lv htv mv av ev v3 v4 : Option Value} {itR told : Array Value} {ct : Nat}
theorem station2 (S : St w b L h nsL [some (.ref Sc), some (.ref Dk), some (.ref Nm), kv, some (.int n un), gv, some (.ref Hl), some (.ref TD), bv, lv, htv, mv, av, ev] [(cD L, o4), (cS L, o3), (cT L, o2), (cR L, o1)])
    (hh : A.handled = none) (room : A.depth < 800) (e1 : o1.data = .cell (some (.ref R))) (e3 : o3.data = .cell v3) (e4 : o4.data = .cell v4) (nd : [cD L, cS L, cT L, cR L].Nodup) (hz : kept.length ≤ 3)
    (eD : b.get? TD = some (lst told ct)) (eR : b.get? R = some oR) (lR : isL oR itR) (zR : itR.size = kept.length) (P : Paired (fun v l => MsgAt w b v (.sent (kn l.o) (wds l.x l.o)) ∧ ∃ y, Row l.x l.o y) told.toList kept)
    (q : ∀ h' t' LN HT lns hts c₁ c₂ o3' o4' sv dv (bit : Nat) ub, (bit = 16 ∨ bit = 1) → St w b L h' nsL [some (.ref Sc), some (.ref Dk), some (.ref Nm), kv, some (.int n un), gv, some (.ref Hl), some (.ref TD), some (.int (bit : Int) ub), some (.ref LN), some (.ref HT), mv, av, ev] [(HT, lst hts c₂), (LN, lst lns c₁), (cD L, o4'), (cS L, o3'), (cT L, o2), (cR L, o1)] →
      o3'.data = .cell (some (.bool sv)) → o4'.data = .cell (some (.bool dv)) → [HT, LN, cD L, cS L, cT L, cR L].Nodup →
      StrsAre lns.toList (kept.map fun l => (Lin.new l.x l.o (if sv then some (xn (tl l.x)) else none) dv).text ++ Str.ofString "\n") → (hts.size = kept.length ∧ ∀ (j : Nat) (v : Value), hts[j]? = some v → ∃ u, v = .int 0 u) →
      WP w A (execs ((loopB w).drop 10) (lenv w L fa cd)) Q E ⟨h', g, d, t', os⟩) :
    WP w A (execs ((loopB w).drop 5) (lenv w L fa cd)) Q E ⟨h, g, d, t, os⟩ := by
  rw [loopB_at rfl] at q ⊢
  simp only [List.drop_succ_cons, List.drop_zero] at q ⊢
  have zz : sizeLine = 16777216 := sizeLine_eq
  have ztold : told.size = kept.length := by have := P.length; simpa using this
  refine r_cons (r_asg (r_cmp (r_bin (r_name S 4 (q := r_cint fun _ _ => b_mod_int (by decide) fun _ _ => r_cint fun _ _ => b_eq_intS ?_)))))
  generalize ((n % 2) == 0) = sv
  refine r_cset S nd (i := 1) rfl e3 (by kernel_rfl) fun h₁ o3' e3' S => ?_
  refine r_cons (r_asg (r_cmp (r_bin (r_bin (r_name S 4 (q := r_cint fun _ _ => b_div_int (by decide) (by decide) fun _ _ => r_cint fun _ _ => b_mod_int (by decide) fun _ _ => r_cint fun _ _ => b_eq_intS ?_))))))
  generalize ((n / 2 % 2) == 0) = dv
  refine r_cset S nd (i := 0) rfl e4 (by kernel_rfl) fun h₂ o4' e4' S => ?_
  refine r_cons (r_asg (WP.monoQ (Q := fun v s' => ∃ (bit : Nat) (ub : Tok) (t' : Nat), (bit = 16 ∨ bit = 1) ∧ v = .int (bit : Int) ub ∧ s' = ⟨h₂, g, d, t', os⟩) (r_ifexp (t_cmp (r_bin (r_name S 4 (q := r_cint fun _ _ => b_mod_int (by decide) fun _ _ => r_cint fun _ _ => b_eq_intS (b_true ?_)))))) ?_))
  · cases ((n % 3) == 0)
    · exact c_ff (r_cint fun u t' => ⟨1, u, _, .inr rfl, rfl, rfl⟩)
    · exact c_tt (r_cint fun u t' => ⟨16, u, _, .inl rfl, rfl, rfl⟩)
  rintro v s' ⟨bit, ub, t₃, hbit, rfl, rfl⟩
  refine r_store S 8 (hi := by simp) (q := fun h₃ t₄ S => ?_)
  refine r_cons (r_asg_lcomp (g := g) (d := d) (os := os) 9 (fun _ => true) (fun v y => ∀ k ws, MsgAt w b v (.sent k ws) → ∃ u, y = .str (renderT (bareT k ws) sv dv true) u) hh rfl (by kernel_rfl) (by kernel_rfl) (by kernel_rfl) (by kernel_rfl) rfl (by simp) (r_name S 7 (q := ⟨_, _, _, _, rfl, rfl, ⟨_, S.keep _ _ eD, rfl, ct, rfl⟩, by rw [zz]; omega, S, ⟨fun C v h₄ g₄ d₄ os₄ t₄ m₄ E' hi k₄ hn hv => t_noifs ⟨rfl, _, _, rfl, fun _ _ e => e⟩, fun C v h₄ g₄ d₄ os₄ t₄ m₄ E' hi _ k₄ hn hv => ?_⟩, fun LN h₅ t₅ lns c₁ S₅ nLN F₁ k₅ => ?_⟩)))
  · obtain ⟨i, hi⟩ := hi
    obtain ⟨l, _, M, y, R⟩ := paired_at P i v (by simpa using hi)
    have W₃ := S.world.keeps k₄
    obtain ⟨f, x, rfl, Se⟩ := M
    have Se₃ := Se.keeps (fun a o e => k₄ _ _ (S.keep _ _ e))
    refine r_meth (r_cvar hn hv (q := s_render W₃ Se₃ f fun p h' t' k' MB => cwb3 (fn_154 w) (r_ccell (c := cS L) (v := .bool sv) (by kernel_rfl) ⟨_, k' _ _ (k₄ _ _ (S.at (.tail _ (.head _)))), e3'⟩ (r_ccell (c := cD L) (v := .bool dv) (by kernel_rfl) ⟨_, k' _ _ (k₄ _ _ (S.at (.head _))), e4'⟩ (r_cstr fun u _ => ⟨MB, b_bound MB (rend_row MB.1 (by omega) hh R (Se₃.keeps k') (fun s X => binds_render3 X) (.inr ⟨u, rfl, rfl⟩) fun h₈ t₈ _ k₈ => ⟨fun k ws M' => ?_, _, _, rfl, fun a o e => k₈ _ _ (k' _ _ e)⟩)⟩)))))
    obtain ⟨f', x', ex, Se'⟩ := M'
    cases ex
    obtain ⟨rfl, rfl⟩ := Se.uniq f f' Se'
    exact ⟨_, rfl⟩
  have hF : ∀ l : List Value, l.filter (fun _ => true) = l := fun l => by simp
  rw [hF] at F₁
  have zL : ∀ (v y : Value) (l : Lin), (∀ k ws, MsgAt w b v (.sent k ws) → ∃ u, y = .str (renderT (bareT k ws) sv dv true) u) → (MsgAt w b v (.sent (kn l.o) (wds l.x l.o)) ∧ ∃ y, Row l.x l.o y) → ∃ u, y = .str ((Lin.new l.x l.o (if sv then some (xn (tl l.x)) else none) dv).text ++ Str.ofString "\n") u := by
    rintro v y l z ⟨M, y', R⟩
    obtain ⟨u, e⟩ := z _ _ M
    exact ⟨u, by rw [e, Lin.render R]⟩
  have lS := paired_strs (φ := fun l : Lin => (Lin.new l.x l.o (if sv then some (xn (tl l.x)) else none) dv).text ++ Str.ofString "\n") zL F₁ P
  have nd₅ : [LN, cD L, cS L, cT L, cR L].Nodup := List.nodup_cons.mpr ⟨S.fresh nLN, nd⟩
  refine r_cons (r_asg_lcomp (g := g) (d := d) (os := os) 10 (fun _ => true) (fun v y => ∃ u, y = .int 0 u) hh rfl (by kernel_rfl) (by kernel_rfl) (by kernel_rfl) (by kernel_rfl) rfl (by simp) (r_cload S₅ (.tail _ (.tail _ (.tail _ (.tail _ (.head _))))) e1 (by kernel_rfl) ⟨_, _, _, _, rfl, rfl, lR.at (S₅.keep _ _ eR), by rw [zz]; omega, S₅, ⟨fun C v h₄ g₄ d₄ os₄ t₄ m₄ E' hi k₄ hn hv => t_noifs ⟨rfl, _, _, rfl, fun _ _ e => e⟩, fun C v h₄ g₄ d₄ os₄ t₄ m₄ E' hi _ k₄ hn hv => r_cint fun u _ => ⟨⟨u, rfl⟩, _, _, rfl, fun _ _ e => e⟩⟩, fun HT h₆ t₆ hts c₂ S₆ nHT F₂ k₆ => ?_⟩))
  rw [hF] at F₂
  have nd₆ : [HT, LN, cD L, cS L, cT L, cR L].Nodup := List.nodup_cons.mpr ⟨S₅.fresh nHT, nd₅⟩
  refine q _ _ _ _ _ _ _ _ _ _ _ _ bit ub hbit S₆ e3' e4' nd₆ lS ⟨?_, fun j v e => ?_⟩
  · have := F₂.length
    simp at this
    omega
  · have : hts.toList[j]? = some v := by rw [← e, ← Array.getElem?_toList]
    have hj : j < hts.toList.length := by
      rcases Nat.lt_or_ge j hts.toList.length with z | z
      · exact z
      · rw [List.getElem?_eq_none z] at this; cases this
    have hj' : j < itR.toList.length := by rw [F₂.length]; exact hj
    have k := Pget F₂ j hj' hj
    rw [List.getElem?_eq_getElem hj] at this
    rw [← Option.some.inj this]
    exact k
end
end Mine
end
section
open PySem PySem.W PyProof.Rows PySem.Calls Builtin.ObjectAttr Builtin.Getset_descriptor
set_option Elab.async false
set_option maxRecDepth 100000
set_option maxHeartbeats 1000000
namespace Mine
noncomputable def mB (w : World) : List PySem.Stmt := match (loopB w)[10]? with
  | some (PySem.Stmt.For _ _ b _ _) => b
  | _ => []
theorem mB_at {w : World} {t i : PySem.Expr} {b o : List PySem.Stmt} {p : Pos} (h : (loopB w)[10]? = some (PySem.Stmt.For t i b o p)) : mB w = b := by unfold mB; rw [h]
/-- a line between two stations: as it was told, its text now, how often it was struck -/
structure Gs where
  new ::
  l : Lin
  x : Str
  j : Nat
def Gs.ok (bit i : Nat) (g : Gs) : Prop := (∃ y, Row g.x g.l.o y) ∧ g.j ≤ i ∧ xn (tl g.x) = xn (tl g.l.x) ^^^ (if g.j % 2 = 1 then bit else 0)
def Gs.lin (sv dv : Bool) (g : Gs) : Lin := Lin.new g.x g.l.o (if sv then some (xn (tl g.l.x)) else none) dv
structure Led (sv dv : Bool) (gs : List Gs) (oR oN oH : Obj) : Prop where
  R : ∃ it, isL oR it ∧ StrsAre it.toList (gs.map (·.x))
  N : ∃ it, isL oN it ∧ StrsAre it.toList (gs.map fun g => (g.lin sv dv).text ++ Str.ofString "\n")
  H : ∃ it, isL oH it ∧ Paired (fun v (g : Gs) => ∃ u, v = .int (g.j : Int) u) it.toList gs
theorem Gs.strike {bit i a c : Nat} {g : Gs} (hb : bit = 16 ∨ bit = 1) (k : g.ok bit i) (h6 : 6 ≤ a) (hc : g.x.cps[a]? = some c) : (Gs.new g.l (struckT g.x a c (bit : Int)) (g.j + 1)).ok bit (i + 1) := by
  obtain ⟨⟨y, R⟩, hj, hx⟩ := k
  refine ⟨⟨_, R.strike h6 hc hb⟩, by simp only; omega, ?_⟩
  simp only
  rw [strike_xn hc, hx, Nat.xor_assoc]
  congr 1
  rcases Nat.mod_two_eq_zero_or_one g.j with q | q
  · rw [if_neg (by omega), if_pos (by omega), Nat.zero_xor]
  · rw [if_pos q, if_neg (by omega), Nat.xor_self]
theorem strs_set : ∀ {vs : List Value} {ws : List Str} (k : Nat) (y : Str) (t : Tok), StrsAre vs ws → StrsAre (vs.set k (.str y t)) (ws.set k y)
  | _, _, _, _, _, .nil => .nil
  | _, _, 0, y, t, .cons _ _ h => .cons y t h
  | _, _, k + 1, y, t, .cons z u h => .cons z u (strs_set k y t h)
theorem paired_set {α β : Type} {F : α → β → Prop} {a : α} {c : β} (z : F a c) : ∀ {l₁ : List α} {l₂ : List β} (k : Nat), Paired F l₁ l₂ → Paired F (l₁.set k a) (l₂.set k c)
  | _, _, _, .nil => .nil
  | _, _, 0, .cons _ h => .cons z h
  | _, _, k + 1, .cons y h => .cons y (paired_set z k h)
section
variable {w : World} {A : Around} {h b : Heap} {g : Array GenState} {d : Drawn} {t : Nat} {os : OsState} {L fa Sc Dk Nm T R Hl TD LN HT : Addr} {cd : Value} {o1 o2 o3 o4 oT oR oN oH : Obj} {n m : Int} {un um ub : Tok} {kv gv av ev : Option Value} {sv dv : Bool} {bit : Nat}
/-- one strike, or none -/
theorem mturn {gs : List Gs} {i : Nat} (S : St w b L h nsL [some (.ref Sc), some (.ref Dk), some (.ref Nm), kv, some (.int n un), gv, some (.ref Hl), some (.ref TD), some (.int (bit : Int) ub), some (.ref LN), some (.ref HT), some (.int m um), av, ev] [(HT, oH), (LN, oN), (cD L, o4), (cS L, o3), (cT L, o2), (cR L, o1), (T, oT), (R, oR)])
    (nd : [HT, LN, cD L, cS L, cT L, cR L, T, R].Nodup) (room : A.depth < 800) (hb : bit = 16 ∨ bit = 1) (e1 : o1.data = .cell (some (.ref R))) (e4 : o4.data = .cell (some (.bool dv))) (hz : gs.length ≤ 3) (okl : ∀ x ∈ gs, x.l.Ok) (ok : ∀ x ∈ gs, x.ok bit i) (D : Led sv dv gs oR oN oH) :
    WP w A (execs (mB w) (lenv w L fa cd)) (fun f s₂ => f = .next ∧ ∃ h' t' kv' av' oR' oN' oH' gs', s₂ = ⟨h', g, d, t', os⟩ ∧ St w b L h' nsL [some (.ref Sc), some (.ref Dk), some (.ref Nm), kv', some (.int n un), gv, some (.ref Hl), some (.ref TD), some (.int (bit : Int) ub), some (.ref LN), some (.ref HT), some (.int m um), av', ev] [(HT, oH'), (LN, oN'), (cD L, o4), (cS L, o3), (cT L, o2), (cR L, o1), (T, oT), (R, oR')] ∧
      gs'.map (·.l) = gs.map (·.l) ∧ (∀ x ∈ gs', x.ok bit (i + 1)) ∧ Led sv dv gs' oR' oN' oH') (fun _ _ => False) ⟨h, g, d, t, os⟩ := by
  rw [mB_at rfl]
  have zz : sizeLine = 16777216 := sizeLine_eq
  obtain ⟨itR, lR, sR⟩ := D.R
  obtain ⟨itN, lN, sN⟩ := D.N
  obtain ⟨itH, lH, pH⟩ := D.H
  have zR : itR.size = gs.length := by have := StrsAre.length sR; simpa using this
  have zN : itN.size = gs.length := by have := StrsAre.length sN; simpa using this
  have zH : itH.size = gs.length := by have := pH.length; simpa using this
  have weak : ∀ x ∈ gs, x.ok bit (i + 1) := fun x hx => ⟨(ok x hx).1, Nat.le_succ_of_le (ok x hx).2.1, (ok x hx).2.2⟩
  have mR : ∀ {h' : Heap} {vs : List (Option Value)} {p q : Obj}, St w b L h' nsL vs [(HT, p), (LN, q), (cD L, o4), (cS L, o3), (cT L, o2), (cR L, o1), (T, oT), (R, oR)] → h'.IsList R itR := fun S => lR.at (S.atI (i := 7) rfl)
  refine r_cons (r_if (t_and (t_plain (r_cload S (.tail _ (.tail _ (.tail _ (.tail _ (.tail _ (.head _)))))) e1 (by kernel_rfl) (b_true_l (mR S) (by omega) fun _ => ?_)))))
  by_cases hE : itR.isEmpty = true
  · rw [hE]
    exact c_ff (c_ff (r_nil (r_nil ⟨rfl, _, _, _, _, _, _, _, gs, rfl, S, rfl, weak, D⟩)))
  have hE' : itR.isEmpty = false := by simpa using hE
  have hpos : 0 < itR.size := by
    have : itR.size ≠ 0 := fun z => hE (by simpa using z)
    omega
  rw [hE']
  refine c_tt (t_and (t_cmp (r_bin (r_name S 11 (q := r_cint fun _ _ => b_mod_int (by decide) fun _ _ => r_cint fun _ _ => b_lt_int (b_true ?_))))))
  by_cases hm : (m % 5) < 3
  rotate_left
  · rw [decide_eq_false hm]
    exact c_ff (c_ff (r_nil (r_nil ⟨rfl, _, _, _, _, _, _, _, gs, rfl, S, rfl, weak, D⟩)))
  rw [decide_eq_true hm]
  refine c_tt (t_and_nil (c_tt ?_))
  -- k
  have m0 := Int.emod_nonneg m (b := (itR.size : Int)) (by omega)
  have m1 := Int.emod_lt_of_pos m (b := (itR.size : Int)) (by omega)
  obtain ⟨k, hk⟩ := Int.eq_ofNat_of_zero_le m0
  refine r_cons (r_asg (r_bin (r_name S 11 (q := r_call (r_boot S (n_len w) (cw1 kept_builtin (r_cload S (.tail _ (.tail _ (.tail _ (.tail _ (.tail _ (.head _)))))) e1 (by kernel_rfl) ⟨S.world, b_len_l (mR S) (by omega) fun _ _ => b_mod_int (by omega) fun u₁ _ => r_store S 3 (hi := by simp) (q := fun h₁ t₁ S => ?_)⟩)))))))
  rw [hk] at S m1
  have hkl : k < gs.length := by omega
  have hkR : k < itR.toList.length := by simp; omega
  obtain ⟨ux, ex⟩ := StrsAre.get sR k hkR (by simpa using hkl)
  rw [List.getElem_map] at ex
  have exR : itR[((k : Nat) : Int).toNat]? = some (.str gs[k].x ux) := by
    rw [show ((k : Nat) : Int).toNat = k from rfl, ← Array.getElem?_toList, List.getElem?_eq_getElem hkR, ex]
  have gk := ok gs[k] (List.getElem_mem hkl)
  obtain ⟨y, Rk⟩ := gk.1
  have xl := Rk.len
  have xle := Rk.le
  have xne := Rk.ne
  -- at
  have a0 := Int.emod_nonneg (m / 3) (b := ((gs[k].x.length : Int) - 6)) (by omega)
  have a1 := Int.emod_lt_of_pos (m / 3) (b := ((gs[k].x.length : Int) - 6)) (by omega)
  obtain ⟨a, ha⟩ := Int.eq_ofNat_of_zero_le (a := 6 + m / 3 % ((gs[k].x.length : Int) - 6)) (by omega)
  refine r_cons (r_asg (r_bin (r_cint fun _ _ => r_bin (r_bin (r_name S 11 (q := r_cint fun _ _ => b_div_int (by decide) (by decide) fun _ _ => r_bin (r_call (r_boot S (n_len w) (cw1 kept_builtin (r_lget_name (r_cload S (.tail _ (.tail _ (.tail _ (.tail _ (.tail _ (.head _)))))) e1 (by kernel_rfl) (r_name S 3 (q := ⟨_, _, _, _, _, rfl, rfl, mR S, by omega, by omega, exR, S.world, b_len_str (by omega) fun _ _ => r_cint fun _ _ => b_sub_int fun _ _ => b_mod_int (by omega) fun _ _ => b_add_int fun u₂ _ => r_store S 12 (hi := by simp) (q := fun h₂ t₂ S => ?_)⟩)))))))))))))
  rw [ha] at S
  have ab : 6 ≤ a ∧ a < gs[k].x.length := by omega
  obtain ⟨c, hc⟩ : ∃ c, gs[k].x.cps[a]? = some c := ⟨_, Array.getElem?_eq_getElem (by exact ab.2)⟩
  have hc' : (tl gs[k].x)[a]? = some c := by rw [← hc, ← Array.getElem?_toList]; rfl
  have cok : okc c = true := Rk.all c (List.mem_of_getElem? hc')
  have clt : c ^^^ bit < 128 := okc_lt (okc_x cok hb)
  have bx0 : 0 ≤ Builtin.bitXor (c : Int) (bit : Int) := by rw [bx_nat]; omega
  have bx1 : Builtin.bitXor (c : Int) (bit : Int) ≤ 1114111 := by rw [bx_nat]; omega
  -- rows[k]
  refine r_cons (r_seti (r_call (r_glob S (g_struck w) (cw3 (kept_K (keep_327 w)) (r_lget_name (r_cload S (.tail _ (.tail _ (.tail _ (.tail _ (.tail _ (.head _)))))) e1 (by kernel_rfl) (r_name S 3 (q := ⟨_, _, _, _, _, rfl, rfl, mR S, by omega, by omega, exR, r_name S 12 (q := r_name S 8 (q := ⟨S.world, struck_spec S.world (by omega) hc (by omega) bx0 bx1 fun h₃ u₃ t₃ k₃ => ?_⟩))⟩))))))))
  have S := S.keeps k₃
  refine r_cload S (.tail _ (.tail _ (.tail _ (.tail _ (.tail _ (.head _)))))) e1 (by kernel_rfl) (r_name S 3 (q := b_setitem S nd (i := 7) rfl lR (by omega) (by omega) (by omega) fun h₄ oR' lR' S => ?_))
  -- lines[k]
  have hkN : k < itN.toList.length := by simp; omega
  obtain ⟨uy, ey⟩ := StrsAre.get sN k hkN (by simpa using hkl)
  rw [List.getElem_map] at ey
  have eyN : itN[((k : Nat) : Int).toNat]? = some (.str ((gs[k].lin sv dv).text ++ Str.ofString "\n") uy) := by
    rw [show ((k : Nat) : Int).toNat = k from rfl, ← Array.getElem?_toList, List.getElem?_eq_getElem hkN, ey]
  have nl1 : (Str.ofString "\n").length = 1 := by decide +kernel
  have lkl := okl gs[k] (List.getElem_mem hkl)
  have vlt : xn (tl gs[k].l.x) < 128 := by
    obtain ⟨y', R'⟩ := lkl.row
    exact xn_lt fun c hc => okc_lt (R'.all c hc)
  have lok : (gs[k].lin sv dv).Ok := by
    refine ⟨⟨y, Rk⟩, lkl.o, fun v e => ?_⟩
    unfold Gs.lin at e
    cases sv
    · cases e
    · have := Option.some.inj e
      rw [← this]; exact vlt
  have lnl := (Lin.text_len lok).2
  have tlen : ((gs[k].lin sv dv).text ++ Str.ofString "\n").length ≤ 51 := by rw [Str.length_append, nl1]; omega
  have hcN := line_sign (l := gs[k].lin sv dv) hc
  have hcN : ((gs[k].lin sv dv).text ++ Str.ofString "\n").cps[(if dv then a + 1 else a)]? = some c := hcN
  refine r_cons (r_seti (r_call (r_glob S (g_struck w) (cw3 (kept_K (keep_327 w)) (r_lget_name (r_name S 9 (q := r_name S 3 (q := ⟨_, _, _, _, _, rfl, rfl, lN.at (S.atI (i := 1) rfl), by omega, by omega, eyN, WP.monoQ (Q := fun v s' => ∃ u t', v = .int ((if dv then a + 1 else a : Nat) : Int) u ∧ s' = ⟨h₄, g, d, t', os⟩) (r_ifexp (t_plain (r_cload S (.tail _ (.tail _ (.head _))) e4 (by kernel_rfl) (b_true ?_)))) ?_⟩))))))))
  · cases dv
    · exact c_ff (r_name S 12 (q := ⟨_, _, rfl, rfl⟩))
    · exact c_tt (r_bin (r_name S 12 (q := r_cint fun _ _ => b_add_int fun u t' => ⟨u, t', rfl, rfl⟩)))
  rintro v s' ⟨ui, t₅, rfl, rfl⟩
  refine r_name S 8 (q := ⟨S.world, struck_spec S.world (by omega) hcN (by omega) bx0 bx1 fun h₅ u₅ t₆ k₅ => ?_⟩)
  have S := S.keeps k₅
  refine r_name S 9 (q := r_name S 3 (q := b_setitem S nd (i := 1) rfl lN (by omega) (by omega) (by omega) fun h₆ oN' lN' S => ?_))
  have lst : struckT ((gs[k].lin sv dv).text ++ Str.ofString "\n") (if dv then a + 1 else a) c (bit : Int) = ((Gs.new gs[k].l (struckT gs[k].x a c (bit : Int)) (gs[k].j + 1)).lin sv dv).text ++ Str.ofString "\n" := line_strike (l := gs[k].lin sv dv) hc
  rw [lst] at lN'
  -- hits[k]
  have hkH : k < itH.toList.length := by simp; omega
  obtain ⟨uj, ej⟩ := Pget pH k hkH hkl
  have ejH : itH[((k : Nat) : Int).toNat]? = some (.int (gs[k].j : Int) uj) := by
    rw [show ((k : Nat) : Int).toNat = k from rfl, ← Array.getElem?_toList, List.getElem?_eq_getElem hkH, ej]
  refine r_cons (r_augi (r_name S 10 (q := r_name S 3 (q := b_lget (lH.at (S.atI (i := 0) rfl)) (by omega) (by omega) ejH (r_cint fun _ _ => b_iadd_int fun u₇ _ => b_setitem S nd (i := 0) rfl lH (by omega) (by omega) (by omega) fun h₇ oH' lH' S => ?_)))))
  have sets : ∀ {β : Type} (f : Gs → β) (g' : Gs), (gs.set k g').map f = (gs.map f).set k (f g') := fun f g' => by rw [List.map_set]
  refine r_nil (r_nil ⟨rfl, _, _, _, _, _, _, _, gs.set k (Gs.new gs[k].l (struckT gs[k].x a c (bit : Int)) (gs[k].j + 1)), rfl, S, ?_, ?_, ⟨_, lR', ?_⟩, ⟨_, lN', ?_⟩, ⟨_, lH', ?_⟩⟩)
  · rw [sets]
    refine List.ext_getElem? fun j => ?_
    rw [List.getElem?_set]
    split
    · rename_i q
      subst q
      simp [hkl]
    · rfl
  · intro x hx
    rcases List.mem_or_eq_of_mem_set hx with hx | rfl
    · exact weak x hx
    · exact Gs.strike hb gk ab.1 hc
  · rw [sets, Array.toList_setIfInBounds]
    exact strs_set k _ _ sR
  · rw [sets, Array.toList_setIfInBounds]
    exact strs_set k _ _ sN
  · rw [Array.toList_setIfInBounds]
    exact paired_set ⟨u₇, by simp⟩ k pH
end
end Mine
end
section
open PySem PySem.W PyProof.Rows PySem.Calls Builtin.ObjectAttr Builtin.Getset_descriptor
set_option Elab.async false
set_option maxRecDepth 100000
set_option maxHeartbeats 1000000
namespace Mine
section
variable {w : World} {A : Around} {E : Value → Shared → Prop} {h : Heap} {g : Array GenState} {d : Drawn} {t : Nat} {os : OsState} {env : Env} {scope : Scope} {cl : List (Str × Addr)}
/-- a comprehension over a range -/
structure EachR (w : World) (A : Around) (env : Env) (scope : Scope) (cl : List (Str × Addr)) (x : Str) (ifs : List PySem.Expr) (elt : PySem.Expr) (h₁ : Heap) (n : Nat) (p : Value → Bool) (F : Value → Value → Prop) : Prop where
  tests : ∀ C v h₃ (g : Array GenState) (d : Drawn) (os : OsState) t₃ m₃ E', (∃ (i : Nat) (u : Tok), i < n ∧ v = .int (0 + (i : Int) * 1) u) → h₁.StaysIn h₃ → h₃.Ns C m₃ → m₃ x = some v →
    WP w A (forIn ifs true fun c r => if r = true then do let ok ← isTrue c (compEnvC scope cl C env) (eval c (compEnvC scope cl C env)); pure (ForInStep.yield ok) else pure (ForInStep.yield r))
      (fun ok s₄ => ok = p v ∧ ∃ h₄ t₄, s₄ = ⟨h₄, g, d, t₄, os⟩ ∧ h₃.StaysIn h₄) E' ⟨h₃, g, d, t₃, os⟩
  elt : ∀ C v h₃ (g : Array GenState) (d : Drawn) (os : OsState) t₃ m₃ E', (∃ (i : Nat) (u : Tok), i < n ∧ v = .int (0 + (i : Int) * 1) u) → p v = true → h₁.StaysIn h₃ → h₃.Ns C m₃ → m₃ x = some v →
    WP w A (eval elt (compEnvC scope cl C env)) (fun y s₄ => F v y ∧ ∃ h₄ t₄, s₄ = ⟨h₄, g, d, t₄, os⟩ ∧ h₃.StaysIn h₄) E' ⟨h₃, g, d, t₃, os⟩
theorem walks_lt {I : Addr} {fp wr : List Addr} {n : Nat} {P : Nat → Value → Prop} {Sat : Nat → Heap → Prop} (W : Walks pg w A I fp wr n P Sat) : Walks pg w A I fp wr n (fun i v => i < n ∧ P i v) Sat where
  sub := W.sub
  frame := W.frame
  item := fun i s Q E hi st hQ => W.item i s Q E hi st fun v h' tk hP => hQ v h' tk ⟨hi, hP⟩
  done := W.done
  self := W.self
theorem r_rcomp {elt iter : PySem.Expr} {x : Str} {px pos : Pos} {ifs : List PySem.Expr} {Q : Value → Shared → Prop} {s : Shared} (p : Value → Bool) (F : Value → Value → Prop) (hh : A.handled = none)
    (hclos : closureFor scope env = pure cl) (hcell : (scope.names.all fun y => y.2 != .cell) = true) (hkind : scope.kind = .function)
    (hnames : (scope.names.all fun y => y.2 != .local || scope.names.lookup y.1 == some .local) = true) (hx : scope.names.lookup x = some .local)
    (hv : WP w A (eval iter env) (fun v s₁ => ∃ (r : Addr) (n : Nat) (u₁ u₂ u₃ : Tok) (h₁ : Heap) (t₁ : Nat), v = .ref r ∧ s₁ = ⟨h₁, g, d, t₁, os⟩ ∧ IsRange h₁ r 0 n 1 u₁ u₂ u₃ ∧ n ≤ 1000000 ∧ EachR w A env scope cl x ifs elt h₁ n p F ∧
      ∀ D h' tk ys (vs : List Value), h₁.get? D = none → h'.PlainList D ys → vs.length = n → (∀ (j : Nat) v, vs[j]? = some v → ∃ u, v = .int (0 + (j : Int) * 1) u) → Paired F (vs.filter p) ys.toList → h₁.StaysIn h' → Q (.ref D) ⟨h', g, d, tk, os⟩) E s)
    (hs : ∀ x, foldedSetIterable iter env x = pure x := by intro _; rfl) :
    WP w A (eval (.ListComp elt [⟨.Name x px, iter, ifs, 0⟩] scope pos) env) Q E s := by
  refine ⟨wpAny_ListComp_free p F hclos (fun y hy => by simpa using List.all_eq_true.mp hcell y hy) hkind (fun y hy e => by have := List.all_eq_true.mp hnames y hy; simpa [e] using this) hx (hv.to fun v s₁ z => ?_) hs⟩
  obtain ⟨r, n, u₁, u₂, u₃, h₁, t₁, rfl, rfl, hr, hz, I, hQ⟩ := z
  refine (i_range (w := w) (A := A) (E := E) hr hz fun h₂ k₂ It => ?_).out
  have nI : h₁.get? h₁.objs.size = none := get_size h₁
  have keep : ∀ h₃ : Heap, (∀ b o, b ∉ [h₁.objs.size] → h₂.get? b = some o → h₃.get? b = some o) → h₁.StaysIn h₃ :=
    fun h₃ k c o e => k c o (by simp only [List.mem_singleton]; exact Nat.ne_of_lt (Heap.lt_size e)) (k₂ _ _ e)
  have sI : h₁.objs.size < h₂.objs.size := Heap.lt_size It
  refine ⟨h₁.objs.size, _, _, n, _, _, rfl, walks_lt (Walks.range hh h₁.objs.size 0 1 n), by rw [sizeLine_eq]; omega, It, fun b hb => ?_, ⟨?_, ?_⟩, ?_⟩
  · rw [List.mem_singleton.mp hb]; exact sI
  · intro C i v s₃ m₃ E' _ hP hn hv hk ht
    obtain ⟨h₃, g₃, d₃, t₃, os₃⟩ := s₃
    obtain ⟨hi, u, rfl⟩ := hP
    exact (I.tests C _ h₃ g₃ d₃ os₃ t₃ m₃ E' ⟨i, u, hi, rfl⟩ (keep _ hk) hn hv).to fun ok s₄ ⟨e, h₄, t₄, e', k⟩ => ⟨e, h₄, t₄, e', k⟩
  · intro C i v s₃ m₃ E' _ hP hp hn hv hk ht
    obtain ⟨h₃, g₃, d₃, t₃, os₃⟩ := s₃
    obtain ⟨hi, u, rfl⟩ := hP
    exact (I.elt C _ h₃ g₃ d₃ os₃ t₃ m₃ E' ⟨i, u, hi, rfl⟩ hp (keep _ hk) hn hv).to fun ok s₄ ⟨e, h₄, t₄, e', k⟩ => ⟨e, h₄, t₄, e', k⟩
  · intro D h' tk ys vs hD _ hpl hlen hP hF hk
    refine hQ D h' tk ys vs ?_ hpl hlen (fun j v e => (hP j v e).2) hF (keep _ hk)
    cases q : h₁.get? D with
    | none => rfl
    | some o => exact nomatch hD.symm.trans (k₂ _ _ q)
end
/-- what became of a line on its link -/
theorem Gs.lost_eq {sv dv : Bool} {bit : Nat} {g : Gs} (hb : bit = 16 ∨ bit = 1) (k : g.ok bit 2) : (g.lin sv dv).lost = (sv && ((g.j : Int) == 1)) := by
  obtain ⟨_, hj, hx⟩ := k
  unfold Gs.lin Lin.lost
  cases sv
  · rfl
  · simp only [if_true, Bool.true_and]
    rw [hx]
    have h3 : g.j = 0 ∨ g.j = 1 ∨ g.j = 2 := by omega
    rcases h3 with q | q | q
    · rw [q]; simp
    · rw [q]
      have : xn (tl g.l.x) ≠ xn (tl g.l.x) ^^^ bit := fun e => by
        have e2 := congrArg (xn (tl g.l.x) ^^^ ·) e
        simp only [← Nat.xor_assoc, Nat.xor_self, Nat.zero_xor] at e2
        rcases hb with rfl | rfl <;> exact absurd e2 (by decide)
      simp [this]
    · rw [q]; simp
theorem Gs.lin_ok {sv dv : Bool} {bit i : Nat} {g : Gs} (kl : g.l.Ok) (k : g.ok bit i) : (g.lin sv dv).Ok := by
  refine ⟨k.1, kl.o, fun v e => ?_⟩
  unfold Gs.lin at e
  cases sv
  · cases e
  · have := Option.some.inj e
    rw [← this]
    obtain ⟨y', R'⟩ := kl.row
    exact xn_lt fun c hc => okc_lt (R'.all c hc)
section
variable {w : World} {A : Around} {h b : Heap} {g : Array GenState} {d : Drawn} {t : Nat} {os : OsState} {L fa Sc Dk Nm T R Hl TD LN HT : Addr} {cd : Value} {o1 o2 o3 o4 oT oR oN oH : Obj} {n m : Int} {un um ub : Tok} {kv gv mv av ev : Option Value} {sv dv : Bool} {bit : Nat}
/-- the link behind a station -/
theorem station3 {kept : List Lin} {gs₀ : List Gs} (S : St w b L h nsL [some (.ref Sc), some (.ref Dk), some (.ref Nm), kv, some (.int n un), gv, some (.ref Hl), some (.ref TD), some (.int (bit : Int) ub), some (.ref LN), some (.ref HT), mv, av, ev] [(HT, oH), (LN, oN), (cD L, o4), (cS L, o3), (cT L, o2), (cR L, o1), (T, oT), (R, oR)])
    (nd : [HT, LN, cD L, cS L, cT L, cR L, T, R].Nodup) (hh : A.handled = none) (room : A.depth < 800) (hb : bit = 16 ∨ bit = 1) (e1 : o1.data = .cell (some (.ref R))) (e2 : o2.data = .cell (some (.ref T))) (e3 : o3.data = .cell (some (.bool sv))) (e4 : o4.data = .cell (some (.bool dv)))
    (hz : gs₀.length ≤ 3) (okl : ∀ x ∈ gs₀, x.l.Ok) (ok : ∀ x ∈ gs₀, x.ok bit 0) (D : Led sv dv gs₀ oR oN oH) :
    WP w A (execs ((loopB w).drop 10) (lenv w L fa cd)) (fun f s₂ => f = .next ∧ ∃ h' t' kv' ul mv' av' T' R' oT' oR' o2' o1' ls, s₂ = ⟨h', g, d, t', os⟩ ∧
      St w b L h' nsL [some (.ref Sc), some (.ref Dk), some (.ref Nm), kv', some (.int n un), some (.str (logT ls) ul), some (.ref Hl), some (.ref TD), some (.int (bit : Int) ub), some (.ref LN), some (.ref HT), mv', av', ev] [(T', oT'), (R', oR'), (cD L, o4), (cS L, o3), (cT L, o2'), (cR L, o1')] ∧
      o1'.data = .cell (some (.ref R')) ∧ o2'.data = .cell (some (.ref T')) ∧ [T', R', cD L, cS L, cT L, cR L].Nodup ∧ (∀ l ∈ ls, l.Ok) ∧ ls.length ≤ 3 ∧
      (∃ it, isL oT' it ∧ it.toList = (ls.map Lin.lost).map .bool) ∧ (∃ it, isL oR' it ∧ StrsAre it.toList ((ls.filter fun l => !l.lost).map (·.x)))) (fun _ _ => False) ⟨h, g, d, t, os⟩ := by
  rw [loopB_at rfl]
  simp only [List.drop_succ_cons, List.drop_zero]
  have zz : sizeLine = 16777216 := sizeLine_eq
  refine r_cons (r_for (r_tup2 (r_bin (r_name S 4 (q := r_cint fun _ _ => b_div_int (by decide) (by decide) fun ua t₁ => r_bin (r_bin (r_name S 4 (q := r_cint fun _ _ => b_div_int (by decide) (by decide) fun _ _ => r_cint fun _ _ => b_add_int fun uc t₂ => ?_))))))))
  have ax0 : h.objs.size ∉ [HT, LN, cD L, cS L, cT L, cR L, T, R] := S.sizeN
  have axL : h.objs.size ≠ L := S.newL
  have axb : b.get? h.objs.size = none := S.new0
  have hTu : (h.push { cls := .type "tuple", data := .seq #[.int (n / 4) ua, .int (n / 7 + 1) uc] }).IsTuple h.objs.size #[.int (n / 4) ua, .int (n / 7 + 1) uc] := ⟨_, Heap.get?_push_size _ rfl, rfl, 0, rfl⟩
  have S := S.keeps (push_stay _ { cls := .type "tuple", data := .seq #[.int (n / 4) ua, .int (n / 7 + 1) uc] })
  have sz : h.objs.size < (h.push { cls := .type "tuple", data := .seq #[.int (n / 4) ua, .int (n / 7 + 1) uc] }).objs.size := by rw [Heap.size_push]; exact Nat.lt_succ_self _
  refine ⟨wpAny_pyIter_tuple (s := ⟨_, g, d, _, os⟩) hTu ?_⟩
  dsimp only
  generalize h.push { cls := .type "tuple", data := .seq #[.int (n / 4) ua, .int (n / 7 + 1) uc] } = h₁ at S hTu sz
  generalize h.objs.size = ax at ax0 axL axb hTu sz
  have I0 : h₁.objs.size ∉ [HT, LN, cD L, cS L, cT L, cR L, T, R] := S.sizeN
  have IL : h₁.objs.size ≠ L := S.newL
  have Ib : b.get? h₁.objs.size = none := S.new0
  have hIt : (h₁.push { cls := .type "tuple_iterator", data := .fields #[.ref ax, .int 0 0] }).IsTupleIter h₁.objs.size ax 0 := ⟨_, Heap.get?_push_size _ rfl, rfl, rfl⟩
  have hTu := hTu.at (h' := h₁.push { cls := .type "tuple_iterator", data := .fields #[.ref ax, .int 0 0] }) fun o e => Heap.get?_push_of_some _ e
  have S := S.keeps (push_stay _ { cls := .type "tuple_iterator", data := .fields #[.ref ax, .int 0 0] })
  refine for_walk (Walks.tuple hh h₁.objs.size ax (Nat.ne_of_lt sz) #[.int (n / 4) ua, .int (n / 7 + 1) uc]) 11 (fun i vs nw => ∃ kv mv av oR oN oH gs, vs = [some (.ref Sc), some (.ref Dk), some (.ref Nm), kv, some (.int n un), gv, some (.ref Hl), some (.ref TD), some (.int (bit : Int) ub), some (.ref LN), some (.ref HT), mv, av, ev] ∧ nw = [(HT, oH), (LN, oN), (cD L, o4), (cS L, o3), (cT L, o2), (cR L, o1), (T, oT), (R, oR)] ∧ gs.length ≤ 3 ∧ (∀ x ∈ gs, x.l.Ok) ∧ (∀ x ∈ gs, x.ok bit i) ∧ Led sv dv gs oR oN oH) S ⟨hIt, hTu⟩ ⟨_, _, _, _, _, _, gs₀, rfl, rfl, hz, okl, ok, D⟩ (fun a ha => ?_) Ib (.head _) ?_ ?_ ?_
  · simp only [List.mem_cons, List.not_mem_nil, or_false] at ha
    rcases ha with rfl | rfl
    · exact IL
    · exact axL
  · rintro i vs nw ⟨kv, mv, av, oR, oN, oH, gs, rfl, rfl, _⟩
    refine ⟨by simp, fun a ha p hp e => ?_⟩
    have m := List.mem_map_of_mem (f := (·.1)) hp
    rw [e] at m
    simp only [List.mem_cons, List.not_mem_nil, or_false] at ha
    rcases ha with rfl | rfl
    · exact I0 m
    · exact ax0 m
  · rintro i v h₃ t₃ vs nw hi hv ⟨kv, mv, av, oR, oN, oH, gs, rfl, rfl, hz, okl, ok, D⟩ kb S
    have hv' : ∃ m um, v = .int m um := by
      match i, hi, hv with
      | 0, _, hv => exact ⟨_, _, (Option.some.inj hv).symm⟩
      | 1, _, hv => exact ⟨_, _, (Option.some.inj hv).symm⟩
    obtain ⟨m, um, rfl⟩ := hv'
    refine WP.monoQ (mturn S nd room hb e1 e4 hz okl ok D) fun f s₂ z => ?_
    obtain ⟨rfl, h', t', kv', av', oR', oN', oH', gs', rfl, S', el, ok', D'⟩ := z
    refine ⟨rfl, _, _, _, _, rfl, S', _, _, _, _, _, _, gs', rfl, rfl, ?_, fun x hx => ?_, ok', D'⟩
    · have := congrArg List.length el
      simp at this
      omega
    · have m1 := List.mem_map_of_mem (f := (·.l)) hx
      rw [el] at m1
      obtain ⟨x', hx', e⟩ := List.mem_map.mp m1
      rw [← e]; exact okl x' hx'
  · rintro h₃ t₃ vs nw S ⟨kv, mv, av, oR, oN, oH, gs, rfl, rfl, hz, okl, ok, D⟩
    clear hIt hTu
    obtain ⟨itR, lR, sR⟩ := D.R
    obtain ⟨itN, lN, sN⟩ := D.N
    obtain ⟨itH, lH, pH⟩ := D.H
    have zR : itR.size = gs.length := by have := StrsAre.length sR; simpa using this
    have zH : itH.size = gs.length := by have := pH.length; simpa using this
    have hF : ∀ l : List Value, l.filter (fun _ => true) = l := fun l => by simp
    -- lost
    refine r_cons (r_asg (r_lcomp (g := g) (d := d) (os := os) (fun _ => true) (fun v y => ∀ j u, v = .int j u → y = .bool (sv && (j == 1))) hh rfl (by kernel_rfl) (by kernel_rfl) (by kernel_rfl) (by kernel_rfl) (r_name S 10 (q := ⟨_, _, _, _, rfl, rfl, lH.at (S.atI (i := 0) rfl), by rw [zz]; omega, ⟨fun C v h₄ g₄ d₄ os₄ t₄ m₄ E' hi k₄ hn hv => t_noifs ⟨rfl, _, _, rfl, fun _ _ e => e⟩, fun C v h₄ g₄ d₄ os₄ t₄ m₄ E' hi _ k₄ hn hv => ?_⟩, fun T' h₅ t₅ ys nT pT F₁ k₅ => ?_⟩))))
    · obtain ⟨i, hi⟩ := hi
      obtain ⟨x, _, u, rfl⟩ := paired_at pH i v (by simpa using hi)
      refine r_and (r_ccell (c := cS L) (v := .bool sv) (by kernel_rfl) ⟨_, k₄ _ _ (S.atI (i := 3) rfl), e3⟩ (b_true ?_))
      have fin : ∀ j u', (Value.int (x.j : Int) u) = .int j u' → j = (x.j : Int) := fun j u' e => by injection e with e1 _; exact e1.symm
      cases sv
      · exact c_ff ⟨fun j u' e => rfl, _, _, rfl, fun _ _ e => e⟩
      · refine c_tt (r_one (r_cmp (r_cvar hn hv (q := r_cint fun _ _ => b_eq_intS ⟨fun j u' e => ?_, _, _, rfl, fun _ _ e => e⟩))))
        rw [fin j u' e]; rfl
    rw [hF] at F₁
    have zB : ∀ (v y : Value) (x : Gs), (∀ j u, v = .int j u → y = .bool (sv && (j == 1))) → ((∃ u, v = .int (x.j : Int) u) ∧ x ∈ gs) → y = Value.bool (x.lin sv dv).lost := by
      rintro v y x z ⟨⟨u, e⟩, hx⟩
      rw [z _ _ e, Gs.lost_eq hb (ok x hx)]
    have yT : ys.toList = (gs.map fun x => (x.lin sv dv).lost).map .bool := by
      rw [List.map_map]
      exact paired_map (φ := fun x : Gs => Value.bool (x.lin sv dv).lost) zB F₁ (paired_mem pH)
    obtain ⟨cT', eT'⟩ := pT
    have nd₁ : [T', HT, LN, cD L, cS L, cT L, cR L, T, R].Nodup := List.nodup_cons.mpr ⟨S.fresh nT, nd⟩
    have S := (S.keeps k₅).add eT' (S.freshL nT) (S.fresh0 nT)
    refine r_cset S nd₁ (i := 5) rfl e2 (by kernel_rfl) fun h₆ o2' e2' S => ?_
    have zT : ys.size = gs.length := by have := congrArg List.length yT; simpa using this
    -- rows
    have hpT : ∀ (i : Nat) x, gs[i]? = some x → ys[i]? = some (.bool (x.lin sv dv).lost) := fun i x e => by
      rw [← Array.getElem?_toList, yT, List.getElem?_map, List.getElem?_map, e]; rfl
    have hpR : ∀ (i : Nat) x, gs[i]? = some x → ∃ u, itR[i]? = some (.str x.x u) := fun i x e => by
      have hi : i < gs.length := by
        rcases Nat.lt_or_ge i gs.length with z | z
        · exact z
        · rw [List.getElem?_eq_none z] at e; cases e
      have hi' : i < itR.toList.length := by simp; omega
      obtain ⟨u, q⟩ := StrsAre.get sR i hi' (by simpa using hi)
      refine ⟨u, ?_⟩
      rw [← Array.getElem?_toList, List.getElem?_eq_getElem hi', q, List.getElem_map]
      rw [List.getElem?_eq_getElem hi] at e
      rw [Option.some.inj e]
    have tn : ∀ i : Nat, (0 + (i : Int) * 1).toNat = i := fun i => by omega
    refine r_cons (r_asg (r_rcomp (g := g) (d := d) (os := os) (fun v => match v with | .int k _ => (match gs[k.toNat]? with | some x => !(x.lin sv dv).lost | none => false) | _ => false) (fun v y => ∀ (j : Nat) u x, v = .int (0 + (j : Int) * 1) u → gs[j]? = some x → ∃ u', y = .str x.x u') hh rfl (by kernel_rfl) (by kernel_rfl) (by kernel_rfl) (by kernel_rfl) (r_call (r_boot S (n_range w) (cw1 kept_type (r_call (r_boot S (n_len w) (cw1 kept_builtin (r_cload S (.tail _ (.tail _ (.tail _ (.tail _ (.tail _ (.tail _ (.head _))))))) e1 (by kernel_rfl) ⟨S.world, b_len_l (lR.at (S.atI (i := 8) rfl)) (by omega) fun _ _ => ⟨S.world, b_range1 fun h₇ u₁ u₂ u₃ t₇ k₇ Rg => ⟨_, itR.size, _, _, _, _, _, rfl, rfl, Rg, by omega, ⟨fun C v h₄ g₄ d₄ os₄ t₄ m₄ E' hi k₄ hn hv => ?_, fun C v h₄ g₄ d₄ os₄ t₄ m₄ E' hi _ k₄ hn hv => ?_⟩, fun R' h₈ t₈ ys' vs nR' pR' lvs hvs F₂ k₈ => ?_⟩⟩⟩)))))))))
    · obtain ⟨i, u, hi, rfl⟩ := hi
      have hg : gs[i]? = some gs[i] := List.getElem?_eq_getElem (by omega)
      refine t_if1 (t_not (t_plain (r_lget_name (r_ccell (c := cT L) (v := .ref T') (by kernel_rfl) ⟨_, k₄ _ _ (k₇ _ _ (S.atI (i := 5) rfl)), e2'⟩ (r_cvar hn hv (q := ⟨_, _, _, _, _, rfl, rfl, ⟨_, k₄ _ _ (k₇ _ _ (S.atI (i := 0) rfl)), rfl, _, rfl⟩, by omega, by omega, by rw [tn]; exact hpT i _ hg, b_true ⟨?_, _, _, rfl, fun _ _ e => e⟩⟩))))))
      simp only [tn, hg]
    · obtain ⟨i, u, hi, rfl⟩ := hi
      have hg : gs[i]? = some gs[i] := List.getElem?_eq_getElem (by omega)
      obtain ⟨u', hu'⟩ := hpR i _ hg
      refine r_lget_name (r_ccell (c := cR L) (v := .ref R) (by kernel_rfl) ⟨_, k₄ _ _ (k₇ _ _ (S.atI (i := 6) rfl)), e1⟩ (r_cvar hn hv (q := ⟨_, _, _, _, _, rfl, rfl, lR.at (k₄ _ _ (k₇ _ _ (S.atI (i := 8) rfl))), by omega, by omega, by rw [tn]; exact hu', fun j u'' x e hx => ?_, _, _, rfl, fun _ _ e => e⟩)))
      have : j = i := by injection e with e _; omega
      subst this
      rw [hg] at hx
      exact ⟨u', by rw [Option.some.inj hx]⟩
    have S := S.keeps k₇
    have PG : Paired (fun (v : Value) (x : Gs) => ∃ (j : Nat) (u : Tok), v = .int (0 + (j : Int) * 1) u ∧ gs[j]? = some x) vs gs := paired_of (by omega) fun j v x ev ex => by
      obtain ⟨u, rfl⟩ := hvs j v ev
      exact ⟨j, u, rfl, ex⟩
    have PF := paired_filter (p := fun v => match v with | .int k _ => (match gs[k.toNat]? with | some x => !(x.lin sv dv).lost | none => false) | _ => false) (r := fun x : Gs => !(x.lin sv dv).lost) (fun v x z => by
      obtain ⟨j, u, rfl, ex⟩ := z
      simp only [tn, ex]) PG
    have zR' : ∀ (v y : Value) (x : Gs), (∀ (j : Nat) u x, v = .int (0 + (j : Int) * 1) u → gs[j]? = some x → ∃ u', y = .str x.x u') → (∃ (j : Nat) (u : Tok), v = .int (0 + (j : Int) * 1) u ∧ gs[j]? = some x) → ∃ u, y = .str x.x u := by
      rintro v y x z ⟨j, u, e, ex⟩
      exact z j u x e ex
    have yR := paired_strs (φ := fun x : Gs => x.x) zR' F₂ PF
    obtain ⟨cR', eR'⟩ := pR'
    have nd₂ : [R', T', HT, LN, cD L, cS L, cT L, cR L, T, R].Nodup := List.nodup_cons.mpr ⟨S.fresh nR', nd₁⟩
    have S := (S.keeps k₈).add eR' (S.freshL nR') (S.fresh0 nR')
    refine r_cset S nd₂ (i := 7) rfl e1 (by kernel_rfl) fun h₉ o1' e1' S => ?_
    have e0 : (Str.ofString "").length = 0 := by decide +kernel
    have nl1 : (Str.ofString "\n").length = 1 := by decide +kernel
    have okL : ∀ l ∈ gs.map (Gs.lin sv dv), l.Ok := fun l hl => by
      obtain ⟨x, hx, rfl⟩ := List.mem_map.mp hl
      exact Gs.lin_ok (okl x hx) (ok x hx)
    have sumle := StrLaws.sumLen_le (B := 51) (gs.map fun x => (x.lin sv dv).text ++ Str.ofString "\n") (fun y hy => by
      obtain ⟨x, hx, rfl⟩ := List.mem_map.mp hy
      have := (Lin.text_len (Gs.lin_ok (sv := sv) (dv := dv) (okl x hx) (ok x hx))).2
      rw [Str.length_append, nl1]; omega)
    have jl : Txt.join (Str.ofString "") (gs.map fun x => (x.lin sv dv).text ++ Str.ofString "\n") = logT (gs.map (Gs.lin sv dv)) := by
      have := join_log (gs.map (Gs.lin sv dv))
      rw [List.map_map] at this
      exact this
    refine r_cons (r_asg (r_meth (r_cstr fun _ _ => m_str F.slot_str_join F.type_str_join (cwm1 kept_builtin (r_name S 9 (q := ⟨S.world, b_joinL (lN.at (S.atI (i := 3) rfl)) sN (by rw [e0]; decide) ?_ fun ul _ => ?_⟩))))))
    · rw [List.length_map] at sumle ⊢; omega
    rw [jl]
    refine r_store S 5 (hi := by simp) (q := fun h₁₀ t₁₀ S => r_nil ⟨rfl, _, _, _, ul, _, _, T', R', lst ys cT', lst ys' cR', o2', o1', gs.map (Gs.lin sv dv), rfl, S.sub fun p hp => ?_, e1', e2', ?_, okL, by rw [List.length_map]; exact hz, ⟨_, isL.mk ys cT', ?_⟩, ⟨_, isL.mk ys' cR', ?_⟩⟩)
    · simp only [List.mem_cons, List.not_mem_nil, or_false] at hp
      simp only [List.set_cons_succ, List.set_cons_zero, List.mem_cons, List.not_mem_nil, or_false]
      rcases hp with rfl | rfl | rfl | rfl | rfl | rfl <;> simp
    · have n1 := List.nodup_cons.mp nd₂
      have n2 := List.nodup_cons.mp nd₁
      have n3 := (List.nodup_cons.mp (List.nodup_cons.mp nd).2).2
      have sub4 : ∀ z ∈ [cD L, cS L, cT L, cR L], z ∈ [HT, LN, cD L, cS L, cT L, cR L, T, R] := fun z hz => by
        simp only [List.mem_cons, List.not_mem_nil, or_false] at hz ⊢
        rcases hz with q | q | q | q <;> simp [q]
      refine List.nodup_cons.mpr ⟨fun m => ?_, List.nodup_cons.mpr ⟨fun m => n1.1 (List.mem_cons_of_mem _ (sub4 _ m)), ?_⟩⟩
      · rcases List.mem_cons.mp m with q | m
        · exact n1.1 (q ▸ .head _)
        · exact n2.1 (sub4 _ m)
      · exact List.Nodup.sublist (List.Sublist.cons₂ _ (List.Sublist.cons₂ _ (List.Sublist.cons₂ _ (List.Sublist.cons₂ _ (List.nil_sublist _))))) n3
    · rw [yT, List.map_map, List.map_map, List.map_map]
      rfl
    · rw [List.filter_map, List.map_map]
      exact yR
end
end Mine
end
section
open PySem PySem.W PyProof.Rows PySem.Calls Builtin.ObjectAttr Builtin.Getset_descriptor
set_option Elab.async false
set_option maxRecDepth 100000
set_option maxHeartbeats 1000000
namespace Mine
section
variable {w : World} {A : Around} {h₀ h : Heap} {g : Array GenState} {d : Drawn} {t : Nat} {os : OsState} {env : Env} {L : Addr} {ns : List Str} {vs : List (Option Value)} {nw : List (Addr × Obj)}
/-- a for whose body makes and ends generators -/
theorem for_walkG {R : Result → Shared → Prop} {v : Str} {px : Pos} {body : List PySem.Stmt} {I : Addr} {fp : List Addr} {n : Nat} {P : Nat → Value → Prop} {Sat : Nat → Heap → Prop} (Wk : Walks pg w A I fp [I] n P Sat) (k : Nat)
    (J : Nat → List (Option Value) → List (Addr × Obj) → Prop)
    (S : St w h₀ L h ns vs nw) (hSat : Sat 0 h) (hJ : J 0 vs nw)
    (hfp : ∀ b ∈ fp, b ≠ L) (hI : h₀.get? I = none) (hIf : I ∈ fp)
    (hnw : ∀ i vs₁ nw₁, J i vs₁ nw₁ → k < vs₁.length ∧ ∀ b ∈ fp, ∀ p ∈ nw₁, p.1 ≠ b)
    (step : ∀ i v h₁ g₁ t₁ vs₁ nw₁, i < n → P i v → J i vs₁ nw₁ → Sat (i + 1) h₁ → h₀.StaysIn (hideAll h₁ (L :: nw₁.map (·.1))) → St w (hideAll h₁ (L :: nw₁.map (·.1))) L h₁ ns (vs₁.set k (some v)) nw₁ →
      WP w A (execs body env) (fun f s₂ => f = .next ∧ ∃ h₂ g₂ t₂ vs₂ nw₂, s₂ = ⟨h₂, g₂, d, t₂, os⟩ ∧ Gk g₁ g₂ ∧ St w (hideAll h₁ (L :: nw₁.map (·.1))) L h₂ ns vs₂ nw₂ ∧ J (i + 1) vs₂ nw₂) (fun _ _ => False) ⟨h₁, g₁, d, t₁, os⟩)
    (fin : ∀ h' g' t' vs' nw', Gk g g' → St w h₀ L h' ns vs' nw' → J n vs' nw' → R (.ok .next) ⟨h', g', d, t', os⟩)
    (hx : at1 ns k v = true := by kernel_rfl) (hk : env.scope.kind = .function := by kernel_rfl) (hL : env.locals = L := by rfl)
    (hl : env.kindOf v = some .local := by kernel_rfl) (hnd : ns.Nodup := by decide +kernel) :
    codeAny (MM w) A (.forLoop (.Name v px) (.ref I) body [] env) R ⟨h, g, d, t, os⟩ := by
  subst hL
  have hp : (env.scope.kind == .class || (env.scope.kind == .module && env.locals != env.globals)) = false := by rw [hk]; rfl
  have hIL : env.locals ≠ I := Ne.symm (hfp I hIf)
  refine codeAny_forLoop (fun m s' => ∃ h' g' t' vs' nw' i, s' = ⟨h', g', d, t', os⟩ ∧ Gk g g' ∧ St w h₀ env.locals h' ns vs' nw' ∧ Sat i h' ∧ J i vs' nw' ∧ i ≤ n ∧ m = n + 1 - i) ?_ (n + 1) ⟨h, g, t, vs, nw, 0, rfl, Gk.refl g, S, hSat, hJ, Nat.zero_le _, rfl⟩
  rintro m s' ⟨h', g', t', vs', nw', i, rfl, gk, S', hs', hJ', hi, rfl⟩
  obtain ⟨hkl, hap⟩ := hnw i vs' nw' hJ'
  by_cases hlt : i < n
  · refine Wk.item i _ _ _ hlt hs' fun x h₁ tk hP hs₁ hk₁ => ?_
    have S₁ : St w h₀ env.locals h₁ ns vs' nw' := S'.keepsBut (I := I) (fun b o hb e => hk₁ b o (by simpa using hb) e) hIL hI fun p hp => hap I hIf p hp
    refine wpAny_assign_Name (wpAny_storeName_local hl S₁.F (fun h₂ hn₂ hs₂ => ?_) hp)
    rw [lkp_set hx hkl hnd] at hn₂
    have S₂ : St w h₀ env.locals h₂ ns (vs'.set k (some x)) nw' := S₁.set hn₂ hs₂
    have S₃ := S₂.rebase
    have kb := S₂.rebased
    have st₂ : Sat (i + 1) h₂ := Wk.frame (i + 1) h₁ h₂ hs₁ fun b hb o e => (hs₂.2 b (hfp b hb)).trans e
    refine wpAny_mono (step i x h₂ g' _ vs' nw' hlt hP hJ' st₂ kb S₃).out (fun f s₃ hf => ?_) fun _ _ e => e.elim
    obtain ⟨rfl, h₃, g₃, t₃, vs₃, nw₃, rfl, gk₃, S₄, hJ₃⟩ := hf
    refine ⟨n + 1 - (i + 1), by omega, h₃, g₃, t₃, vs₃, nw₃, i + 1, rfl, gk.trans gk₃, S₂.down kb S₄, ?_, hJ₃, hlt, rfl⟩
    refine Wk.frame (i + 1) h₁ h₃ hs₁ fun b hb o e => ?_
    refine S₄.keep _ _ (hideAll_get _ ((hs₂.2 b (hfp b hb)).trans e) ?_)
    intro q
    rcases List.mem_cons.mp q with q | q
    · exact hfp b hb q
    · obtain ⟨p, hp, q⟩ := List.mem_map.mp q
      exact hap b hb p hp q
  · have hin : i = n := by omega
    subst hin
    refine Wk.done _ _ _ hs' fun h₁ tk hk₁ => wpAny_execs_nil ?_
    exact fin h₁ g' tk vs' nw' gk (S'.keepsBut (I := I) (fun b o hb e => hk₁ b o (by simpa using hb) e) hIL hI fun p hp => hap I hIf p hp) hJ'
end
section
variable {w : World} {A : Around} {h b : Heap} {g : Array GenState} {d : Drawn} {t : Nat} {os : OsState} {L fa Sc Dk Nm T R : Addr} {cd : Value} {o1 o2 o3 o4 oT oR : Obj} {ls : List Lin} {n : Int} {un ul : Tok} {kv hv tv bv lv htv mv av ev v3 v4 : Option Value} {itT itR : Array Value}
/-- one station and its link -/
theorem station (S : St w b L h nsL [some (.ref Sc), some (.ref Dk), some (.ref Nm), kv, some (.int n un), some (.str (logT ls) ul), hv, tv, bv, lv, htv, mv, av, ev] [(T, oT), (R, oR), (cD L, o4), (cS L, o3), (cT L, o2), (cR L, o1)])
    (K : Kinds w b Dk) (fr : A.frames = some [lenv w L fa cd]) (hh : A.handled = none) (room : A.depth < 800) (hu : A.units + 10 < cLine) (ok : ∀ l ∈ ls, l.Ok) (hz : ls.length ≤ 3)
    (e1 : o1.data = .cell (some (.ref R))) (e2 : o2.data = .cell (some (.ref T))) (e3 : o3.data = .cell v3) (e4 : o4.data = .cell v4) (nd : [T, R, cD L, cS L, cT L, cR L].Nodup)
    (lT : isL oT itT) (hT : itT.toList = (ls.map Lin.lost).map .bool) (lR : isL oR itR) (hR : StrsAre itR.toList ((ls.filter fun l => !l.lost).map (·.x))) :
    WP w A (execs (loopB w) (lenv w L fa cd)) (fun f s₂ => f = .next ∧ ∃ h' g' t' kv' ul Hl TD bit LN HT mv' av' T' R' oT' oR' o4' o3' o2' o1' v3' v4' ls, s₂ = ⟨h', g', d, t', os⟩ ∧ Gk g g' ∧
      St w b L h' nsL [some (.ref Sc), some (.ref Dk), some (.ref Nm), kv', some (.int n un), some (.str (logT ls) ul), Hl, TD, bit, LN, HT, mv', av', ev] [(T', oT'), (R', oR'), (cD L, o4'), (cS L, o3'), (cT L, o2'), (cR L, o1')] ∧
      o1'.data = .cell (some (.ref R')) ∧ o2'.data = .cell (some (.ref T')) ∧ o3'.data = .cell v3' ∧ o4'.data = .cell v4' ∧ [T', R', cD L, cS L, cT L, cR L].Nodup ∧ (∀ l ∈ ls, l.Ok) ∧ ls.length ≤ 3 ∧
      (∃ it, isL oT' it ∧ it.toList = (ls.map Lin.lost).map .bool) ∧ (∃ it, isL oR' it ∧ StrsAre it.toList ((ls.filter fun l => !l.lost).map (·.x)))) (fun _ _ => False) ⟨h, g, d, t, os⟩ := by
  have nd2 : [cD L, cS L, cT L, cR L].Nodup := (List.nodup_cons.mp (List.nodup_cons.mp nd).2).2
  have zk := List.length_filter_le (fun l : Lin => !l.lost) ls
  refine station1 S K fr hh room hu ok hz e1 e2 e3 e4 nd lT hT lR hR fun b₂ h₁ g₁ t₁ Hl TD told ct kb gk S₁ eD eR eT P => ?_
  refine station2 (kept := ls.filter fun l => !l.lost) S₁ hh room e1 e3 e4 nd2 (by omega) eD eR lR (by have := StrsAre.length hR; simpa using this) P fun h₂ t₂ LN HT lns hts c₁ c₂ o3' o4' sv dv bit ub hbit S₂ e3' e4' nd₂ hN hH => ?_
  have SB := S.sub (nw' := [(T, oT), (R, oR)]) (fun p hp => by
    simp only [List.mem_cons, List.not_mem_nil, or_false] at hp ⊢
    rcases hp with q | q <;> simp [q])
  have S₃ := SB.back kb S₂ (fun p hp => by
    simp only [List.mem_cons, List.not_mem_nil, or_false] at hp
    rcases hp with rfl | rfl
    · exact eT
    · exact eR)
  have nn : ∀ (a : Addr) o, b₂.get? a = some o → a ∉ [HT, LN, cD L, cS L, cT L, cR L] := fun a o e m => by
    have : a ∈ [(HT, lst hts c₂), (LN, lst lns c₁), (cD L, o4'), (cS L, o3'), (cT L, o2), (cR L, o1)].map (·.1) := m
    obtain ⟨p, hp, rfl⟩ := List.mem_map.mp this
    exact nomatch (S₂.N p hp).2.2.symm.trans e
  have nTR : T ≠ R := fun q => (List.nodup_cons.mp nd).1 (q ▸ .head _)
  have nd₃ : [HT, LN, cD L, cS L, cT L, cR L, T, R].Nodup := by
    have : ([HT, LN, cD L, cS L, cT L, cR L] ++ [T, R]).Nodup := List.nodup_append.mpr ⟨nd₂, by simp [nTR], fun a ha b hb q => by
      subst q
      simp only [List.mem_cons, List.not_mem_nil, or_false] at hb
      rcases hb with rfl | rfl
      · exact nn _ _ eT ha
      · exact nn _ _ eR ha⟩
    exact this
  refine WP.monoQ (station3 (kept := ls) (gs₀ := (ls.filter fun l => !l.lost).map fun l => Gs.new l l.x 0) S₃ nd₃ hh room hbit e1 e2 e3' e4' (by rw [List.length_map]; omega) (fun x hx => ?_) (fun x hx => ?_) ⟨⟨_, lR, ?_⟩, ⟨_, isL.mk lns c₁, ?_⟩, ⟨_, isL.mk hts c₂, ?_⟩⟩) fun f s z => ?_
  · obtain ⟨l, hl, rfl⟩ := List.mem_map.mp hx
    exact ok l (List.mem_filter.mp hl).1
  · obtain ⟨l, hl, rfl⟩ := List.mem_map.mp hx
    exact ⟨(ok l (List.mem_filter.mp hl).1).row, Nat.le_refl _, by simp⟩
  · rw [List.map_map]; exact hR
  · rw [List.map_map]; exact hN
  · refine paired_of (by rw [List.length_map]; simpa using hH.1) fun j v x ev ex => ?_
    rw [List.getElem?_map] at ex
    obtain ⟨u, rfl⟩ := hH.2 j v (by rw [← Array.getElem?_toList]; exact ev)
    cases e : (ls.filter fun l => !l.lost)[j]? with
    | none => rw [e] at ex; cases ex
    | some l =>
      rw [e] at ex
      have := Option.some.inj ex
      subst this
      exact ⟨u, rfl⟩
  · obtain ⟨rfl, h', t', kv', ul, mv', av', T', R', oT', oR', o2', o1', ls', rfl, S', e1', e2', nd', ok', hz', hT', hR'⟩ := z
    exact ⟨rfl, _, _, _, _, _, _, _, _, _, _, _, _, _, _, _, _, _, _, _, _, _, _, ls', rfl, gk, S', e1', e2', e3', e4', nd', ok', hz', hT', hR'⟩
end
end Mine
end
section
open PySem PySem.W PyProof.Rows PySem.Calls Builtin.ObjectAttr Builtin.Getset_descriptor
set_option Elab.async false
set_option maxRecDepth 100000
set_option maxHeartbeats 1000000
namespace Mine
section
variable {w : World} {A : Around} {h b : Heap} {g : Array GenState} {d : Drawn} {t : Nat} {os : OsState} {L fa Sc Dk Nm T R : Addr} {cd : Value} {o1 o2 o3 o4 oT oR : Obj} {ls : List Lin} {ul : Tok} {kv nv hv tv bv lv htv mv av ev : Option Value} {itT itR : Array Value}
/-- the last log -/
theorem law_end (S : St w b L h nsL [some (.ref Sc), some (.ref Dk), some (.ref Nm), kv, nv, some (.str (logT ls) ul), hv, tv, bv, lv, htv, mv, av, ev] [(T, oT), (R, oR), (cD L, o4), (cS L, o3), (cT L, o2), (cR L, o1)])
    (K : Kinds w b Dk) (fr : A.frames = some [lenv w L fa cd]) (hh : A.handled = none) (room : A.depth < 800) (hu : A.units + 10 < cLine) (ok : ∀ l ∈ ls, l.Ok) (hz : ls.length ≤ 3)
    (e1 : o1.data = .cell (some (.ref R))) (e2 : o2.data = .cell (some (.ref T)))
    (lT : isL oT itT) (hT : itT.toList = (ls.map Lin.lost).map .bool) (lR : isL oR itR) (hR : StrsAre itR.toList ((ls.filter fun l => !l.lost).map (·.x))) :
    WP w A (execs ((lawB w).drop 7) (lenv w L fa cd)) (fun f s₂ => f = .ret (.bool true) ∧ ∃ h' g' t', s₂ = ⟨h', g', d, t', os⟩ ∧ b.StaysIn h' ∧ Gk g g') (fun _ _ => False) ⟨h, g, d, t, os⟩ := by
  rw [lawB_at rfl]
  simp only [List.drop_succ_cons, List.drop_zero]
  have zz : sizeLine = 16777216 := sizeLine_eq
  have ll := logT_len ok
  refine r_cons (r_asg (r_call (r_glob S (g_heard w) (cw3 (kept_K (keep_334 w)) (r_name S 1 (q := r_name S 5 (q := r_bin (r_call (r_boot S (n_len w) (cw1 kept_builtin (r_name S 5 (q := ⟨S.world, b_len_str (by omega) fun _ _ => r_cint fun _ _ => b_div_int (by decide) (by decide) fun _ _ => ⟨S.world, call_heard S K fr hh (by omega) ok hz (by omega) fun h₁ g₁ t₁ Hl items c gk up nH eH P => ?_⟩⟩))))))))))))
  have S₁ := S.upsL up
  have S₂ := (S₁.sub (nw' := []) (fun p hp => nomatch hp)).rebase
  have kb₁ : b.StaysIn (hideAll h₁ (L :: ([] : List (Addr × Obj)).map (·.1))) := (S₁.sub (nw' := []) (fun p hp => nomatch hp)).rebased
  have HL : Hl ≠ L := S.freshL nH
  have eH₁ : (hideAll h₁ (L :: ([] : List (Addr × Obj)).map (·.1))).get? Hl = some (lst items c) := hideAll_get _ eH (by simpa using HL)
  have P : Paired (fun v l => MsgAt w (hideAll h₁ (L :: ([] : List (Addr × Obj)).map (·.1))) v (Lin.msg l)) items.toList ls := P
  have at₁ : ∀ p ∈ [(T, oT), (R, oR), (cD L, o4), (cS L, o3), (cT L, o2), (cR L, o1)], (hideAll h₁ (L :: ([] : List (Addr × Obj)).map (·.1))).get? p.1 = some p.2 := fun p hp => hideAll_get _ (S₁.N p hp).1 (by simpa using (S₁.N p hp).2.1)
  generalize hideAll h₁ (L :: ([] : List (Addr × Obj)).map (·.1)) = b₁ at S₂ kb₁ eH₁ P at₁
  have lit : items.size = ls.length := by have := P.length; simpa using this
  refine r_store S₂ 6 (hi := by simp) (q := fun h₂ t₂ S₃ => ?_)
  refine r_cons (r_if (t_cmp (r_lcomp (g := g₁) (d := d) (os := os) (fun _ => true) (fun v y => ∀ m, MsgAt w b₁ v m → y = .bool (isB m)) hh rfl (by kernel_rfl) (by kernel_rfl) (by kernel_rfl) (by kernel_rfl) (r_name S₃ 6 (q := ⟨_, _, _, _, rfl, rfl, ⟨_, S₃.keep _ _ eH₁, rfl, c, rfl⟩, by rw [zz]; omega, ⟨fun C v h₃ g₃ d₃ os₃ t₃ m₃ E' hi k₃ hn hv => t_noifs ⟨rfl, _, _, rfl, fun _ _ e => e⟩, fun C v h₃ g₃ d₃ os₃ t₃ m₃ E' hi _ k₃ hn hv => ?_⟩, fun D h₃ t₃ ys nD pD F₁ k₃ => ?_⟩)))))
  · obtain ⟨i, hi⟩ := hi
    obtain ⟨l, _, M⟩ := paired_at P i v (by simpa using hi)
    have W₃ := S₃.world.keeps k₃
    have M₃ := M.keeps (fun a o e => k₃ _ _ (S₃.keep _ _ e))
    exact r_call (r_bootW W₃ (n_isi w) (cw2 kept_builtin (r_cvar hn hv (q := r_globW W₃ (n_89 w) ⟨W₃, b_isi W₃ M₃ fun t' => ⟨fun m M' => by rw [M.isB_eq M'], _, _, rfl, fun _ _ e => e⟩⟩))))
  have hF : ∀ l : List Value, l.filter (fun _ => true) = l := fun l => by simp
  rw [hF] at F₁
  have ysT : ys.toList = (ls.map Lin.lost).map .bool := by
    rw [List.map_map]
    exact paired_map (φ := fun l => Value.bool l.lost) (fun a y l z M => by rw [z _ M, isB_lin]) F₁ P
  refine r_cellH (a := cT L) (v := .ref T) ⟨_, k₃ _ _ (S₃.keep _ _ (at₁ (cT L, o2) (by simp))), e2⟩ (by kernel_rfl) (b_ne_bools pD.isList (lT.at (k₃ _ _ (S₃.keep _ _ (at₁ (T, oT) (by simp))))) (by omega) ysT hT (b_true (c_ff (r_nil ?_))))
  have S₄ := S₃.keeps k₃
  refine r_cons (r_asg_lcomp (g := g₁) (d := d) (os := os) 13 (fun v => !(@decide (MsgAt w b₁ v .bad) (Classical.propDecidable _))) (fun v y => ∀ k ws, MsgAt w b₁ v (.sent k ws) → ∃ u, y = .str (renderT (bareT k ws) true true false) u) hh rfl (by kernel_rfl) (by kernel_rfl) (by kernel_rfl) (by kernel_rfl) rfl (by simp) (r_name S₄ 6 (q := ⟨_, _, _, _, rfl, rfl, ⟨_, S₄.keep _ _ eH₁, rfl, c, rfl⟩, by rw [zz]; omega, S₄, ⟨fun C v h₃ g₃ d₃ os₃ t₃ m₃ E' hi k₃ hn hv => ?_, fun C v h₃ g₃ d₃ os₃ t₃ m₃ E' hi hp k₃ hn hv => ?_⟩, fun TD h₅ t₅ last ct S₅ nD F₂ k₅ => ?_⟩)))
  · obtain ⟨i, hi⟩ := hi
    obtain ⟨l, _, M⟩ := paired_at P i v (by simpa using hi)
    have W₃ := S₄.world.keeps k₃
    have M₃ := M.keeps (fun a o e => k₃ _ _ (S₄.keep _ _ e))
    exact t_if1 (t_not (t_plain (r_call (r_bootW W₃ (n_isi w) (cw2 kept_builtin (r_cvar hn hv (q := r_globW W₃ (n_89 w) ⟨W₃, b_isi W₃ M₃ fun t' => b_true ⟨by rw [M.isB_dec], _, _, rfl, fun _ _ e => e⟩⟩)))))))
  · obtain ⟨i, hi⟩ := hi
    obtain ⟨l, hl, M⟩ := paired_at P i v (by simpa using hi)
    rw [← M.isB_dec, isB_lin] at hp
    have hn' : l.lost = false := by simpa using hp
    have em : l.msg = .sent (kn l.o) (wds l.x l.o) := by unfold Lin.msg; rw [hn']; rfl
    rw [em] at M
    obtain ⟨y, R⟩ := (ok l hl).row
    have W₃ := S₄.world.keeps k₃
    obtain ⟨f, x, rfl, Se⟩ := M
    have Se₃ := Se.keeps (fun a o e => k₃ _ _ (S₄.keep _ _ e))
    refine r_meth (r_cvar hn hv (q := s_render W₃ Se₃ f fun p h' t' k' MB => cwb0 (fn_154 w) ⟨MB, b_bound MB (rend_row MB.1 (by omega) hh R (Se₃.keeps k') (fun s X => binds_render0 X) (.inl ⟨rfl, rfl⟩) fun h₈ t₈ _ k₈ => ⟨fun k ws M' => ?_, _, _, rfl, fun a o e => k₈ _ _ (k' _ _ e)⟩)⟩))
    obtain ⟨f', x', ex, Se'⟩ := M'
    cases ex
    obtain ⟨rfl, rfl⟩ := Se.uniq f f' Se'
    exact ⟨_, rfl⟩
  have P₂ : Paired (fun v l => MsgAt w b₁ v (Lin.msg l)) (items.toList.filter fun v => !(@decide (MsgAt w b₁ v .bad) (Classical.propDecidable _))) (ls.filter fun l => !l.lost) := paired_filter (fun a l M => by rw [← isB_lin, M.isB_dec]) P
  have rowK : ∀ l ∈ ls.filter (fun l => !l.lost), ∃ y, Row l.x l.o y := fun l hl => (ok l (List.mem_filter.mp hl).1).row
  have zL : ∀ (v y : Value) (l : Lin), (∀ k ws, MsgAt w b₁ v (.sent k ws) → ∃ u, y = .str (renderT (bareT k ws) true true false) u) → (MsgAt w b₁ v (Lin.msg l) ∧ l ∈ ls.filter fun l => !l.lost) → ∃ u, y = .str (renderT l.x true true false) u := by
    rintro v y l z ⟨M, hl⟩
    obtain ⟨y', R⟩ := rowK l hl
    have hn' : l.lost = false := by simpa using (List.mem_filter.mp hl).2
    have em : l.msg = .sent (kn l.o) (wds l.x l.o) := by unfold Lin.msg; rw [hn']; rfl
    rw [em] at M
    obtain ⟨u, e⟩ := z _ _ M
    exact ⟨u, by rw [e, bare_eq R]⟩
  have lS := paired_strs (φ := fun l : Lin => renderT l.x true true false) zL F₂ (paired_mem P₂)
  have PR := paired_ofS hR
  have zR : itR.size ≤ 3 := by
    have := PR.length
    have e : itR.toList.length = itR.size := by simp
    have := List.length_filter_le (fun l : Lin => !l.lost) ls
    omega
  refine r_cons (r_ret (r_cmp (r_name S₅ 13 (q := r_lcomp (g := g₁) (d := d) (os := os) (fun _ => true) (fun v y => ∀ x u, v = .str x u → ∃ u', y = .str (renderT x true true false) u') hh rfl (by kernel_rfl) (by kernel_rfl) (by kernel_rfl) (by kernel_rfl) (r_cellH (a := cR L) (v := .ref R) ⟨_, S₅.keep _ _ (at₁ (cR L, o1) (by simp)), e1⟩ (by kernel_rfl) ⟨_, _, _, _, rfl, rfl, lR.at (S₅.keep _ _ (at₁ (R, oR) (by simp))), by rw [zz]; omega, ⟨fun C v h₃ g₃ d₃ os₃ t₃ m₃ E' hi k₃ hn hv => t_noifs ⟨rfl, _, _, rfl, fun _ _ e => e⟩, fun C v h₃ g₃ d₃ os₃ t₃ m₃ E' hi _ k₃ hn hv => ?_⟩, fun D₉ h₉ t₉ ys₉ nD₉ pD₉ F₉ k₉ => ?_⟩)))))
  · obtain ⟨i, hi⟩ := hi
    obtain ⟨l, hl, u, rfl⟩ := paired_at PR i v (by simpa using hi)
    obtain ⟨y, R⟩ := rowK l hl
    have W₃ := S₅.world.keeps k₃
    have hlen : l.x.length ≤ 46 := by rw [R.len]; have := R.le; omega
    have hlt : xn (tl l.x) < 128 := xn_lt fun c hc => okc_lt (R.all c hc)
    have hx2 : (hexT (xsum l.x 0 0)).length ≤ 10 := by rw [xsum_xn, hex_len _ hlt]; decide
    refine r_bin (r_cstr fun _ _ => r_tup2 (r_cvar hn hv (q := r_call (r_globW W₃ (g_sum w) (cw1 (kept_K (keep_320 w)) (r_cvar hn hv (q := ⟨W₃, lawsum_spec W₃ (by omega) hh R.asc fun h₄ u₄ t₄ k₄ => b_mod_D (Heap.get?_push_size _ rfl) (by omega) hx2 fun u₅ t₅ => ⟨fun x u' ex => ?_, _, _, rfl, fun a o e => push_stay _ _ _ _ (k₄ _ _ e)⟩⟩)))))))
    cases ex
    have ee : Str.ofString "$" ++ l.x ++ Str.ofString "*" ++ hexT (xsum l.x 0 0) = renderT l.x true true false := by
      unfold renderT
      simp only [if_true, Bool.false_eq_true, if_false, Str.append_assoc]
    rw [ee]
    exact ⟨u₅, rfl⟩
  rw [hF] at F₉
  have zF : ∀ (v y : Value) (l : Lin), (∀ x u, v = .str x u → ∃ u', y = .str (renderT x true true false) u') → (∃ u, v = .str l.x u) → ∃ u', y = .str (renderT l.x true true false) u' := by
    rintro v y l z ⟨u, e⟩
    exact z _ u e
  have rS := paired_strs (φ := fun l : Lin => renderT l.x true true false) zF F₉ PR
  have S₉ := S₅.keeps k₉
  refine b_eq_strs ⟨_, S₉.at (.head _), rfl, ct, rfl⟩ pD₉.isList (by omega) lS rS ⟨rfl, _, _, _, rfl, fun a o e => S₉.keep _ _ (kb₁ _ _ e), gk⟩
end
end Mine
end
section
open PySem PySem.W PyProof.Rows PySem.Calls Builtin.ObjectAttr Builtin.Getset_descriptor
set_option Elab.async false
set_option maxRecDepth 100000
set_option maxHeartbeats 1000000
namespace Mine
section
variable {w : World} {A : Around} {h₀ h b : Heap} {g : Array GenState} {d : Drawn} {t : Nat} {os : OsState} {L fa Sc Dk Nm T R : Addr} {cd : Value} {o1 o2 o3 o4 oT oR : Obj} {ls : List Lin} {ul : Tok} {kv nv hv tv bv lv htv mv av ev v3 v4 : Option Value} {itT itR nums : Array Value} {c' : Nat} {script : List Int} {vals : List Value}
/-- the run over the stations and the end -/
theorem law_loop (S : St w b L h nsL [some (.ref Sc), some (.ref Dk), some (.ref Nm), kv, nv, some (.str (logT ls) ul), hv, tv, bv, lv, htv, mv, av, ev] [(T, oT), (R, oR), (cD L, o4), (cS L, o3), (cT L, o2), (cR L, o1)])
    (hN : h.get? Nm = some (lst nums c')) (nN : Nm ∉ [T, R, cD L, cS L, cT L, cR L]) (NL : Nm ≠ L) (hn : ∀ (j : Nat) (v : Value), nums[j]? = some v → ∃ n u, v = .int n u)
    (K : Kinds w b Dk) (fr : A.frames = some [lenv w L fa cd]) (hh : A.handled = none) (room : A.depth < 800) (hu : A.units + 10 < cLine) (ok : ∀ l ∈ ls, l.Ok) (hz : ls.length ≤ 3)
    (e1 : o1.data = .cell (some (.ref R))) (e2 : o2.data = .cell (some (.ref T))) (e3 : o3.data = .cell v3) (e4 : o4.data = .cell v4) (nd : [T, R, cD L, cS L, cT L, cR L].Nodup)
    (lT : isL oT itT) (hT : itT.toList = (ls.map Lin.lost).map .bool) (lR : isL oR itR) (hR : StrsAre itR.toList ((ls.filter fun l => !l.lost).map (·.x))) :
    WP w A (execs ((lawB w).drop 6) (lenv w L fa cd)) (fun f s₂ => f = .ret (.bool true) ∧ ∃ h' g' t', s₂ = ⟨h', g', d, t', os⟩ ∧ b.StaysIn h' ∧ Gk g g') (fun _ _ => False) ⟨h, g, d, t, os⟩ := by
  have tail : ∀ {h' g' t'}, WP w A (execs ((lawB w).drop 7) (lenv w L fa cd)) (fun f s₂ => f = .ret (.bool true) ∧ ∃ h'' g'' t'', s₂ = ⟨h'', g'', d, t'', os⟩ ∧ b.StaysIn h'' ∧ Gk g g'') (fun _ _ => False) ⟨h', g', d, t', os⟩ →
      WP w A (execs ((lawB w).drop 7) (lenv w L fa cd)) (fun f s₂ => f = .ret (.bool true) ∧ ∃ h'' g'' t'', s₂ = ⟨h'', g'', d, t'', os⟩ ∧ b.StaysIn h'' ∧ Gk g g'') (fun _ _ => False) ⟨h', g', d, t', os⟩ := fun z => z
  rw [lawB_at rfl] at tail ⊢
  simp only [List.drop_succ_cons, List.drop_zero] at tail ⊢
  have hlN : h.IsList Nm nums := ⟨_, hN, rfl, c', rfl⟩
  refine r_cons (r_for (r_name S 2 (q := ⟨wpAny_pyIter_list (s := ⟨h, g, d, t, os⟩) hlN ?_⟩)))
  have I0 : h.objs.size ∉ [T, R, cD L, cS L, cT L, cR L] := S.sizeN
  have IL : h.objs.size ≠ L := S.newL
  have Ib : b.get? h.objs.size = none := S.new0
  have NI : Nm ≠ h.objs.size := Nat.ne_of_lt (Heap.lt_size hN)
  have hIt : (h.push { cls := .type "list_iterator", data := .fields #[.ref Nm, .int 0 0] }).IsListIter h.objs.size Nm 0 := ⟨_, Heap.get?_push_size _ rfl, rfl, rfl⟩
  have hlN := hlN.at (h' := h.push { cls := .type "list_iterator", data := .fields #[.ref Nm, .int 0 0] }) fun o e => Heap.get?_push_of_some _ e
  have S := S.keeps (push_stay _ { cls := .type "list_iterator", data := .fields #[.ref Nm, .int 0 0] })
  refine for_walkG (Walks.list hh h.objs.size Nm NI nums) 4 (fun i vs nw => ∃ kv nv ul hv tv bv lv htv mv av ev T R oT oR o4 o3 o2 o1 v3 v4 ls, vs = [some (.ref Sc), some (.ref Dk), some (.ref Nm), kv, nv, some (.str (logT ls) ul), hv, tv, bv, lv, htv, mv, av, ev] ∧ nw = [(T, oT), (R, oR), (cD L, o4), (cS L, o3), (cT L, o2), (cR L, o1)] ∧ (∀ p ∈ nw, p.1 ≠ h.objs.size ∧ p.1 ≠ Nm) ∧
    o1.data = .cell (some (.ref R)) ∧ o2.data = .cell (some (.ref T)) ∧ o3.data = .cell v3 ∧ o4.data = .cell v4 ∧ [T, R, cD L, cS L, cT L, cR L].Nodup ∧ (∀ l ∈ ls, l.Ok) ∧ ls.length ≤ 3 ∧
    (∃ it, isL oT it ∧ it.toList = (ls.map Lin.lost).map .bool) ∧ (∃ it, isL oR it ∧ StrsAre it.toList ((ls.filter fun l => !l.lost).map (·.x)))) S ⟨hIt, hlN⟩
    ⟨_, _, _, _, _, _, _, _, _, _, _, _, _, _, _, _, _, _, _, _, _, _, rfl, rfl, fun p hp => ?_, e1, e2, e3, e4, nd, ok, hz, ⟨_, lT, hT⟩, ⟨_, lR, hR⟩⟩ (fun a ha => ?_) Ib (.head _) ?_ ?_ ?_
  · have m := List.mem_map_of_mem (f := (·.1)) hp
    exact ⟨fun q => I0 (q ▸ m), fun q => nN (q ▸ m)⟩
  · simp only [List.mem_cons, List.not_mem_nil, or_false] at ha
    rcases ha with rfl | rfl
    · exact IL
    · exact NL
  · rintro i vs nw ⟨kv, nv, ul, hv, tv, bv, lv, htv, mv, av, ev, T, R, oT, oR, o4, o3, o2, o1, v3, v4, ls, rfl, rfl, ne, _⟩
    refine ⟨by simp, fun a ha p hp => ?_⟩
    simp only [List.mem_cons, List.not_mem_nil, or_false] at ha
    rcases ha with rfl | rfl
    · exact (ne p hp).1
    · exact (ne p hp).2
  · rintro i v h₁ g₁ t₁ vs nw hi hv' ⟨kv, nv, ul, hv, tv, bv, lv, htv, mv, av, ev, T, R, oT, oR, o4, o3, o2, o1, v3, v4, ls, rfl, rfl, ne, e1, e2, e3, e4, nd, ok, hz, ⟨itT, lT, hT⟩, itR, lR, hR⟩ sat kb S
    obtain ⟨n, un, rfl⟩ := hn i v hv'
    have liveI : (hideAll h₁ (L :: [(T, oT), (R, oR), (cD L, o4), (cS L, o3), (cT L, o2), (cR L, o1)].map (·.1))).get? h.objs.size ≠ none := by
      obtain ⟨o, e, _⟩ := sat.1
      rw [hideAll_get _ e fun m => ?_]
      · simp
      · rcases List.mem_cons.mp m with q | m
        · exact IL q
        · obtain ⟨p, hp, q⟩ := List.mem_map.mp m
          exact (ne p hp).1 q
    have liveN : (hideAll h₁ (L :: [(T, oT), (R, oR), (cD L, o4), (cS L, o3), (cT L, o2), (cR L, o1)].map (·.1))).get? Nm ≠ none := by
      obtain ⟨o, e, _⟩ := sat.2
      rw [hideAll_get _ e fun m => ?_]
      · simp
      · rcases List.mem_cons.mp m with q | m
        · exact NL q
        · obtain ⟨p, hp, q⟩ := List.mem_map.mp m
          exact (ne p hp).2 q
    have K' := K.keeps kb
    generalize hideAll h₁ (L :: [(T, oT), (R, oR), (cD L, o4), (cS L, o3), (cT L, o2), (cR L, o1)].map (·.1)) = b' at S liveI liveN K'
    refine WP.monoQ (station (un := un) (n := n) S K' fr hh room hu ok hz e1 e2 e3 e4 nd lT hT lR hR) fun f s z => ?_
    obtain ⟨rfl, h', g', t', kv', ul', Hl, TD, bit, LN, HT, mv', av', T', R', oT', oR', o4', o3', o2', o1', v3', v4', ls', rfl, gk, S', e1', e2', e3', e4', nd', ok', hz', hT', hR'⟩ := z
    exact ⟨rfl, _, _, _, _, _, rfl, gk, S', _, _, _, _, _, _, _, _, _, _, _, _, _, _, _, _, _, _, _, _, _, _, rfl, rfl, fun p hp => ⟨fun q => liveI (q ▸ (S'.N p hp).2.2), fun q => liveN (q ▸ (S'.N p hp).2.2)⟩, e1', e2', e3', e4', nd', ok', hz', hT', hR'⟩
  · rintro h' g' t' vs nw gk S ⟨kv, nv, ul, hv, tv, bv, lv, htv, mv, av, ev, T, R, oT, oR, o4, o3, o2, o1, v3, v4, ls, rfl, rfl, ne, e1, e2, e3, e4, nd, ok, hz, ⟨itT, lT, hT⟩, itR, lR, hR⟩
    refine tail (WP.monoQ (law_end S K fr hh room hu ok hz e1 e2 lT hT lR hR) fun f s z => ?_)
    obtain ⟨rfl, h'', g'', t'', rfl, k, gk'⟩ := z
    exact ⟨rfl, _, _, _, rfl, k, gk.trans gk'⟩
end
end Mine
end
section
open PySem PySem.W PyProof.Rows PySem.Calls Builtin.ObjectAttr Builtin.Getset_descriptor
set_option Elab.async false
set_option maxRecDepth 100000
set_option maxHeartbeats 1000000
namespace Mine
section
variable {w : World} {A : Around} {h₀ h : Heap} {g : Array GenState} {d : Drawn} {t : Nat} {os : OsState} {L fa Sc : Addr} {cd : Value} {o1 o2 o3 o4 : Obj} {script : List Int} {vals : List Value}
theorem nd_cells (n : Nat) : [n + 1 + 1 + 1 + 1, n + 1 + 1 + 1, n + 1 + 1, n + 1].Nodup := by simp; omega
theorem law_walk (S : St w h₀ L h nsL [some (.ref Sc), none, none, none, none, none, none, none, none, none, none, none, none, none] [(cD L, o4), (cS L, o3), (cT L, o2), (cR L, o1)])
    (fr : A.frames = some [lenv w L fa cd]) (hh : A.handled = none) (room : A.depth < 800) (hu : A.units + 10 < cLine)
    (e1 : o1.data = .cell none) (e2 : o2.data = .cell none) (e3 : o3.data = .cell none) (e4 : o4.data = .cell none) (hl : h₀.IsList Sc vals.toArray) (hI : IntsAre vals script) (hz : vals.length ≤ 63) :
    WP w A (execs (lawB w) (lenv w L fa cd)) (fun f s₂ => f = .ret (.bool true) ∧ ∃ h' g' t', s₂ = ⟨h', g', d, t', os⟩ ∧ h₀.StaysIn h' ∧ Gk g g') (fun _ _ => False) ⟨h, g, d, t, os⟩ := by
  refine law_pre0 S (nd_cells L) e1 hl hI hz fun b h₁ t₁ Dk Nm o1' Rl nums c c' kb S₁ K e1' hn z1 z2 nd₁ => ?_
  have hf : ∃ f : Nat → Int, ∀ (j : Nat) (v : Value), nums[j]? = some v → ∃ u, v = .int (f j) u := by
    have : ∀ j : Nat, ∃ n : Int, ∀ v : Value, nums[j]? = some v → ∃ u, v = .int n u := fun j => by
      cases e : nums[j]? with
      | none => exact ⟨0, fun v q => nomatch q⟩
      | some v =>
        obtain ⟨n, u, rfl⟩ := hn j v e
        exact ⟨n, fun v q => ⟨u, (Option.some.inj q).symm⟩⟩
    exact ⟨fun j => Classical.choose (this j), fun j => Classical.choose_spec (this j)⟩
  obtain ⟨f, hf⟩ := hf
  refine law_pre1 S₁ hh e1' e2 f hf z1 z2 nd₁ fun h₂ t₂ kv nv its c₂ T o2' u x₁ x₂ x₃ S₂ e2' sR q₁ q₂ q₃ nd₂ => ?_
  obtain ⟨n₁, rfl⟩ := q₁
  obtain ⟨n₂, rfl⟩ := q₂
  obtain ⟨n₃, rfl⟩ := q₃
  have okL : ∀ l ∈ [Lin.new (rowT n₁) (n₁ % 3).toNat none false, Lin.new (rowT n₂) (n₂ % 3).toNat none false, Lin.new (rowT n₃) (n₃ % 3).toNat none false], l.Ok := by
    have key : ∀ n : Int, (Lin.new (rowT n) (n % 3).toNat none false).Ok := fun n => ⟨row_new n, by show (n % 3).toNat < 3; omega, fun v e => nomatch e⟩
    intro l hl
    simp only [List.mem_cons, List.not_mem_nil, or_false] at hl
    rcases hl with rfl | rfl | rfl <;> exact key _
  have el : Txt.join (Str.ofString "\n") [rowT n₁, rowT n₂, rowT n₃] ++ Str.ofString "\n" = logT [Lin.new (rowT n₁) (n₁ % 3).toNat none false, Lin.new (rowT n₂) (n₂ % 3).toNat none false, Lin.new (rowT n₃) (n₃ % 3).toNat none false] := by
    rw [join_first]
    unfold logT
    simp only [List.map_cons, List.map_nil, first_line]
  rw [el] at S₂
  have hN := S₂.at (a := Nm) (o := lst nums c') (.tail _ (.tail _ (.head _)))
  have NL := (S₂.N (Nm, lst nums c') (.tail _ (.tail _ (.head _)))).2.1
  have S₃ := S₂.sub (nw' := [(T, lst #[.bool false, .bool false, .bool false] 0), (Rl, lst its c₂), (cD L, o4), (cS L, o3), (cT L, o2'), (cR L, o1')]) (fun p hp => by
    simp only [List.mem_cons, List.not_mem_nil, or_false] at hp ⊢
    rcases hp with q | q | q | q | q | q <;> simp [q])
  have m1 := List.nodup_cons.mp nd₂
  have m2 := List.nodup_cons.mp m1.2
  have m3 := List.nodup_cons.mp m2.2
  have nN : Nm ∉ [T, Rl, cD L, cS L, cT L, cR L] := fun m => by
    rcases List.mem_cons.mp m with q | m
    · exact m1.1 (q ▸ .tail _ (.head _))
    · rcases List.mem_cons.mp m with q | m
      · exact m2.1 (q ▸ .head _)
      · exact m3.1 m
  have nd₃ : [T, Rl, cD L, cS L, cT L, cR L].Nodup := by
    refine List.nodup_cons.mpr ⟨fun m => ?_, List.nodup_cons.mpr ⟨fun m => m2.1 (.tail _ m), m3.2⟩⟩
    rcases List.mem_cons.mp m with q | m
    · exact m1.1 (q ▸ .head _)
    · exact m1.1 (.tail _ (.tail _ m))
  refine WP.monoQ (law_loop S₃ hN nN NL hn K fr hh room hu okL (by simp) e1' e2' e3 e4 nd₃ (isL.mk _ _) rfl (isL.mk _ _) sR) fun f s z => ?_
  obtain ⟨rfl, h', g', t', rfl, k, gk⟩ := z
  exact ⟨rfl, _, _, _, rfl, fun a o e => k _ _ (kb _ _ e), gk⟩
end
end Mine
end
section
open PySem PySem.W PyProof.Rows PySem.Calls
set_option Elab.async false
set_option maxRecDepth 100000
set_option maxHeartbeats 8000000
set_option pp.deepTerms false
namespace Mine
theorem lkp_nones : ∀ (ns : List Str) (n : Nat) (x : Str), lkp ns (List.replicate n none) x = none
  | [], n, x => by cases n <;> rfl
  | a :: ns, 0, x => rfl
  | a :: ns, n + 1, x => by
    simp only [List.replicate_succ, lkp]
    split
    · rfl
    · exact lkp_nones ns n x
theorem bind_first {k : Str → Option NameKind} {v : Value} (hk : k (Str.ofString "script") = some .local) : bindL k [(Str.ofString "script", v)] (fun _ => none) = lkp nsL [some v, none, none, none, none, none, none, none, none, none, none, none, none, none] := by
  funext x
  have e : bindL k [(Str.ofString "script", v)] (fun _ => none) = fun y => if y = Str.ofString "script" then some v else none := by simp only [bindL, hk, if_true]
  rw [e]
  unfold nsL
  rw [lkp]
  by_cases q : x = Str.ofString "script"
  · subst q; simp
  · have : (Str.ofString "script" == x) = false := beq_eq_false_iff_ne.mpr fun e => q e.symm
    simp only [q, this, Bool.false_eq_true, if_false]
    exact (lkp_nones _ 13 x).symm
theorem law_walk' {w : World} {A : Around} {h₀ h : Heap} {g : Array GenState} {d : Drawn} {t : Nat} {os : OsState} {L Sc : Addr} {o1 o2 o3 o4 : Obj} {script : List Int} {vals : List Value} {B : List PySem.Stmt} {env : Env} (fa : Addr) (cd : Value) (hB : B = lawB w) (hE : env = lenv w L fa cd)
    (S : St w h₀ L h nsL [some (.ref Sc), none, none, none, none, none, none, none, none, none, none, none, none, none] [(cD L, o4), (cS L, o3), (cT L, o2), (cR L, o1)])
    (fr : A.frames = some [env]) (hh : A.handled = none) (room : A.depth < 800) (hu : A.units + 10 < cLine)
    (e1 : o1.data = .cell none) (e2 : o2.data = .cell none) (e3 : o3.data = .cell none) (e4 : o4.data = .cell none) (hl : h₀.IsList Sc vals.toArray) (hI : IntsAre vals script) (hz : vals.length ≤ 63) :
    WP w A (execs B env) (fun f s₂ => f = .ret (.bool true) ∧ ∃ h' g' t', s₂ = ⟨h', g', d, t', os⟩ ∧ h₀.StaysIn h' ∧ Gk g g') (fun _ _ => False) ⟨h, g, d, t, os⟩ := by
  subst hB hE
  exact law_walk S fr hh room hu e1 e2 e3 e4 hl hI hz
theorem shell : PySem.Challenge.rw_fe0250_01.Holds := hd (by
  k_fill
  intro w s₀ s₁ mg mb G Y fa o pm cd doc dV kV ho hd hcd hD hmg hg args vals as hpre hlay hrd hwl hlo
  have KX := kIn_of Y
  have X := (Ground.X G).1
  have V := (Ground.X G).2
  have GL := glob_more (Ground.glob G (by first | k_qdec | decide +kernel) (by first | k_qdec | decide +kernel)) V
  refine Ground.open G ?_
  intro T B D TE TW
  try (refine guard_noD D (by decide +kernel) ?_; clear D)
  have W : Wd w s₁.heap := ⟨KX, ⟨mb, GL.b, GL.builtins⟩, GL.nolimit⟩
  have TA := at_of_top T
  clear hmg
  wrow_args hpre hlay hrd hwl hlo
  all_goals (
    first | refine callC_kw (enter_call ?_) | refine enter_call ?_ | refine callC_kw (enter_callW ?_) | refine enter_callW ?_ | w_how
    w_top on
    have K0 := below_caller (Top.heap T)
    w_call any ho hd hcd hD T F
    clear hd TA)
  refine wpAny_mono (Q := fun f s' => f = .ret (.bool true) ∧ ∃ h' g' t', s' = ⟨h', g', s₁.drawn, t', s₁.os⟩ ∧ Ups [] s₁.heap h' ∧ Gk #[] g') (E := fun _ _ => False) ?_ (fun f s' z => ?_) fun _ _ z => z.elim
  · rename_i script hs hlay0 hL1 hr1 hl2 w8 w7 S vals w4 hL ra w1 r0 hI hr hc1 hc h₁ tk₁ o4 o3 o2 o1 c4 c3 c2 c1 N0 X0
    have e1 : o1.data = .cell none := c1
    have e2 : o2.data = .cell none := c2
    have e3 : o3.data = .cell none := c3
    have e4 : o4.data = .cell none := c4
    have S₀ : St w s₁.heap s₁.heap.objs.size h₁ nsL [some (.ref S), none, none, none, none, none, none, none, none, none, none, none, none, none] [(s₁.heap.objs.size + 1 + 1 + 1 + 1, o4), (s₁.heap.objs.size + 1 + 1 + 1, o3), (s₁.heap.objs.size + 1 + 1, o2), (s₁.heap.objs.size + 1, o1)] := by
      refine ⟨?_, F.keep, get_size _, N0, W⟩
      exact Eq.mp (congrArg (h₁.Ns s₁.heap.objs.size) (bind_first (v := .ref S) (by kernel_rfl))) F.ns
    clear c4 c3 c2 c1 X0 F hcd ho
    have hz : vals.length ≤ 63 := by
      have := IntsAre.length hI
      omega
    refine wpAny_mono (law_walk' fa cd (by kernel_rfl) (by kernel_rfl) S₀ rfl rfl (Nat.le_of_ble_eq_true (by kernel_rfl)) (Nat.le_of_ble_eq_true (by kernel_rfl)) e1 e2 e3 e4 hL hI hz).out (fun f s' z => ?_) fun _ _ z => z
    obtain ⟨rfl, h', g', t', rfl, k, gk⟩ := z
    refine ⟨rfl, h', g', t', rfl, Ups.of_stays k, ?_⟩
    rw [← hg]
    exact gk
  obtain ⟨rfl, h', g', t', rfl, U, K⟩ := z
  dsimp only
  refine ⟨.inl ⟨_, _, [], rfl, fun _ => rfl, ReadsW.bool true, by first | rfl | wrow_post, fun _ => ⟨List.nodup_nil, fun _ hm => nomatch hm⟩⟩, OldK.of_keep fun b o e => U.keep b o (by simp) e, rfl, fun y hy => ?_⟩
  obtain ⟨i, hi, e⟩ := Array.mem_iff_getElem.mp hy
  rw [K.new i y (Nat.zero_le _) (by rw [Array.getElem?_eq_getElem hi, e])]
  rfl)
end Mine
end
theorem PySem.Challenge.cw_fe0250_01_holds : PySem.Challenge.rw_fe0250_01.Holds :=
  Mine.shell
