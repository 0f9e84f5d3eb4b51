import PyProof.Rows.All
import Wide.All
import OpenK.AllK
import Wide.FinOn
import PySem.Challenge.RW_mj0023_01
open PySem PySem.W PyProof.Rows
set_option Elab.async false
set_option maxRecDepth 100000

-- part: MjFn
namespace Mine

/-- a function object with a dict -/
def FnDict (h : Heap) (f D : Addr) (md : Str → Option Value) : Prop :=
  ∃ fd sl, h.get? f = some { cls := .type "function", dict := some D, data := .func fd, slots := sl } ∧ h.Ns D md
theorem FnDict.keeps {h h' : Heap} {f D : Addr} {md} (x : FnDict h f D md) (hk : ∀ b o, h.get? b = some o → h'.get? b = some o) : FnDict h' f D md :=
  let ⟨fd, sl, a, b⟩ := x; ⟨fd, sl, hk _ _ a, b.keeps hk⟩

namespace FF
theorem lk_getattr : typeLookup (.type "function") "__getattr__" = pure none := by rw [typeLookup_type, builtinLookup_eq_fast]; kernel_rfl
theorem lk_span : typeLookup (.type "function") "span" = pure none := by rw [typeLookup_type, builtinLookup_eq_fast]; kernel_rfl
theorem lk_search : typeLookup (.type "function") "search" = pure none := by rw [typeLookup_type, builtinLookup_eq_fast]; kernel_rfl
theorem lk_bool : typeLookup (.type "function") "__bool__" = pure none := by rw [typeLookup_type, builtinLookup_eq_fast]; kernel_rfl
theorem lk_len : typeLookup (.type "function") "__len__" = pure none := by rw [typeLookup_type, builtinLookup_eq_fast]; kernel_rfl
theorem slot_ga : Slot "function" "__getattribute__" "object.__getattribute__" :=
  .of (owner := "object") (n := "__getattribute__") (by rw [typeLookup_type, builtinLookup_eq_fast]; kernel_rfl) (by decide +kernel) (by decide +kernel) (by decide +kernel)
    (by first | exact .inl (by decide +kernel) | exact .inr (by decide +kernel)) (by rw [isSubtype_type]; kernel_rfl)
theorem slot_sa : Slot "function" "__setattr__" "object.__setattr__" :=
  .of (owner := "object") (n := "__setattr__") (by rw [typeLookup_type, builtinLookup_eq_fast]; kernel_rfl) (by decide +kernel) (by decide +kernel) (by decide +kernel)
    (by first | exact .inl (by decide +kernel) | exact .inr (by decide +kernel)) (by rw [isSubtype_type]; kernel_rfl)
theorem args_ga (a b : Value) : argsOk "object.__getattribute__" ⟨[a, b], []⟩ := by unfold argsOk; kernel_rfl
theorem args_sa (a b c : Value) : argsOk "object.__setattr__" ⟨[a, b, c], []⟩ := by unfold argsOk; kernel_rfl
theorem canon_ga : (Manifest.canonical "object.__getattribute__" != "object.__getattribute__") = false := by decide +kernel
end FF

section
variable {prog : Program} {w : World} {A : Around} {E : Value → Shared → Prop} {h : Heap} {g : Array GenState} {d : Drawn} {t : Nat} {os : OsState} {f D : Addr} {md : Str → Option Value}

theorem fn_entry {name : Str} {tk : Tok} {v : Value} {Q : Fin → Shared → Prop} (hm : FnDict h f D md) (hnm : typeLookup (.type "function") name = pure none) (hv : md name = some v)
    (hq : Q (.done (.ret v)) ⟨h, g, d, t, os⟩) : wpAny (model prog w) A (Builtin.«object.__getattribute__» ⟨[.ref f, .str name tk], []⟩) Q E ⟨h, g, d, t, os⟩ := by
  obtain ⟨fd, sl, hM, hD⟩ := hm
  have hT : (⟨h, g, d, t, os⟩ : Shared).TypeIs (.ref f) "function" := ⟨_, hM, rfl⟩
  repeat (any_goals (first | assumption | with_reducible apply PySem.Flt.wpAny_nsGet_known | with_reducible apply PySem.Flt.wpAny_loadPart_known | wp_step))

theorem getMethod_fn {name : Str} {v : Value} {pl : Sem Bool} {Q : Value × List Value → Shared → Prop} (hm : FnDict h f D md) (hnm : typeLookup (.type "function") name = pure none) (hv : md name = some v)
    (hh : handedOut v = pure v) (hq : Q (v, []) ⟨h, g, d, t + 1, os⟩) : wpAny (model prog w) A (getMethod (.ref f) name pl) Q E ⟨h, g, d, t, os⟩ := by
  obtain ⟨fd, sl, hM, hD⟩ := id hm
  have hT : (⟨h, g, d, t, os⟩ : Shared).TypeIs (.ref f) "function" := ⟨_, hM, rfl⟩
  have hT1 : (⟨h, g, d, t + 1, os⟩ : Shared).TypeIs (.ref f) "function" := ⟨_, hM, rfl⟩
  have f1 := FF.slot_ga.lookup
  have f2 := FF.lk_getattr
  have f4 := FF.slot_ga.bind (.ref f)
  unfold getMethod
  refine wpAny_bind (wpAny_specialOf hT f1 ?_)
  show wpAny _ A (if (Manifest.canonical "object.__getattribute__" != "object.__getattribute__") = true then _ else _) Q E _
  rw [FF.canon_ga, if_neg Bool.false_ne_true]
  repeat (any_goals (first | assumption | wp_step))
  refine codeAny_call_builtin FF.slot_ga.plain PySem.F.entry_object_getattribute (FF.slot_ga.check _ _ _ _ _ _ _ _ hT1 (FF.args_ga _ _) (fn_entry hm hnm hv ?_))
  repeat (any_goals (first | assumption | wp_step))
end
end Mine

-- part: MjFn2
namespace Mine
open Builtin Builtin.ObjectAttr
namespace FF
theorem mro : mroOf (.type "function") = pure [.type "function", .type "object"] := by kernel_rfl
theorem passes (self : Value) : refuseLoop self "__setattr__" [.type "function", .type "object"] = pure () := by
  kernel_rfl
theorem hasDict : typeHasDict (.type "function") = true := by kernel_rfl
theorem notFin : finalisedInACycleAlone "function" = false := by decide +kernel
end FF
section
variable {prog : Program} {w : World} {A : Around} {E : Value → Shared → Prop} {h : Heap} {g : Array GenState} {d : Drawn} {t : Nat} {os : OsState} {f D : Addr} {md : Str → Option Value}

theorem truthy_fn {o : Obj} {s : Shared} {Q : Bool → Shared → Prop} (ho : s.heap.get? f = some o) (hc : o.cls = .type "function") (hq : Q true s) : wpAny (model prog w) A (truthy (.ref f)) Q E s := by
  have hT : s.TypeIs (.ref f) "function" := ⟨_, ho, hc⟩
  unfold truthy
  refine wpAny_bind (wpAny_callSpecial?_none hT FF.lk_bool ?_)
  refine wpAny_bind (wpAny_specialOf hT FF.lk_len ?_)
  exact wpAny_pure hq

theorem fn_store_entry {name : Str} {tk : Tok} {v : Value} {fd : FuncData} {sl : Array (Option Value)} {Q : Fin → Shared → Prop}
    (hf : h.get? f = some { cls := .type "function", dict := none, data := .func fd, slots := sl }) (hnm : typeLookup (.type "function") name = pure none)
    (hq : ∀ h' tk' D', h'.get? f = some { cls := .type "function", dict := some D', data := .func fd, slots := sl } → h'.Ns D' (fun y => if y = name then some v else none) → D' = h.objs.size →
      (∀ b o, b ≠ f → h.get? b = some o → h'.get? b = some o) → Q (.done (.ret .none)) ⟨h', g, d, tk', os⟩) :
    wpAny (model prog w) A (Builtin.«object.__setattr__» ⟨[.ref f, .str name tk, v], []⟩) Q E ⟨h, g, d, t, os⟩ := by
  have hT : (⟨h, g, d, t, os⟩ : Shared).TypeIs (.ref f) "function" := ⟨_, hf, rfl⟩
  have hpass := FF.passes (.ref f)
  have hmro := FF.mro
  have hfs : f ≠ h.objs.size := Nat.ne_of_lt (Heap.lt_size hf)
  have hpush : (h.push { cls := .type "dict", data := .dict #[] }).get? f = some { cls := .type "function", dict := none, data := .func fd, slots := sl } := Heap.get?_push_of_some _ hf
  unfold Builtin.«object.__setattr__»
  refine wpAny_bind (m := refuseIfOverridden (.ref f) "__setattr__") ?_
  · rw [refuse_eq]
    refine wpAny_bind (wpAny_typeOf hT ?_)
    rw [hmro]
    refine wpAny_bind (wpAny_pure ?_)
    rw [hpass]
    refine wpAny_pure ?_
    refine wpAny_bind (m := attrName (.str name tk)) (wpAny_pure ?_)
    refine wpAny_bind (wpAny_typeOf hT ?_)
    refine wpAny_bind (wpAny_of_eq hnm ?_)
    refine wpAny_bind (m := storeTaker? none) (wpAny_pure ?_)
    show wpAny _ A (storeInOwnDict (.ref f) (.type "function") (.str name tk) name v false) Q E _
    unfold storeInOwnDict
    refine wpAny_bind (m := ownStreamTells _ _) ?_
    refine wpAny_of_eq (a := ()) (by rfl) ?_
    show wpAny _ A (ownDictForStores (.ref f) >>= _) Q E _
    refine wpAny_bind ?_
    show wpAny _ A (instanceDict f true) _ E _
    unfold instanceDict
    refine wpAny_bind (wpAny_loadPart hf ?_)
    show wpAny _ A (if (!true || !typeHasDict (.type "function")) = true then _ else _) _ E _
    rw [FF.hasDict, if_neg (by decide)]
    refine wpAny_bind (wpAny_alloc' ?_)
    refine wpAny_bind (wpAny_update' hpush ?_)
    show wpAny _ A (dictMade (.type "function") f h.objs.size) _ E _
    unfold dictMade
    show wpAny _ A (if finalisedInACycleAlone "function" = true then _ else _) _ E _
    rw [FF.notFin, if_neg Bool.false_ne_true]
    refine wpAny_pure ?_
    show wpAny _ _ (storeInDict h.objs.size (.str name tk) name v) _ _ _
    have hgd : ((h.push { cls := .type "dict", data := .dict #[] }).update f fun o => { cls := o.cls, dict := some h.objs.size, data := o.data, slots := o.slots }).get? h.objs.size
        = some { cls := .type "dict", data := .dict #[] } :=
      (Heap.get?_update_ne _ _ _ _ hfs.symm).trans (Heap.get?_push_at rfl rfl)
    have hnd : ((h.push { cls := .type "dict", data := .dict #[] }).update f fun o => { cls := o.cls, dict := some h.objs.size, data := o.data, slots := o.slots }).Ns h.objs.size (fun _ => none) :=
      ⟨_, #[], _, hgd, rfl, fun e he => absurd he (by simp), fun _ => rfl⟩
    unfold storeInDict newKeyGuard
    refine wpAny_bind (wpAny_pure (wpAny_bind (wpAny_nsSet1 (Heap.Ns1.of_empty hnd) fun h' hn' hs => ?_)))
    obtain ⟨oD, esD, epD, hoD, hdD, hcD⟩ := hn'.count (Within.cons name v Within.nil)
    refine wpAny_bind (wpAny_lookBehind hoD (by rw [hdD]; exact pastItsLine_dict (Nat.le_trans hcD (by rw [List.length_cons, List.length_nil, sizeLine_eq]; omega))) ?_)
    refine wpAny_pure ?_
    refine hq h' _ h.objs.size ?_ ?_ ?_ ?_
    · exact (hs.2 f hfs).trans (Heap.get?_update_self _ hpush rfl)
    · obtain ⟨o', es, ep, e1, e2, e3, eu, e4⟩ := hn'
      exact ⟨o', es, ep, e1, e2, e3, e4⟩
    · rfl
    · intro b o hb e
      exact (hs.2 b (Nat.ne_of_lt (Heap.lt_size e))).trans ((Heap.get?_update_ne _ _ _ _ hb).trans (Heap.get?_push_of_some _ e))

theorem setAttr_fn {name : Str} {v : Value} {fd : FuncData} {sl : Array (Option Value)} {Q : Unit → Shared → Prop}
    (hf : h.get? f = some { cls := .type "function", dict := none, data := .func fd, slots := sl }) (hnm : typeLookup (.type "function") name = pure none)
    (hq : ∀ h' tk' D', h'.get? f = some { cls := .type "function", dict := some D', data := .func fd, slots := sl } → h'.Ns D' (fun y => if y = name then some v else none) → D' = h.objs.size →
      (∀ b o, b ≠ f → h.get? b = some o → h'.get? b = some o) → Q () ⟨h', g, d, tk', os⟩) :
    wpAny (model prog w) A (setAttr (.ref f) name v) Q E ⟨h, g, d, t, os⟩ := by
  have hT : (⟨h, g, d, t + 1, os⟩ : Shared).TypeIs (.ref f) "function" := ⟨_, hf, rfl⟩
  unfold setAttr
  refine wpAny_bind (wpAny_mkText ?_)
  show wpAny _ A (callSpecial? (.ref f) "__setattr__" [.str name t, v] >>= _) Q E ⟨h, g, d, t + 1, os⟩
  refine wpAny_bind (wpAny_callSpecial?_slot hT FF.slot_sa (wpAny_call ?_))
  refine codeAny_call_builtin FF.slot_sa.plain PySem.F.entry_object_setattr (FF.slot_sa.check _ _ _ _ _ _ _ _ hT (FF.args_sa _ _ _) (fn_store_entry hf hnm fun h' tk' D' a b c e => ?_))
  exact wpAny_pure (hq h' tk' D' a b c e)
end
end Mine

-- part: MjDefs
namespace Mine

/-! parts of the text, taken out by projections -/
abbrev P0 : Program := PySem.Challenge.pw_mj0023_01
def stName : Stmt → Str | .FunctionDef n .. => n | _ => default
def stArgs : Stmt → Arguments | .FunctionDef _ a .. => a | _ => default
def stBody : Stmt → List Stmt | .FunctionDef _ _ b .. => b | .For _ _ b _ _ => b | .While _ b _ _ => b | .If _ b _ _ => b | _ => []
def stScope : Stmt → Scope | .FunctionDef _ _ _ _ _ _ s _ _ _ => s | _ => default
def stPos : Stmt → Pos | .FunctionDef _ _ _ _ _ _ _ _ _ p => p | .Assign _ _ p => p | _ => default
def stVal : Stmt → Expr | .Assign _ v _ => v | .Expr v _ => v | .If t .. => t | .While t .. => t | .For _ i .. => i | .Return (some e) _ => e | _ => default
def lamArgs : Expr → Arguments | .Lambda a _ _ _ => a | _ => default
def lamBody : Expr → Expr | .Lambda _ b _ _ => b | _ => default
def lamScope : Expr → Scope | .Lambda _ _ s _ => s | _ => default
def lamPos : Expr → Pos | .Lambda _ _ _ p => p | _ => default

abbrev srS : Stmt := P0.main.body.getD 1 default
abbrev hitS : Stmt := P0.main.body.getD 3 default
abbrev lawS : Stmt := P0.main.body.getD 4 default
abbrev seS : Stmt := (stBody lawS).getD 5 default

abbrev lam0 : Expr := stVal ((stBody hitS).getD 0 default)
abbrev lam1 : Expr := stVal ((stBody hitS).getD 1 default)
abbrev lam2 : Expr := stVal ((stBody lawS).getD 6 default)


/-- the cells of a function hold -/
def CellAt (h : Heap) (c : Addr) (v : Value) : Prop := h.IsCell c (some v)

end Mine

-- part: MjSpan
namespace Mine

abbrev spanFn (q : Str) (cF cB : Addr) (pm ct : Value) (c' : Addr) : FuncData :=
  kla_fn "<lambda>" q (lamArgs lam1) (lamBody lam1) (lamScope lam1) [("first", cF), ("behind", cB)] pm (.ref c') ct

def HitAt (g : Heap) (a : Addr) (f b : Int) : Prop :=
  ∃ D md l q pm ct c' cF cB tf tb dd sl, FnDict g a D md ∧ md "span" = some (.ref l) ∧ g.get? l = some ⟨.type "function", dd, .func (spanFn q cF cB pm ct c'), sl⟩ ∧
    g.CodeRec (.ref c') q ∧ g.IsCell cF (some (.int f tf)) ∧ g.IsCell cB (some (.int b tb))
theorem HitAt.keeps {g h : Heap} {a : Addr} {f b : Int} (x : HitAt g a f b) (k : ∀ b o, g.get? b = some o → h.get? b = some o) : HitAt h a f b :=
  let ⟨D, md, l, q, pm, ct, c', cF, cB, tf, tb, dd, sl, h1, h2, h3, h4, h5, h6⟩ := x
  ⟨D, md, l, q, pm, ct, c', cF, cB, tf, tb, dd, sl, h1.keeps k, h2, k _ _ h3, h4.keeps k, h5.keeps k, h6.keeps k⟩

section
variable {prog : Program} {w : World} {A : Around} {E : Value → Shared → Prop} {s : Shared}

theorem span_call {q : Str} {l cF cB c' : Addr} {pm ct : Value} {f b : Int} {tf tb : Tok} {dd : Option Addr} {sl : Array (Option Value)} {Q : Value → Shared → Prop}
    (hl : s.heap.get? l = some ⟨.type "function", dd, .func (spanFn q cF cB pm ct c'), sl⟩) (hcd : s.heap.CodeRec (.ref c') q)
    (hF : s.heap.IsCell cF (some (.int f tf))) (hB : s.heap.IsCell cB (some (.int b tb))) (hlim : s.heap.NoLimit) (hroom : A.depth < recursionLimit)
    (hQ : ∀ T h' tk, (∀ b o, s.heap.get? b = some o → h'.get? b = some o) → s.heap.get? T = none → IsTup h' T #[.int f tf, .int b tb] → Q (.ref T) { s with heap := h', toks := tk }) :
    wpAny (model prog w) A (call (.ref l) []) Q E s := by
  refine wpAny_call (kla_callFunE (fd := spanFn q cF cB pm ct c') (body := lamBody lam1) hroom hl rfl rfl rfl rfl hcd ?_)
  rw [show bindArgs (spanFn q cF cB pm ct c') ⟨[], []⟩ = pure [] from rfl]
  refine wpAny_pure (wpAny_newFunctionEnv (show ∀ x ∈ (lamScope lam1).names, x.2 ≠ .cell by decide) (by intro x hx; cases hx) (fun h₁ hns hsb => ⟨hlim.fresh _ hsb, ?_⟩) rfl)
  refine kla_codeExpr ?_
  have hk : ∀ b o, s.heap.get? b = some o → h₁.get? b = some o := fun b o e => hsb.extBut b o (Nat.ne_of_lt (Heap.lt_size e)) (Heap.get?_push_of_some _ e)
  refine wpAny_Tuple ?_
  refine wpAny_items_cons ?_
  refine wpAny_Name (wpAny_loadName_free rfl rfl (c := cF) rfl (hF.keeps hk) ?_)
  refine wpAny_items_cons ?_
  refine wpAny_Name (wpAny_loadName_free rfl rfl (c := cB) rfl (hB.keeps hk) ?_)
  refine wpAny_items_nil ?_
  refine ⟨by size_fits, ?_⟩
  refine hQ _ _ _ (fun b o e => Heap.get?_push_of_some _ (hk b o e)) ?_ ⟨_, Heap.get?_push_size _ rfl, rfl, 0, rfl⟩
  refine Heap.get?_none_of_le ?_
  have := hsb.1
  rw [Heap.size_push] at this
  show s.heap.objs.size ≤ h₁.objs.size
  omega

theorem span_meth {a : Addr} {f b : Int} {pl : Sem Bool} {pos : Pos} {env : Env} {Q : Value → Shared → Prop} (H : HitAt s.heap a f b) (hlim : s.heap.NoLimit) (hroom : A.depth < recursionLimit)
    (hQ : ∀ T h' tk tf tb, (∀ b o, s.heap.get? b = some o → h'.get? b = some o) → s.heap.get? T = none → IsTup h' T #[.int f tf, .int b tb] → Q (.ref T) { s with heap := h', toks := tk }) :
    wpAny (model prog w) A (getMethod (.ref a) "span" pl) (fun fx s₂ => wpAny (model prog w) A (callWith pos fx.1 fx.2 (backTo pos (starEach [] env)) (backToKw pos (keywordEach [] env))) Q E s₂) E s := by
  obtain ⟨D, md, l, q, pm, ct, c', cF, cB, tf, tb, dd, sl, h1, h2, h3, h4, h5, h6⟩ := H
  refine getMethod_fn h1 FF.lk_span h2 rfl ?_
  refine callWith_F0 ⟨_, _, _, _, h3⟩ ?_
  exact span_call (s := { s with toks := s.toks + 1 }) h3 h4 h5 h6 hlim hroom fun T h' tk k n t => hQ T h' tk tf tb k n t
end
end Mine

-- part: MjLoop
namespace Mine

/-- from s to s' nothing changes but the objects at X, new objects, tokens -/
def Upd (X : List Addr) (s s' : Shared) : Prop := ∃ h' tk, s' = { s with heap := h', toks := tk } ∧ ∀ b o, b ∉ X → s.heap.get? b = some o → h'.get? b = some o
theorem Upd.refl (X : List Addr) (s : Shared) : Upd X s s := ⟨s.heap, s.toks, rfl, fun _ _ _ e => e⟩
theorem Upd.trans {X : List Addr} {s s' s'' : Shared} (x : Upd X s s') (y : Upd X s' s'') : Upd X s s'' := by
  obtain ⟨h', tk, rfl, k⟩ := x
  obtain ⟨h'', tk', rfl, k'⟩ := y
  exact ⟨h'', tk', rfl, fun b o hb e => k' b o hb (k b o hb e)⟩
theorem Upd.mono {X Y : List Addr} {s s' : Shared} (x : Upd X s s') (h : ∀ b ∈ X, b ∈ Y) : Upd Y s s' := by
  obtain ⟨h', tk, rfl, k⟩ := x
  exact ⟨h', tk, rfl, fun b o hb e => k b o (fun q => hb (h b q)) e⟩
/-- what was new at s may be left out -/
theorem Upd.drop {X Y : List Addr} {s s' : Shared} (x : Upd Y s s') (h : ∀ b ∈ Y, b ∈ X ∨ s.heap.get? b = none) : Upd X s s' := by
  obtain ⟨h', tk, rfl, k⟩ := x
  refine ⟨h', tk, rfl, fun b o hb e => k b o (fun q => ?_) e⟩
  rcases h b q with r | r
  · exact hb r
  · rw [r] at e; cases e
theorem Upd.keep {X : List Addr} {s s' : Shared} (x : Upd X s s') {b : Addr} {o : Obj} (hb : b ∉ X) (e : s.heap.get? b = some o) : s'.heap.get? b = some o := by
  obtain ⟨h', tk, rfl, k⟩ := x
  exact k b o hb e
theorem Upd.nil_keep {s s' : Shared} (x : Upd [] s s') : ∀ b o, s.heap.get? b = some o → s'.heap.get? b = some o := fun _ _ e => x.keep List.not_mem_nil e
theorem Upd.of {X : List Addr} {s : Shared} {h' : Heap} {tk : Nat} (k : ∀ b o, b ∉ X → s.heap.get? b = some o → h'.get? b = some o) : Upd X s { s with heap := h', toks := tk } := ⟨h', tk, rfl, k⟩
theorem Upd.of0 {X : List Addr} {s : Shared} {h' : Heap} {tk : Nat} (k : ∀ b o, s.heap.get? b = some o → h'.get? b = some o) : Upd X s { s with heap := h', toks := tk } := ⟨h', tk, rfl, fun b o _ e => k b o e⟩
theorem Upd.same {a : Addr} {s : Shared} {h' : Heap} {tk : Nat} (k : Heap.SameBut a s.heap h') : Upd [a] s { s with heap := h', toks := tk } :=
  ⟨h', tk, rfl, fun b o hb e => (k.2 b (fun q => hb (by rw [q]; exact .head _))).trans e⟩
theorem Upd.toks (X : List Addr) (s : Shared) (tk : Nat) : Upd X s { s with toks := tk } := ⟨s.heap, tk, rfl, fun _ _ _ e => e⟩

/-- a ghost heap is kept by what changes only what it does not hold -/
theorem Upd.ghost {X : List Addr} {s s' : Shared} {g : Heap} (x : Upd X s s') (hX : ∀ b ∈ X, g.get? b = none) (k : ∀ b o, g.get? b = some o → s.heap.get? b = some o) :
    ∀ b o, g.get? b = some o → s'.heap.get? b = some o := fun b o e => x.keep (fun q => by rw [hX b q] at e; cases e) (k b o e)

theorem Upd.thenNew {X wr : List Addr} {s₁ s s' : Shared} (x : Upd X s₁ s) (y : Upd wr s s') (hnew : ∀ b ∈ wr, s₁.heap.get? b = none) : Upd X s₁ s' := by
  obtain ⟨h, t, rfl, k⟩ := x
  obtain ⟨h', tk, rfl, k'⟩ := y
  exact ⟨h', tk, rfl, fun b o hb e => k' b o (fun q => by rw [hnew b q] at e; cases e) (k b o hb e)⟩

section
variable {prog : Program} {w : World} {A : Around} {E : Value → Shared → Prop}

/-- a for loop over anything that Walks knows, by a word over the objects at X -/
theorem for_walk {R : Result → Shared → Prop} {target : Expr} {body : List Stmt} {env : Env} {I : Addr} {fp wr X : List Addr} {n : Nat} {P : Nat → Value → Prop} {St : Nat → Heap → Prop} {s₁ s : Shared}
    (W : Walks prog w A I fp wr n P St) (M : Nat → Heap → Prop) (hM : ∀ i h h', M i h → (∀ b o, b ∉ wr → h.get? b = some o → h'.get? b = some o) → M i h')
    (hfX : ∀ b ∈ fp, b ∉ X) (hnew : ∀ b ∈ wr, s₁.heap.get? b = none)
    (turn : ∀ i v s₂, i < n → P i v → Upd X s₁ s₂ → M i s₂.heap → ∀ E', wpAny (model prog w) A (assign target env v) (fun _ s₃ => wpAny (model prog w) A (execs body env) (fun f s₄ => match f with
        | .next | .cont => Upd X s₂ s₄ ∧ M (i + 1) s₄.heap
        | .brk => R (.ok .next) s₄
        | .ret v => R (.ok (.ret v)) s₄) E' s₃) E' s₂)
    (done : ∀ s₂, Upd X s₁ s₂ → M n s₂.heap → R (.ok .next) s₂)
    (h0 : Upd X s₁ s) (hM0 : M 0 s.heap) (hSt : St 0 s.heap) (hgo : ∀ i (s' : Shared) v (Q' : Unit → Shared → Prop) (E' : Value → Shared → Prop), St i s'.heap → Q' () s' → wpAny (model prog w) A (letOwnedTupleGo target (.ref I) v) Q' E' s') :
    codeAny (model prog w) A (.forLoop target (.ref I) body [] env) R s := by
  refine codeAny_forLoop_any (fun k s' => ∃ i, k = n + 1 - i ∧ i ≤ n ∧ Upd X s₁ s' ∧ M i s'.heap ∧ St i s'.heap) ?_ (n + 1) ⟨0, by omega, Nat.zero_le _, h0, hM0, hSt⟩
  rintro k s' ⟨i, rfl, hi, hU, hMi, hSi⟩
  by_cases hlt : i < n
  · refine W.item i _ _ _ hlt hSi fun v h' tk hP hS' hk => ?_
    have V : Upd wr s' { s' with heap := h', toks := tk } := Upd.of hk
    refine hgo (i + 1) _ _ _ _ hS' ?_
    refine wpAny_mono (turn i v _ hlt hP (hU.thenNew V hnew) (hM i _ _ hMi hk) _) (fun _ s₃ h₃ => wpAny_mono h₃ (fun f s₄ h₄ => ?_) fun _ _ e => e) fun _ _ e => e
    have nx : Upd X { s' with heap := h', toks := tk } s₄ ∧ M (i + 1) s₄.heap → ∃ m, m < n + 1 - i ∧ ∃ j, m = n + 1 - j ∧ j ≤ n ∧ Upd X s₁ s₄ ∧ M j s₄.heap ∧ St j s₄.heap := fun ⟨U4, M4⟩ =>
      ⟨n + 1 - (i + 1), by omega, i + 1, rfl, hlt, (hU.thenNew V hnew).trans U4, M4, W.frame _ _ _ hS' fun b hb o e => U4.keep (hfX b hb) e⟩
    cases f with
    | next => exact nx h₄
    | cont => exact nx h₄
    | brk => exact h₄
    | ret v => exact h₄
  · have hin : i = n := by omega
    subst hin
    refine W.done _ _ _ hSi fun h' tk hk => wpAny_execs_nil ?_
    have V : Upd wr s' { s' with heap := h', toks := tk } := Upd.of hk
    exact done _ (hU.thenNew V hnew) (hM i _ _ hMi hk)

/-- a while loop by a word and a measure -/
theorem while_inv {R : Result → Shared → Prop} {test : Expr} {body : List Stmt} {env : Env} (I : Nat → Shared → Prop) {s : Shared}
    (turn : ∀ n s, I n s → ∀ E', wpAny (model prog w) A (isTrue test env (eval test env)) (fun b s₁ => if b = true then wpAny (model prog w) A (execs body env) (fun f s₂ => match f with
        | .next | .cont => ∃ m, m < n ∧ I m s₂
        | .brk => R (.ok .next) s₂
        | .ret v => R (.ok (.ret v)) s₂) E' s₁ else R (.ok .next) s₁) E' s)
    (n : Nat) (h : I n s) : codeAny (model prog w) A (.whileLoop test body [] env) R s := by
  refine codeAny_loop rfl I (fun n s hI => ?_) n h
  show wpAny _ _ ((whileTurn test body [] env).onRaise (fun x => do noteFrame x env; theTreesLotGoes x)) _ _ s
  refine wpAny_noted ?_
  unfold whileTurn
  refine wpAny_bind (wpAny_mono (turn n s hI _) (fun b s₁ h₁ => ?_) fun _ _ e => e)
  cases b with
  | true =>
    refine wpAny_bind (wpAny_mono h₁ (fun f s₂ h₂ => ?_) fun _ _ e => e)
    cases f with
    | next => exact wpAny_pure ⟨rfl, h₂⟩
    | cont => exact wpAny_pure ⟨rfl, h₂⟩
    | brk => exact wpAny_pure h₂
    | ret v => exact wpAny_pure h₂
  | false => exact wpAny_bind (wpAny_execs_nil (wpAny_pure h₁))

theorem compLoop_any {R : Result → Shared → Prop} {s : Shared} {elt target iter : Expr} {ifs : List Expr} {scope : Scope} {pos : Pos} {it acc : Value} {env : Env} (I : Nat → Shared → Prop)
    (turn : ∀ n s, I n s → wpAny (model prog w) A (pyNext it) (fun r s₁ => match r with
      | none => R (.ok .next) s₁
      | some v => wpAny (model prog w) A (letOwnedTupleGo target it v) (fun _ s₁' => wpAny (model prog w) A (assign target env v) (fun _ s₂ =>
          wpAny (model prog w) A (forIn ifs true fun c r => if r = true then do let ok ← isTrue c env (eval c env); pure (ForInStep.yield ok) else pure (ForInStep.yield r)) (fun ok s₃ =>
            if ok = true then wpAny (model prog w) A (eval elt env) (fun x s₄ =>
              wpAny (model prog w) A (call (.builtin "list.append") [acc, x]) (fun _ s₅ => ∃ m, m < n ∧ I m s₅) (notedBy (model prog w) A env fun e s' => R (.error e) s') s₄) (notedBy (model prog w) A env fun e s' => R (.error e) s') s₃
            else ∃ m, m < n ∧ I m s₃) (notedBy (model prog w) A env fun e s' => R (.error e) s') s₂) (notedBy (model prog w) A env fun e s' => R (.error e) s') s₁') (notedBy (model prog w) A env fun e s' => R (.error e) s') s₁) (notedBy (model prog w) A env fun e s' => R (.error e) s') s)
    (n : Nat) (h : I n s) :
    codeAny (model prog w) A (.compLoop (.ListComp elt [⟨target, iter, ifs, 0⟩] scope pos) 0 it acc env) R s := by
  refine codeAny_loop rfl I (fun n s hI => ?_) n h
  show wpAny _ A ((compTurn (.ListComp elt [⟨target, iter, ifs, 0⟩] scope pos) 0 it acc env).onRaise (fun x => do noteFrame x env; theTreesLotGoes x)) _ _ s
  refine wpAny_noted ?_
  rw [compTurn_list]
  refine wpAny_bind (wpAny_standAt (wpAny_bind (wpAny_mono (turn n s hI) (fun r s₁ h₁ => ?_) fun _ _ h' => h')))
  cases r with
  | none => exact wpAny_pure h₁
  | some v =>
    refine wpAny_bind (wpAny_mono h₁ (fun _ s₁' h₁' => ?_) fun _ _ h' => h')
    refine wpAny_bind (wpAny_mono h₁' (fun _ s₂ h₂ => wpAny_bind (wpAny_mono h₂ (fun ok s₃ h₃ => ?_) fun _ _ h' => h')) fun _ _ h' => h')
    cases ok with
    | false => exact wpAny_pure ⟨rfl, h₃⟩
    | true =>
      exact wpAny_bind (wpAny_bind (wpAny_mono h₃ (fun x s₄ h₄ => wpAny_bind (wpAny_mono h₄ (fun _ s₅ h₅ => wpAny_pure (wpAny_pure ⟨rfl, h₅⟩)) fun _ _ h' => h')) fun _ _ h' => h'))

theorem letGo_listiter {target : Expr} {I l : Addr} {i : Nat} {v : Value} {Q' : Unit → Shared → Prop} {s' : Shared} (hit : s'.heap.IsListIter I l i) (h : Q' () s') :
    wpAny (model prog w) A (letOwnedTupleGo target (.ref I) v) Q' E s' := by
  obtain ⟨o, ho, hc, hd⟩ := hit
  unfold letOwnedTupleGo
  cases target <;> first
    | exact wpAny_pure h
    | (cases v <;> first
        | exact wpAny_pure h
        | (refine wpAny_bind (wpAny_load ho ?_)
           rw [hc, hd]
           exact wpAny_pure h))

/-- the loop of a list comprehension with one clause over anything that Walks knows -/
theorem comp_walk {R : Result → Shared → Prop} {elt target iter : Expr} {ifs : List Expr} {scope : Scope} {pos : Pos} {env : Env} {I : Addr} {acc : Value} {fp wr X : List Addr} {n : Nat} {P : Nat → Value → Prop} {St : Nat → Heap → Prop} {s₁ s : Shared}
    (W : Walks prog w A I fp wr n P St) (M : Nat → Heap → Prop) (hM : ∀ i h h', M i h → (∀ b o, b ∉ wr → h.get? b = some o → h'.get? b = some o) → M i h')
    (hfX : ∀ b ∈ fp, b ∉ X) (hnew : ∀ b ∈ wr, s₁.heap.get? b = none)
    (turn : ∀ i v s₂, i < n → P i v → Upd X s₁ s₂ → M i s₂.heap → ∀ E', wpAny (model prog w) A (assign target env v) (fun _ s₃ =>
        wpAny (model prog w) A (forIn ifs true fun c r => if r = true then do let ok ← isTrue c env (eval c env); pure (ForInStep.yield ok) else pure (ForInStep.yield r)) (fun ok s₄ =>
            if ok = true then wpAny (model prog w) A (eval elt env) (fun x s₅ =>
              wpAny (model prog w) A (call (.builtin "list.append") [acc, x]) (fun _ s₆ => Upd X s₂ s₆ ∧ M (i + 1) s₆.heap) E' s₅) E' s₄
            else Upd X s₂ s₄ ∧ M (i + 1) s₄.heap) E' s₃) E' s₂)
    (done : ∀ s₂, Upd X s₁ s₂ → M n s₂.heap → R (.ok .next) s₂)
    (h0 : Upd X s₁ s) (hM0 : M 0 s.heap) (hSt : St 0 s.heap) (hgo : ∀ i (s' : Shared) v (Q' : Unit → Shared → Prop) (E' : Value → Shared → Prop), St i s'.heap → Q' () s' → wpAny (model prog w) A (letOwnedTupleGo target (.ref I) v) Q' E' s') :
    codeAny (model prog w) A (.compLoop (.ListComp elt [⟨target, iter, ifs, 0⟩] scope pos) 0 (.ref I) acc env) R s := by
  refine compLoop_any (fun k s' => ∃ i, k = n + 1 - i ∧ i ≤ n ∧ Upd X s₁ s' ∧ M i s'.heap ∧ St i s'.heap) ?_ (n + 1) ⟨0, by omega, Nat.zero_le _, h0, hM0, hSt⟩
  rintro k s' ⟨i, rfl, hi, hU, hMi, hSi⟩
  by_cases hlt : i < n
  · refine W.item i _ _ _ hlt hSi fun v h' tk hP hS' hk => ?_
    have V : Upd wr s' { s' with heap := h', toks := tk } := Upd.of hk
    have nx : ∀ s₄, Upd X { s' with heap := h', toks := tk } s₄ ∧ M (i + 1) s₄.heap → ∃ m, m < n + 1 - i ∧ ∃ j, m = n + 1 - j ∧ j ≤ n ∧ Upd X s₁ s₄ ∧ M j s₄.heap ∧ St j s₄.heap := fun s₄ ⟨U4, M4⟩ =>
      ⟨n + 1 - (i + 1), by omega, i + 1, rfl, hlt, (hU.thenNew V hnew).trans U4, M4, W.frame _ _ _ hS' fun b hb o e => U4.keep (hfX b hb) e⟩
    refine hgo (i + 1) _ _ _ _ hS' ?_
    refine wpAny_mono (turn i v _ hlt hP (hU.thenNew V hnew) (hM i _ _ hMi hk) _) (fun _ s₃ h₃ => wpAny_mono h₃ (fun ok s₄ h₄ => ?_) fun _ _ e => e) fun _ _ e => e
    cases ok with
    | true => exact wpAny_mono h₄ (fun x s₅ h₅ => wpAny_mono h₅ (fun _ s₆ h₆ => nx s₆ h₆) fun _ _ e => e) fun _ _ e => e
    | false => exact nx s₄ h₄
  · have hin : i = n := by omega
    subst hin
    refine W.done _ _ _ hSi fun h' tk hk => ?_
    have V : Upd wr s' { s' with heap := h', toks := tk } := Upd.of hk
    exact done _ (hU.thenNew V hnew) (hM i _ _ hMi hk)

/-- a for loop over a range object by ones -/
theorem range_for {R : Result → Shared → Prop} {target : Expr} {body : List Stmt} {env : Env} {X : List Addr} {r : Addr} {a b : Int} {n : Nat} {t u v : Tok} {s₁ s : Shared} (hh : A.handled = none)
    (hr : IsRange s.heap r a b 1 t u v) (hn : (n : Int) = if a < b then b - a else 0) (ha : -(2 ^ 62) ≤ a) (ha' : a < 2 ^ 62) (hb : -(2 ^ 62) ≤ b) (hb' : b < 2 ^ 62)
    (hU : Upd X s₁ s) (M : Nat → Heap → Prop) (hM : ∀ i h h', M i h → (∀ b ∈ X, ∀ o, h.get? b = some o → h'.get? b = some o) → M i h') (hX : ∀ b ∈ X, b < s.heap.objs.size) (hs1 : ∀ b o, s₁.heap.get? b = some o → b < s.heap.objs.size)
    (turn : ∀ (i : Nat) tk s₂, i < n → Upd X s₁ s₂ → M i s₂.heap → ∀ E', wpAny (model prog w) A (assign target env (.int (a + i) tk)) (fun _ s₃ => wpAny (model prog w) A (execs body env) (fun f s₄ => match f with
        | .next | .cont => Upd X s₂ s₄ ∧ M (i + 1) s₄.heap
        | .brk => R (.ok .next) s₄
        | .ret v => R (.ok (.ret v)) s₄) E' s₃) E' s₂)
    (done : ∀ s₂, Upd X s₁ s₂ → M n s₂.heap → R (.ok .next) s₂) (hM0 : M 0 s.heap) (ht : ∀ it v, letOwnedTupleGo target (.ref it) v = pure () := by intro _ _; rfl) :
    wpAny (model prog w) A (pyIter (.ref r)) (fun it s₂ => codeAny (model prog w) A (.forLoop target it body [] env) R s₂) E s := by
  refine wpAny_pyIter_range hr (small_one ha ha' hb hb') ?_
  have hsz : Builtin.Range.rangeSize a b 1 = (n : Int) := by rw [rangeSize_one]; omega
  have hnew : s₁.heap.get? s.heap.objs.size = none := by
    cases q : s₁.heap.get? s.heap.objs.size with
    | none => rfl
    | some o => exact absurd (hs1 _ _ q) (Nat.lt_irrefl _)
  have hP : ∀ b o, s.heap.get? b = some o → (s.heap.push { cls := .type "range_iterator", data := .fields #[rawInt a, rawInt (Builtin.Range.rangeSize a b 1), rawInt 1] }).get? b = some o := fun b o e => Heap.get?_push_of_some _ e
  refine for_walk (X := X) (s₁ := s₁) (Walks.range hh s.heap.objs.size a 1 n) M (fun i h h' x kk => hM i h h' x fun b hb o e => kk b o (fun z => by
    rcases List.mem_cons.mp z with rfl | z
    · exact absurd (hX _ hb) (Nat.lt_irrefl _)
    · cases z) e) ?_ ?_ ?_ done ?_ ?_ ?_ (fun _ _ v _ _ _ hq => wpAny_of_eq (ht _ v) hq)
  · intro b hb hbX
    rcases List.mem_cons.mp hb with rfl | hb
    · exact absurd (hX _ hbX) (Nat.lt_irrefl _)
    · cases hb
  · intro b hb
    rcases List.mem_cons.mp hb with rfl | hb
    · exact hnew
    · cases hb
  · intro i v s₂ hi hv U Mi E'
    obtain ⟨tk, rfl⟩ := hv
    have := turn i tk s₂ hi U Mi E'
    rw [Int.mul_one]
    exact this
  · exact hU.trans (Upd.of0 (tk := s.toks) fun b o e => Heap.get?_push_of_some _ e)
  · exact hM 0 _ _ hM0 fun b _ o e => Heap.get?_push_of_some _ e
  · have e1 : (a + ((0 : Nat) : Int) * 1) = a := by simp
    have e2 : ((n : Int) - ((0 : Nat) : Int)) = Builtin.Range.rangeSize a b 1 := by rw [hsz]; simp
    rw [e1, e2]
    exact Heap.get?_push_size _ rfl

theorem hide_keep {Z : List Addr} {h h' : Heap} (k : ∀ b o, b ∉ Z → h.get? b = some o → h'.get? b = some o) : ∀ b o, (hideAll h Z).get? b = some o → (hideAll h' Z).get? b = some o := fun b o e => by
  have hb : b ∉ Z := fun z => by rw [hideAll_none Z z] at e; cases e
  exact hideAll_get Z (k b o hb (of_hideAll Z e)) hb
theorem Upd.hide {X Z : List Addr} {s s' : Shared} (U : Upd X s s') (hZ : ∀ b ∈ X, b ∈ Z) : ∀ b o, (hideAll s.heap Z).get? b = some o → (hideAll s'.heap Z).get? b = some o :=
  hide_keep fun b o hb e => U.keep (fun q => hb (hZ b q)) e
theorem hide_less {Y Z : List Addr} {h : Heap} (hZ : ∀ b ∈ Y, b ∈ Z) : ∀ b o, (hideAll h Z).get? b = some o → (hideAll h Y).get? b = some o := fun b o e => by
  have hb : b ∉ Z := fun z => by rw [hideAll_none Z z] at e; cases e
  exact hideAll_get Y (of_hideAll Z e) fun q => hb (hZ b q)
theorem ghost_hide {g h : Heap} {Z : List Addr} (k : ∀ b o, g.get? b = some o → h.get? b = some o) (out : ∀ b ∈ Z, g.get? b = none) : ∀ b o, g.get? b = some o → (hideAll h Z).get? b = some o := fun b o e =>
  hideAll_get Z (k b o e) fun z => by rw [out b z] at e; cases e

theorem append_pl {s : Shared} {l : Addr} {items : Array Value} {x : Value} {Q : Value → Shared → Prop} (hl : s.heap.PlainList l items) (hsz : items.size ≤ 100000)
    (hQ : ∀ h', h'.PlainList l (items.push x) → Heap.SameBut l s.heap h' → Q .none { s with heap := h' }) :
    wpAny (model prog w) A (call (.builtin "list.append") [.ref l, x]) Q E s := by
  obtain ⟨n, ho⟩ := id hl
  refine wpAny_call_entry slot_list_append hl.isList.typeIs entry_list_append ?_ (args_list_append _ _)
  show wpAny _ _ (updateSeq l (·.push x) >>= fun _ => ret .none) _ _ s
  refine wpAny_bind ?_
  refine wpAny_updateSeq ho rfl (wpAny_pure ⟨.none, rfl, hQ _ ?_ (Heap.SameBut.update ..)⟩) (by rw [sizeLine_eq]; omega)
  exact ⟨_, Heap.get?_update_self _ ho rfl⟩

/-- a list comprehension over a list, by a word over what it may change (Mx, at X) and a word of what it has made (Fz) -/
theorem comp_coreN {RR : Value → Addr → Result → Shared → Prop} {elt target iter : Expr} {ifs : List Expr} {scope : Scope} {pos : Pos} {env : Env} {cl : List (Str × Addr)} {X : List Addr} {ax : Addr} {items : Array Value} {s₁ : Shared} (hh : A.handled = none)
    (hcell : ∀ x ∈ scope.names, x.2 ≠ .cell) (hkind : scope.kind = .function)
    (N : Nat → Array Value → Heap → Heap → Prop) (hN : ∀ i ys h h' g g', N i ys h g → (∀ b ∈ X, ∀ o, h.get? b = some o → h'.get? b = some o) → (∀ b o, g.get? b = some o → g'.get? b = some o) → N i ys h' g')
    (hl : s₁.heap.IsList ax items) (hax : ax ∉ X) (hX : ∀ b ∈ X, b < s₁.heap.objs.size) (hsz : items.size ≤ 1000) (hN0 : ∀ Z, N 0 #[] s₁.heap (hideAll s₁.heap Z))
    (turn : ∀ C Z i v s₂ m₂ ys, s₁.heap.objs.size ≤ C → (∀ b ∈ C :: X, b ∈ Z) → (∀ b ∈ Z, b ≤ C) → items[i]? = some v → ys.size ≤ i → Upd X s₁ s₂ → N i ys s₂.heap (hideAll s₂.heap Z) → s₂.heap.Ns C m₂ → ∀ E',
      wpAny (model prog w) A (assign target (compEnvC scope cl C env) v) (fun _ s₃ =>
        wpAny (model prog w) A (forIn ifs true fun c r => if r = true then do let ok ← isTrue c (compEnvC scope cl C env) (eval c (compEnvC scope cl C env)); pure (ForInStep.yield ok) else pure (ForInStep.yield r)) (fun ok s₄ =>
            if ok = true then wpAny (model prog w) A (eval elt (compEnvC scope cl C env)) (fun y s₅ =>
              Upd (C :: X) s₂ s₅ ∧ (∃ m, s₅.heap.Ns C m) ∧ N (i + 1) (ys.push y) s₅.heap (hideAll s₅.heap Z)) E' s₄
            else Upd (C :: X) s₂ s₄ ∧ (∃ m, s₄.heap.Ns C m) ∧ N (i + 1) ys s₄.heap (hideAll s₄.heap Z)) E' s₃) E' s₂)
    (done : ∀ C D s' m' ys, Upd X s₁ s' → s₁.heap.objs.size ≤ C → s₁.heap.objs.size ≤ D → C ≠ D → s'.heap.Ns C m' → s'.heap.PlainList D ys → ys.size ≤ items.size → N items.size ys s'.heap (hideAll s'.heap (C :: D :: X)) → RR (.ref D) C (.ok .next) s') :
    wpAny (model prog w) A (pyIter (.ref ax)) (fun it s₂ => wpAny (model prog w) A (newList []) (fun acc s₃ => wpAny (model prog w) A (newFunctionEnv scope env.globals cl [] env.qual none .none (some env)) (fun cenv s₄ =>
      codeAny (model prog w) A (.compStart (.ListComp elt [⟨target, iter, ifs, 0⟩] scope pos) 0 it acc { cenv with scope := relabel scope env }) (RR acc cenv.locals) s₄) E s₃) E s₂) E s₁ := by
  refine wpAny_pyIter_list hl ?_
  refine wpAny_newObj_type ?_ (by size_fits)
  refine wpAny_newFunctionEnv hcell (fun x hx => by cases hx) (fun h₄ hns hsb => ?_) hkind
  -- the three new objects
  have kk : ∀ b o, s₁.heap.get? b = some o → h₄.get? b = some o := fun b o e =>
    hsb.extBut b o (by simp only [Heap.size_push]; exact Nat.ne_of_lt (Nat.lt_succ_of_lt (Nat.lt_succ_of_lt (Heap.lt_size e)))) (Heap.get?_push_of_some _ (Heap.get?_push_of_some _ (Heap.get?_push_of_some _ e)))
  simp only [Heap.size_push] at hns hsb ⊢
  have hI : h₄.IsListIter s₁.heap.objs.size ax 0 := ⟨_, hsb.extBut _ _ (neN (by omega)) (Heap.get?_push_of_some _ (Heap.get?_push_of_some _ (Heap.get?_push_size _ rfl))), rfl, rfl⟩
  have hD : h₄.PlainList (s₁.heap.objs.size + 1) #[] := ⟨0, hsb.extBut _ _ (neN (by omega)) (Heap.get?_push_of_some _ (Heap.get?_push_at (by rw [Heap.size_push]) rfl))⟩
  have haxlt : ax < s₁.heap.objs.size := by obtain ⟨o, e, _⟩ := hl; exact Heap.lt_size e
  have hl4 : h₄.IsList ax items := let ⟨o, e, r⟩ := hl; ⟨o, kk _ _ e, r⟩
  have W : Walks prog w A s₁.heap.objs.size [s₁.heap.objs.size, ax] [s₁.heap.objs.size] items.size (fun i v => items[i]? = some v) (fun i h => h.IsListIter s₁.heap.objs.size ax i ∧ h.IsList ax items) :=
    Walks.list hh s₁.heap.objs.size ax (Nat.ne_of_lt haxlt) items
  have nX : ∀ b ∈ X, b ≠ s₁.heap.objs.size ∧ b ≠ s₁.heap.objs.size + 1 ∧ b ≠ s₁.heap.objs.size + 1 + 1 := fun b hb => by
    have h1 : b < s₁.heap.objs.size := hX b hb
    exact ⟨Nat.ne_of_lt h1, Nat.ne_of_lt (Nat.lt_succ_of_lt h1), Nat.ne_of_lt (Nat.lt_succ_of_lt (Nat.lt_succ_of_lt h1))⟩
  have U04 : Upd [] s₁ { s₁ with heap := h₄, toks := s₁.toks + ([] : List (Str × Value)).length } := Upd.of0 kk
  have key : codeAny (model prog w) A (.compLoop (.ListComp elt [⟨target, iter, ifs, 0⟩] scope pos) 0 (.ref s₁.heap.objs.size) (.ref (s₁.heap.objs.size + 1)) (compEnvC scope cl (s₁.heap.objs.size + 1 + 1) env)) (RR (.ref (s₁.heap.objs.size + 1)) (s₁.heap.objs.size + 1 + 1))
      { s₁ with heap := h₄, toks := s₁.toks + ([] : List (Str × Value)).length } := by
    refine comp_walk (X := (s₁.heap.objs.size + 1) :: (s₁.heap.objs.size + 1 + 1) :: X) (s₁ := s₁) W
      (fun i h => ∃ ys m, ys.size ≤ i ∧ h.PlainList (s₁.heap.objs.size + 1) ys ∧ h.Ns (s₁.heap.objs.size + 1 + 1) m ∧ N i ys h (hideAll h (s₁.heap.objs.size :: (s₁.heap.objs.size + 1 + 1) :: (s₁.heap.objs.size + 1) :: X))) ?_ ?_ ?_ ?_ ?_ ?_ ?_ ⟨hI, hl4⟩ (fun _ _ _ _ _ st hq => letGo_listiter st.1 hq)
    · rintro i h h' ⟨ys, m, a0, a1, a2, a3⟩ k
      have n1 : ∀ b, b ≠ s₁.heap.objs.size → b ∉ [s₁.heap.objs.size] := fun b hb z => by
        rcases List.mem_cons.mp z with z | z
        · exact hb z
        · cases z
      refine ⟨ys, m, a0, a1.at fun o e => k _ o (n1 _ (by omega)) e, a2.at' fun o e => k _ o (n1 _ (by omega)) e, hN _ _ _ _ _ _ a3 (fun b hb o e => k b o (n1 b (nX b hb).1) e) (hide_keep fun b o hb e => k b o (fun z => hb ?_) e)⟩
      rcases List.mem_cons.mp z with rfl | z
      · exact .head _
      · cases z
    · intro b hb hb2
      rcases List.mem_cons.mp hb with rfl | hb
      · rcases List.mem_cons.mp hb2 with z | hb2
        · exact absurd z (neN (by omega))
        · rcases List.mem_cons.mp hb2 with z | hb2
          · exact absurd z (neN (by omega))
          · exact (nX _ hb2).1 rfl
      · rcases List.mem_cons.mp hb with rfl | hb
        · rcases List.mem_cons.mp hb2 with z | hb2
          · rw [z] at haxlt; exact absurd haxlt (Nat.not_lt.mpr (Nat.le_succ _))
          · rcases List.mem_cons.mp hb2 with z | hb2
            · rw [z] at haxlt; exact absurd haxlt (Nat.not_lt.mpr (Nat.le_trans (Nat.le_succ _) (Nat.le_succ _)))
            · exact hax hb2
        · cases hb
    · intro b hb
      rcases List.mem_cons.mp hb with rfl | hb
      · exact Heap.get?_none_of_le (Nat.le_refl _)
      · cases hb
    · rintro i v s₂ hi hv U ⟨ys, m, a0, a1, a2, a3⟩ E'
      have U2 : Upd X s₁ s₂ := U.drop fun b hb => by
        rcases List.mem_cons.mp hb with rfl | hb
        · exact .inr (Heap.get?_none_of_le (Nat.le_succ _))
        · rcases List.mem_cons.mp hb with rfl | hb
          · exact .inr (Heap.get?_none_of_le (Nat.le_trans (Nat.le_succ _) (Nat.le_succ _)))
          · exact .inl hb
      have hClt : s₁.heap.objs.size + 1 + 1 < s₂.heap.objs.size := a2.lt
      have nD : s₁.heap.objs.size + 1 ∉ (s₁.heap.objs.size + 1 + 1) :: X := fun z => by
        rcases List.mem_cons.mp z with z | z
        · omega
        · exact (nX _ z).2.1 rfl
      have nC : s₁.heap.objs.size + 1 + 1 ∉ [s₁.heap.objs.size + 1] := fun z => by
        rcases List.mem_cons.mp z with z | z
        · omega
        · cases z
      have nXD : ∀ b ∈ X, b ∉ [s₁.heap.objs.size + 1] := fun b hb z => by
        rcases List.mem_cons.mp z with z | z
        · exact (nX b hb).2.1 z
        · cases z
      refine wpAny_mono (turn (s₁.heap.objs.size + 1 + 1) (s₁.heap.objs.size :: (s₁.heap.objs.size + 1 + 1) :: (s₁.heap.objs.size + 1) :: X) i v s₂ m ys (Nat.le_trans (Nat.le_succ _) (Nat.le_succ _)) ?_ ?_ hv a0 U2 a3 a2 E')
        (fun _ s₃ h₃ => wpAny_mono h₃ (fun ok s₄ h₄ => ?_) fun _ _ e => e) fun _ _ e => e
      · intro b hb
        rcases List.mem_cons.mp hb with rfl | hb
        · exact .tail _ (.head _)
        · exact .tail _ (.tail _ (.tail _ hb))
      · intro b hb
        rcases List.mem_cons.mp hb with rfl | hb
        · exact Nat.le_trans (Nat.le_succ _) (Nat.le_succ _)
        · rcases List.mem_cons.mp hb with rfl | hb
          · exact Nat.le_refl _
          · rcases List.mem_cons.mp hb with rfl | hb
            · exact Nat.le_succ _
            · exact Nat.le_trans (Nat.le_of_lt (hX b hb)) (Nat.le_trans (Nat.le_succ _) (Nat.le_succ _))
      cases ok with
      | false =>
        obtain ⟨V, ⟨m', b2⟩, b3⟩ := h₄
        exact ⟨V.mono fun b hb => .tail _ hb, ys, m', Nat.le_succ_of_le a0, a1.at fun o e => V.keep nD e, b2, b3⟩
      | true =>
        refine wpAny_mono h₄ (fun y s₅ h₅ => ?_) fun _ _ e => e
        obtain ⟨V, ⟨m', b2⟩, b3⟩ := h₅
        have a1' : s₅.heap.PlainList (s₁.heap.objs.size + 1) ys := a1.at fun o e => V.keep nD e
        refine append_pl a1' (by omega) fun h₆ hp hs => ?_
        have V6 : Upd [s₁.heap.objs.size + 1] s₅ { s₅ with heap := h₆ } := Upd.same (tk := s₅.toks) hs
        refine ⟨(V.mono fun b hb => .tail _ hb).trans (V6.mono fun b hb => ?_), ys.push y, m', ?_, hp, b2.at' fun o e => V6.keep nC e, hN _ _ _ _ _ _ b3 (fun b hb o e => V6.keep (nXD b hb) e) (V6.hide fun b hb => ?_)⟩
        · rcases List.mem_cons.mp hb with rfl | hb
          · exact .head _
          · cases hb
        · rw [Array.size_push]; omega
        · rcases List.mem_cons.mp hb with rfl | hb
          · exact .tail _ (.tail _ (.head _))
          · cases hb
    · rintro s₂ U ⟨ys, m, a0, a1, a2, a3⟩
      have U2 : Upd X s₁ s₂ := U.drop fun b hb => by
        rcases List.mem_cons.mp hb with rfl | hb
        · exact .inr (Heap.get?_none_of_le (Nat.le_succ _))
        · rcases List.mem_cons.mp hb with rfl | hb
          · exact .inr (Heap.get?_none_of_le (Nat.le_trans (Nat.le_succ _) (Nat.le_succ _)))
          · exact .inl hb
      exact done (s₁.heap.objs.size + 1 + 1) (s₁.heap.objs.size + 1) s₂ m ys U2 (Nat.le_trans (Nat.le_succ _) (Nat.le_succ _)) (Nat.le_succ _) (by omega) a2 a1 a0 (hN _ _ _ _ _ _ a3 (fun _ _ _ e => e) (hide_less fun b hb => .tail _ hb))
    · exact U04.mono fun b hb => by cases hb
    · exact ⟨#[], _, Nat.le_refl _, hD, hns, hN _ _ _ _ _ _ (hN0 _) (fun b _ o e => kk b o e) (hide_keep fun b o _ e => kk b o e)⟩
  refine codeAny_compStart_list key (wpAny_pyIter_listiter hI key)

/-- a list comprehension over a list, by a word over what it may change (Mx, at X) and a word of what it has made (Fz) -/
theorem comp_core {RR : Value → Addr → Result → Shared → Prop} {elt target iter : Expr} {ifs : List Expr} {scope : Scope} {pos : Pos} {env : Env} {cl : List (Str × Addr)} {X : List Addr} {ax : Addr} {items : Array Value} {s₁ : Shared} (hh : A.handled = none)
    (hcell : ∀ x ∈ scope.names, x.2 ≠ .cell) (hkind : scope.kind = .function)
    (Mx : Nat → Heap → Prop) (hMx : ∀ i h h', Mx i h → (∀ b ∈ X, ∀ o, h.get? b = some o → h'.get? b = some o) → Mx i h')
    (Fz : Nat → Array Value → Heap → Prop) (hFz : ∀ i ys g g', Fz i ys g → (∀ b o, g.get? b = some o → g'.get? b = some o) → Fz i ys g')
    (hl : s₁.heap.IsList ax items) (hax : ax ∉ X) (hX : ∀ b ∈ X, b < s₁.heap.objs.size) (hsz : items.size ≤ 1000) (hM0 : Mx 0 s₁.heap) (hF0 : ∀ g, Fz 0 #[] g)
    (turn : ∀ C Z i v s₂ m₂ ys, s₁.heap.objs.size ≤ C → (∀ b ∈ C :: X, b ∈ Z) → (∀ b ∈ Z, b ≤ C) → items[i]? = some v → ys.size ≤ i → Upd X s₁ s₂ → Mx i s₂.heap → Fz i ys (hideAll s₂.heap Z) → s₂.heap.Ns C m₂ → ∀ E',
      wpAny (model prog w) A (assign target (compEnvC scope cl C env) v) (fun _ s₃ =>
        wpAny (model prog w) A (forIn ifs true fun c r => if r = true then do let ok ← isTrue c (compEnvC scope cl C env) (eval c (compEnvC scope cl C env)); pure (ForInStep.yield ok) else pure (ForInStep.yield r)) (fun ok s₄ =>
            if ok = true then wpAny (model prog w) A (eval elt (compEnvC scope cl C env)) (fun y s₅ =>
              Upd (C :: X) s₂ s₅ ∧ (∃ m, s₅.heap.Ns C m) ∧ Mx (i + 1) s₅.heap ∧ Fz (i + 1) (ys.push y) (hideAll s₅.heap Z)) E' s₄
            else Upd (C :: X) s₂ s₄ ∧ (∃ m, s₄.heap.Ns C m) ∧ Mx (i + 1) s₄.heap ∧ Fz (i + 1) ys (hideAll s₄.heap Z)) E' s₃) E' s₂)
    (done : ∀ C D s' m' ys, Upd X s₁ s' → s₁.heap.objs.size ≤ C → s₁.heap.objs.size ≤ D → C ≠ D → s'.heap.Ns C m' → s'.heap.PlainList D ys → ys.size ≤ items.size → Mx items.size s'.heap → Fz items.size ys (hideAll s'.heap (C :: D :: X)) → RR (.ref D) C (.ok .next) s') :
    wpAny (model prog w) A (pyIter (.ref ax)) (fun it s₂ => wpAny (model prog w) A (newList []) (fun acc s₃ => wpAny (model prog w) A (newFunctionEnv scope env.globals cl [] env.qual none .none (some env)) (fun cenv s₄ =>
      codeAny (model prog w) A (.compStart (.ListComp elt [⟨target, iter, ifs, 0⟩] scope pos) 0 it acc { cenv with scope := relabel scope env }) (RR acc cenv.locals) s₄) E s₃) E s₂) E s₁ :=
  comp_coreN hh hcell hkind (fun i ys h g => Mx i h ∧ Fz i ys g) (fun i ys h h' g g' x k1 k2 => ⟨hMx i h h' x.1 k1, hFz i ys g g' x.2 k2⟩) hl hax hX hsz (fun Z => ⟨hM0, hF0 _⟩)
    (fun C Z i v s₂ m₂ ys a1 a2 a3 a4 a5 a6 a7 a8 E' => turn C Z i v s₂ m₂ ys a1 a2 a3 a4 a5 a6 a7.1 a7.2 a8 E') (fun C D s' m' ys b1 b2 b3 b4 b5 b6 b7 b8 => done C D s' m' ys b1 b2 b3 b4 b5 b6 b7 b8.1 b8.2)

theorem nodup_drop {X : List Addr} {C : Addr} {s₁ s' : Shared} {h' : Heap} (U : Upd X s₁ s') (hC : s₁.heap.objs.size ≤ C) (hs : Heap.SameBut C s'.heap h') : Upd X s₁ { s' with heap := h' } :=
  U.thenNew (wr := [C]) (Upd.same (tk := s'.toks) hs) fun b hb => by
    rcases List.mem_cons.mp hb with rfl | hb
    · exact Heap.get?_none_of_le hC
    · cases hb

/-- the value of a list comprehension over a list -/
theorem lcomp_eval {Q : Value → Shared → Prop} {elt target iter : Expr} {ifs : List Expr} {scope : Scope} {pos : Pos} {env : Env} {cl : List (Str × Addr)} {s : Shared} (hh : A.handled = none)
    (hclos : closureFor scope env = pure cl) (hcell : ∀ x ∈ scope.names, x.2 ≠ .cell) (hkind : scope.kind = .function) (hnames : ∀ x ∈ scope.names, x.2 = .local → scope.names.lookup x.1 = some .local)
    (h : wpAny (model prog w) A (eval iter env) (fun x s₁ => ∃ (X : List Addr) (ax : Addr) (items : Array Value) (Mx : Nat → Heap → Prop) (Fz : Nat → Array Value → Heap → Prop), x = .ref ax ∧ s₁.heap.IsList ax items ∧ ax ∉ X ∧ (∀ b ∈ X, b < s₁.heap.objs.size) ∧ items.size ≤ 1000 ∧
      (∀ i h h', Mx i h → (∀ b ∈ X, ∀ o, h.get? b = some o → h'.get? b = some o) → Mx i h') ∧ (∀ i ys g g', Fz i ys g → (∀ b o, g.get? b = some o → g'.get? b = some o) → Fz i ys g') ∧ Mx 0 s₁.heap ∧ (∀ g, Fz 0 #[] g) ∧
      (∀ C Z i v s₂ m₂ ys, s₁.heap.objs.size ≤ C → (∀ b ∈ C :: X, b ∈ Z) → (∀ b ∈ Z, b ≤ C) → items[i]? = some v → ys.size ≤ i → Upd X s₁ s₂ → Mx i s₂.heap → Fz i ys (hideAll s₂.heap Z) → s₂.heap.Ns C m₂ → ∀ E',
        wpAny (model prog w) A (assign target (compEnvC scope cl C env) v) (fun _ s₃ =>
          wpAny (model prog w) A (forIn ifs true fun c r => if r = true then do let ok ← isTrue c (compEnvC scope cl C env) (eval c (compEnvC scope cl C env)); pure (ForInStep.yield ok) else pure (ForInStep.yield r)) (fun ok s₄ =>
            if ok = true then wpAny (model prog w) A (eval elt (compEnvC scope cl C env)) (fun y s₅ =>
              Upd (C :: X) s₂ s₅ ∧ (∃ m, s₅.heap.Ns C m) ∧ Mx (i + 1) s₅.heap ∧ Fz (i + 1) (ys.push y) (hideAll s₅.heap Z)) E' s₄
            else Upd (C :: X) s₂ s₄ ∧ (∃ m, s₄.heap.Ns C m) ∧ Mx (i + 1) s₄.heap ∧ Fz (i + 1) ys (hideAll s₄.heap Z)) E' s₃) E' s₂) ∧
      (∀ D s' ys, Upd X s₁ s' → s₁.heap.objs.size ≤ D → s'.heap.PlainList D ys → ys.size ≤ items.size → Mx items.size s'.heap → Fz items.size ys (hideAll s'.heap (D :: X)) → Q (.ref D) s')) E s)
    (hs : ∀ x, foldedSetIterable iter env x = pure x := by intro _; rfl) :
    wpAny (model prog w) A (eval (.ListComp elt [⟨target, iter, ifs, 0⟩] scope pos) env) Q E s := by
  rw [eval_ListComp]
  refine wpAny_comprehension_free (use := none) rfl hs hclos hkind hnames (wpAny_mono h (fun x s₁ h₁ => ?_) fun _ _ e => e)
  obtain ⟨X, ax, items, Mx, Fz, rfl, hl, hax, hX, hsz, hMx, hFz, hM0, hF0, turn, done⟩ := h₁
  refine comp_core (RR := fun acc C => compPost (model prog w) A E none Q acc C) hh hcell hkind Mx hMx Fz hFz hl hax hX hsz hM0 hF0 turn (fun C D s' m' ys U hC hD hne hn hp hy hm hf => ?_)
  refine ⟨m', hn, fun h' hs' => ?_⟩
  have V : Upd [C] s' { s' with heap := h' } := Upd.same (tk := s'.toks) hs'
  have nD : D ∉ [C] := fun z => by
    rcases List.mem_cons.mp z with z | z
    · exact hne z.symm
    · cases z
  have nX : ∀ b ∈ X, b ∉ [C] := fun b hb z => by
    rcases List.mem_cons.mp z with z | z
    · exact absurd (hX b hb) (by rw [z]; exact Nat.not_lt.mpr hC)
    · cases z
  refine done D _ ys (nodup_drop U hC hs') hD (hp.at fun o e => V.keep nD e) hy (hMx _ _ _ hm fun b hb o e => V.keep (nX b hb) e) (hFz _ _ _ _ hf fun b o e => ?_)
  exact hide_less (Y := D :: X) (Z := C :: D :: X) (fun b hb => .tail _ hb) b o (V.hide (fun b hb => by
    rcases List.mem_cons.mp hb with rfl | hb
    · exact .head _
    · cases hb) b o e)

/-- the value of a list comprehension over a list -/
theorem lcomp_evalN {Q : Value → Shared → Prop} {elt target iter : Expr} {ifs : List Expr} {scope : Scope} {pos : Pos} {env : Env} {cl : List (Str × Addr)} {s : Shared} (hh : A.handled = none)
    (hclos : closureFor scope env = pure cl) (hcell : ∀ x ∈ scope.names, x.2 ≠ .cell) (hkind : scope.kind = .function) (hnames : ∀ x ∈ scope.names, x.2 = .local → scope.names.lookup x.1 = some .local)
    (h : wpAny (model prog w) A (eval iter env) (fun x s₁ => ∃ (X : List Addr) (ax : Addr) (items : Array Value) (N : Nat → Array Value → Heap → Heap → Prop), x = .ref ax ∧ s₁.heap.IsList ax items ∧ ax ∉ X ∧ (∀ b ∈ X, b < s₁.heap.objs.size) ∧ items.size ≤ 1000 ∧
      (∀ i ys h h' g g', N i ys h g → (∀ b ∈ X, ∀ o, h.get? b = some o → h'.get? b = some o) → (∀ b o, g.get? b = some o → g'.get? b = some o) → N i ys h' g') ∧ (∀ Z, N 0 #[] s₁.heap (hideAll s₁.heap Z)) ∧
      (∀ C Z i v s₂ m₂ ys, s₁.heap.objs.size ≤ C → (∀ b ∈ C :: X, b ∈ Z) → (∀ b ∈ Z, b ≤ C) → items[i]? = some v → ys.size ≤ i → Upd X s₁ s₂ → N i ys s₂.heap (hideAll s₂.heap Z) → s₂.heap.Ns C m₂ → ∀ E',
        wpAny (model prog w) A (assign target (compEnvC scope cl C env) v) (fun _ s₃ =>
          wpAny (model prog w) A (forIn ifs true fun c r => if r = true then do let ok ← isTrue c (compEnvC scope cl C env) (eval c (compEnvC scope cl C env)); pure (ForInStep.yield ok) else pure (ForInStep.yield r)) (fun ok s₄ =>
            if ok = true then wpAny (model prog w) A (eval elt (compEnvC scope cl C env)) (fun y s₅ =>
              Upd (C :: X) s₂ s₅ ∧ (∃ m, s₅.heap.Ns C m) ∧ N (i + 1) (ys.push y) s₅.heap (hideAll s₅.heap Z)) E' s₄
            else Upd (C :: X) s₂ s₄ ∧ (∃ m, s₄.heap.Ns C m) ∧ N (i + 1) ys s₄.heap (hideAll s₄.heap Z)) E' s₃) E' s₂) ∧
      (∀ D s' ys, Upd X s₁ s' → s₁.heap.objs.size ≤ D → s'.heap.PlainList D ys → ys.size ≤ items.size → N items.size ys s'.heap (hideAll s'.heap (D :: X)) → Q (.ref D) s')) E s)
    (hs : ∀ x, foldedSetIterable iter env x = pure x := by intro _; rfl) :
    wpAny (model prog w) A (eval (.ListComp elt [⟨target, iter, ifs, 0⟩] scope pos) env) Q E s := by
  rw [eval_ListComp]
  refine wpAny_comprehension_free (use := none) rfl hs hclos hkind hnames (wpAny_mono h (fun x s₁ h₁ => ?_) fun _ _ e => e)
  obtain ⟨X, ax, items, N, rfl, hl, hax, hX, hsz, hN, hN0, turn, done⟩ := h₁
  refine comp_coreN (RR := fun acc C => compPost (model prog w) A E none Q acc C) hh hcell hkind N hN hl hax hX hsz hN0 turn (fun C D s' m' ys U hC hD hne hn hp hy hm => ?_)
  refine ⟨m', hn, fun h' hs' => ?_⟩
  have V : Upd [C] s' { s' with heap := h' } := Upd.same (tk := s'.toks) hs'
  have nD : D ∉ [C] := fun z => by
    rcases List.mem_cons.mp z with z | z
    · exact hne z.symm
    · cases z
  have nX : ∀ b ∈ X, b ∉ [C] := fun b hb z => by
    rcases List.mem_cons.mp z with z | z
    · exact absurd (hX b hb) (by rw [z]; exact Nat.not_lt.mpr hC)
    · cases z
  refine done D _ ys (nodup_drop U hC hs') hD (hp.at fun o e => V.keep nD e) hy (hN _ _ _ _ _ _ hm (fun b hb o e => V.keep (nX b hb) e) fun b o e => ?_)
  exact hide_less (Y := D :: X) (Z := C :: D :: X) (fun b hb => .tail _ hb) b o (V.hide (fun b hb => by
    rcases List.mem_cons.mp hb with rfl | hb
    · exact .head _
    · cases hb) b o e)

/-- a local name is bound to a list comprehension over a list (the stores exchanged) -/
theorem lcomp_assign {Q : Flow → Shared → Prop} {elt target iter : Expr} {ifs : List Expr} {scope : Scope} {pos spos py : Pos} {env : Env} {cl : List (Str × Addr)} {s : Shared} {y : Str} (hh : A.handled = none)
    (hsw : swapsWith (.ListComp elt [⟨target, iter, ifs, 0⟩] scope pos) (some (.Name y py)) spos.line env = pure true)
    (hy : env.kindOf y = some .local) (hp : (env.scope.kind == .class || (env.scope.kind == .module && env.locals != env.globals)) = false)
    (hclos : closureFor scope env = pure cl) (hcell : ∀ x ∈ scope.names, x.2 ≠ .cell) (hkind : scope.kind = .function) (hnames : ∀ x ∈ scope.names, x.2 = .local → scope.names.lookup x.1 = some .local)
    (h : wpAny (model prog w) A (eval iter env) (fun x s₁ => ∃ (X : List Addr) (ax : Addr) (items : Array Value) (m : Str → Option Value) (Mx : Nat → Heap → Prop) (Fz : Nat → Array Value → Heap → Prop), x = .ref ax ∧ s₁.heap.IsList ax items ∧ ax ∉ X ∧ (∀ b ∈ X, b < s₁.heap.objs.size) ∧ items.size ≤ 1000 ∧
      s₁.heap.Ns env.locals m ∧ env.locals ∉ X ∧
      (∀ i h h', Mx i h → (∀ b ∈ X, ∀ o, h.get? b = some o → h'.get? b = some o) → Mx i h') ∧ (∀ i ys g g', Fz i ys g → (∀ b o, g.get? b = some o → g'.get? b = some o) → Fz i ys g') ∧ Mx 0 s₁.heap ∧ (∀ g, Fz 0 #[] g) ∧
      (∀ C Z i v s₂ m₂ ys, s₁.heap.objs.size ≤ C → (∀ b ∈ C :: X, b ∈ Z) → (∀ b ∈ Z, b ≤ C) → items[i]? = some v → ys.size ≤ i → Upd X s₁ s₂ → Mx i s₂.heap → Fz i ys (hideAll s₂.heap Z) → s₂.heap.Ns C m₂ → ∀ E',
        wpAny (model prog w) A (assign target (compEnvC scope cl C env) v) (fun _ s₃ =>
          wpAny (model prog w) A (forIn ifs true fun c r => if r = true then do let ok ← isTrue c (compEnvC scope cl C env) (eval c (compEnvC scope cl C env)); pure (ForInStep.yield ok) else pure (ForInStep.yield r)) (fun ok s₄ =>
            if ok = true then wpAny (model prog w) A (eval elt (compEnvC scope cl C env)) (fun y s₅ =>
              Upd (C :: X) s₂ s₅ ∧ (∃ m, s₅.heap.Ns C m) ∧ Mx (i + 1) s₅.heap ∧ Fz (i + 1) (ys.push y) (hideAll s₅.heap Z)) E' s₄
            else Upd (C :: X) s₂ s₄ ∧ (∃ m, s₄.heap.Ns C m) ∧ Mx (i + 1) s₄.heap ∧ Fz (i + 1) ys (hideAll s₄.heap Z)) E' s₃) E' s₂) ∧
      (∀ D s' ys, Upd (env.locals :: X) s₁ s' → s₁.heap.objs.size ≤ D → s'.heap.Ns env.locals (fun z => if z = y then some (.ref D) else m z) → s'.heap.PlainList D ys → ys.size ≤ items.size → Mx items.size s'.heap → Fz items.size ys (hideAll s'.heap (D :: env.locals :: X)) → Q .next s')) E s)
    (hs : ∀ x, foldedSetIterable iter env x = pure x := by intro _; rfl) :
    wpAny (model prog w) A (exec (.Assign [.Name y py] (.ListComp elt [⟨target, iter, ifs, 0⟩] scope pos) spos) env) Q E s := by
  rw [exec_Assign_Name_used _ _ _ _ hsw]
  refine wpAny_bind (wpAny_standAt (wpAny_bind ?_))
  show wpAny _ A (do let _ ← comprehension (.ListComp elt [⟨target, iter, ifs, 0⟩] scope pos) scope env _ (newList []) false (eval iter env) (some (assign (.Name y py) env))) _ _ s
  refine wpAny_bind (wpAny_mono (wpAny_comprehension_free (use := some (assign (.Name y py) env)) (Q := fun _ s' => Q .next s') rfl hs hclos hkind hnames
    (wpAny_mono h (fun xv s₁ h₁ => ?_) fun _ _ e => e)) (fun _ s' hq => wpAny_pure (wpAny_pure hq)) fun _ _ e => e)
  obtain ⟨X, ax, items, m, Mx, Fz, rfl, hl, hax, hX, hsz, hL, hLX, hMx, hFz, hM0, hF0, turn, done⟩ := h₁
  have n1 : ∀ {a b : Addr}, a ≠ b → a ∉ [b] := fun hab z => by
    rcases List.mem_cons.mp z with z | z
    · exact hab z
    · cases z
  have hLlt : env.locals < s₁.heap.objs.size := hL.lt
  have haL : ax ≠ env.locals := fun z => by
    obtain ⟨o, e1, e2, n, e3⟩ := hl
    obtain ⟨o', es, ep, f1, f2, _⟩ := hL
    rw [z, f1] at e1; cases e1; rw [f2] at e3; cases e3
  obtain ⟨oL, hoL⟩ : ∃ oL, s₁.heap.get? env.locals = some oL := let ⟨o, _, _, e, _⟩ := hL; ⟨o, e⟩
  have nsL : ∀ {h : Heap}, h.get? env.locals = some oL → h.Ns env.locals m := fun e => hL.at' fun o e' => by rw [hoL] at e'; cases e'; exact e
  refine comp_core (RR := fun acc C => compPost (model prog w) A E (some (assign (.Name y py) env)) (fun _ s' => Q .next s') acc C) (X := env.locals :: X) hh hcell hkind (fun i h => Mx i h ∧ h.get? env.locals = some oL) ?_ Fz hFz hl ?_ ?_ hsz ⟨hM0, hoL⟩ hF0 ?_ (fun C D s' m' ys U hC hD hne hn hp' hy' hm hf => ?_)
  · rintro i h h' ⟨a, b⟩ k
    exact ⟨hMx i h h' a fun b hb o e => k b (.tail _ hb) o e, k _ (.head _) _ b⟩
  · intro z
    rcases List.mem_cons.mp z with z | z
    · exact haL z
    · exact hax z
  · intro b hb
    rcases List.mem_cons.mp hb with rfl | hb
    · exact hLlt
    · exact hX b hb
  · intro C Z i v s₂ m₂ ys hC hZ1 hZ2 hv hys U hm hf hn E'
    have hLC : env.locals ∉ C :: X := fun z => by
      rcases List.mem_cons.mp z with z | z
      · rw [z] at hLlt; exact absurd hLlt (Nat.not_lt.mpr hC)
      · exact hLX z
    have sub : ∀ b ∈ C :: X, b ∈ C :: env.locals :: X := fun b hb => by
      rcases List.mem_cons.mp hb with rfl | hb
      · exact .head _
      · exact .tail _ (.tail _ hb)
    have U' : Upd X s₁ s₂ := by
      obtain ⟨h₂, t₂, rfl, k₂⟩ := U
      refine ⟨h₂, t₂, rfl, fun b o hb e => ?_⟩
      by_cases hbL : b = env.locals
      · rw [hbL, hoL] at e; cases e; rw [hbL]; exact hm.2
      · exact k₂ b o (fun z => by
          rcases List.mem_cons.mp z with z | z
          · exact hbL z
          · exact hb z) e
    refine wpAny_mono (turn C Z i v s₂ m₂ ys hC (fun b hb => hZ1 b (sub b hb)) hZ2 hv hys U' hm.1 hf hn E') (fun _ s₃ h₃ => wpAny_mono h₃ (fun ok s₄ h₄ => ?_) fun _ _ e => e) fun _ _ e => e
    cases ok with
    | true => exact wpAny_mono h₄ (fun y s₅ ⟨a, b, c, d⟩ => ⟨a.mono sub, b, ⟨c, a.keep hLC hm.2⟩, d⟩) fun _ _ e => e
    | false =>
      obtain ⟨a, b, c, d⟩ := h₄
      exact ⟨a.mono sub, b, ⟨c, a.keep hLC hm.2⟩, d⟩
  show wpAny _ A (assign (.Name y py) env (.ref D)) _ _ _
  refine wpAny_assign_Name (wpAny_storeName_local hy (nsL hm.2) (fun h₂ hn₂ hs₂ => ?_) hp)
  have V2 : Upd [env.locals] s' { s' with heap := h₂, toks := s'.toks + 1 } := Upd.same hs₂
  have neCL : C ≠ env.locals := fun z => absurd hLlt (by rw [← z]; exact Nat.not_lt.mpr hC)
  have neDL : D ≠ env.locals := fun z => absurd hLlt (by rw [← z]; exact Nat.not_lt.mpr hD)
  refine ⟨m', hn.at' fun o e => V2.keep (n1 neCL) e, fun h' hs' => ?_⟩
  have V : Upd [C] { s' with heap := h₂, toks := s'.toks + 1 } { s' with heap := h', toks := s'.toks + 1 } := Upd.same (s := { s' with heap := h₂, toks := s'.toks + 1 }) hs'
  have nX : ∀ b ∈ X, b ∉ [C] := fun b hb => n1 fun z => absurd (hX b hb) (by rw [z]; exact Nat.not_lt.mpr hC)
  have nX2 : ∀ b ∈ X, b ∉ [env.locals] := fun b hb => n1 fun z => hLX (z ▸ hb)
  have UL : Upd (env.locals :: X) s₁ { s' with heap := h₂, toks := s'.toks + 1 } := U.trans (V2.mono fun b hb => by
    rcases List.mem_cons.mp hb with rfl | hb
    · exact .head _
    · cases hb)
  refine done D _ ys (nodup_drop UL hC hs') hD (hn₂.at' fun o e => V.keep (n1 neCL.symm) e) (hp'.at fun o e => V.keep (n1 hne.symm) (V2.keep (n1 neDL) e)) hy'
    (hMx _ _ _ hm.1 fun b hb o e => V.keep (nX b hb) (V2.keep (nX2 b hb) e)) (hFz _ _ _ _ hf fun b o e => ?_)
  have e1 := V2.hide (Z := C :: D :: env.locals :: X) (fun b hb => by
    rcases List.mem_cons.mp hb with rfl | hb
    · exact .tail _ (.tail _ (.head _))
    · cases hb) b o e
  have e2 := V.hide (Z := C :: D :: env.locals :: X) (fun b hb => by
    rcases List.mem_cons.mp hb with rfl | hb
    · exact .head _
    · cases hb) b o e1
  exact hide_less (Y := D :: env.locals :: X) (Z := C :: D :: env.locals :: X) (fun b hb => .tail _ hb) b o e2
end
end Mine

-- part: MjMath
namespace Mine

/-! the plain law: the search, the greedy chain -/
def elig (start : Option Int) (p : Int × Int) : Bool := match start with | none => true | some c => decide (c ≤ p.1)
def endOf (spans : List (Int × Int)) (k : Nat) : Int := (spans.getD k (0, 0)).2
def firstOf (spans : List (Int × Int)) (k : Nat) : Int := (spans.getD k (0, 0)).1

def bestStep (spans : List (Int × Int)) (start : Option Int) (b : Option Nat) (k : Nat) : Option Nat :=
  if elig start (spans.getD k (0, 0)) then (match b with | none => some k | some j => if endOf spans k < endOf spans j then some k else some j) else b
def bestTo (spans : List (Int × Int)) (start : Option Int) : Nat → Option Nat
  | 0 => none
  | k + 1 => bestStep spans start (bestTo spans start k) k
def best (spans : List (Int × Int)) (start : Option Int) : Option Nat := bestTo spans start spans.length

theorem bestTo_spec (spans : List (Int × Int)) (start : Option Int) : ∀ n, match bestTo spans start n with
    | none => ∀ k, k < n → elig start (spans.getD k (0, 0)) = false
    | some b => b < n ∧ elig start (spans.getD b (0, 0)) = true ∧ ∀ k, k < n → elig start (spans.getD k (0, 0)) = true → endOf spans b ≤ endOf spans k
  | 0 => fun k hk => absurd hk (Nat.not_lt_zero _)
  | n + 1 => by
    have ih := bestTo_spec spans start n
    unfold bestTo bestStep
    cases he : elig start (spans.getD n (0, 0)) with
    | false =>
      simp only [Bool.false_eq_true, if_false]
      cases hb : bestTo spans start n with
      | none =>
        rw [hb] at ih
        intro k hk
        rcases Nat.lt_or_eq_of_le (Nat.le_of_lt_succ hk) with h | rfl
        · exact ih k h
        · exact he
      | some b =>
        rw [hb] at ih
        refine ⟨Nat.lt_succ_of_lt ih.1, ih.2.1, fun k hk hek => ?_⟩
        rcases Nat.lt_or_eq_of_le (Nat.le_of_lt_succ hk) with h | rfl
        · exact ih.2.2 k h hek
        · rw [he] at hek; cases hek
    | true =>
      simp only [if_true]
      cases hb : bestTo spans start n with
      | none =>
        rw [hb] at ih
        refine ⟨Nat.lt_succ_self _, he, fun k hk hek => ?_⟩
        rcases Nat.lt_or_eq_of_le (Nat.le_of_lt_succ hk) with h | rfl
        · rw [ih k h] at hek; cases hek
        · exact Int.le_refl _
      | some b =>
        rw [hb] at ih
        dsimp only
        by_cases hlt : endOf spans n < endOf spans b
        · rw [if_pos hlt]
          refine ⟨Nat.lt_succ_self _, he, fun k hk hek => ?_⟩
          rcases Nat.lt_or_eq_of_le (Nat.le_of_lt_succ hk) with h | rfl
          · exact Int.le_trans (Int.le_of_lt hlt) (ih.2.2 k h hek)
          · exact Int.le_refl _
        · rw [if_neg hlt]
          refine ⟨Nat.lt_succ_of_lt ih.1, ih.2.1, fun k hk hek => ?_⟩
          rcases Nat.lt_or_eq_of_le (Nat.le_of_lt_succ hk) with h | rfl
          · exact ih.2.2 k h hek
          · exact Int.not_lt.mp hlt

theorem best_none {spans : List (Int × Int)} {start : Option Int} (h : best spans start = none) : ∀ k, k < spans.length → elig start (spans.getD k (0, 0)) = false := by
  have := bestTo_spec spans start spans.length
  unfold best at h
  rw [h] at this
  exact this
theorem best_some {spans : List (Int × Int)} {start : Option Int} {b : Nat} (h : best spans start = some b) :
    b < spans.length ∧ elig start (spans.getD b (0, 0)) = true ∧ ∀ k, k < spans.length → elig start (spans.getD k (0, 0)) = true → endOf spans b ≤ endOf spans k := by
  have := bestTo_spec spans start spans.length
  unfold best at h
  rw [h] at this
  exact this

/-- the meetings as the law builds them -/
def Fine (spans : List (Int × Int)) : Prop := ∀ k, k < spans.length → 0 ≤ firstOf spans k ∧ firstOf spans k < endOf spans k ∧ endOf spans k ≤ 24

/-- the chain that the search tells, from a start on -/
inductive Chain (spans : List (Int × Int)) : Option Int → List Nat → Prop
  | nil {start} : best spans start = none → Chain spans start []
  | cons {start b l} : best spans start = some b → Chain spans (some (endOf spans b)) l → Chain spans start (b :: l)

theorem elig_some {c : Int} {p : Int × Int} : elig (some c) p = true ↔ c ≤ p.1 := by simp [elig]

theorem chain_exists_some {spans : List (Int × Int)} (hf : Fine spans) : ∀ (n : Nat) (c : Int), 24 - c ≤ n → ∃ l, Chain spans (some c) l ∧ l.length ≤ n := by
  intro n
  induction n with
  | zero =>
    intro c hc
    cases hb : best spans (some c) with
    | none => exact ⟨[], .nil hb, Nat.le_refl _⟩
    | some b =>
      obtain ⟨h1, h2, _⟩ := best_some hb
      have := hf b h1
      have h3 := elig_some.mp h2
      unfold firstOf at this
      omega
  | succ n ih =>
    intro c hc
    cases hb : best spans (some c) with
    | none => exact ⟨[], .nil hb, Nat.zero_le _⟩
    | some b =>
      obtain ⟨h1, h2, _⟩ := best_some hb
      have := hf b h1
      have h3 := elig_some.mp h2
      unfold firstOf at this
      obtain ⟨l, hl, hn⟩ := ih (endOf spans b) (by omega)
      exact ⟨b :: l, .cons hb hl, by simp only [List.length_cons]; omega⟩

theorem chain_exists {spans : List (Int × Int)} (hf : Fine spans) : ∃ l, Chain spans none l ∧ l.length ≤ 24 := by
  cases hb : best spans none with
  | none => exact ⟨[], .nil hb, by simp⟩
  | some b =>
    obtain ⟨h1, _, _⟩ := best_some hb
    have := hf b h1
    obtain ⟨l, hl, hn⟩ := chain_exists_some hf 23 (endOf spans b) (by omega)
    exact ⟨b :: l, .cons hb hl, by simp only [List.length_cons]; omega⟩

/-- every member of a chain is a meeting -/
theorem Chain.mem {spans : List (Int × Int)} {start : Option Int} {l : List Nat} (h : Chain spans start l) : ∀ b ∈ l, b < spans.length := by
  induction h with
  | nil _ => intro b hb; cases hb
  | cons hb _ ih =>
    intro b' hb'
    rcases List.mem_cons.mp hb' with rfl | h
    · exact (best_some hb).1
    · exact ih b' h

/-- what is kept: each begins when the one ahead is over or later; ends rise -/
theorem Chain.starts {spans : List (Int × Int)} {c : Int} {l : List Nat} (h : Chain spans (some c) l) (hf : Fine spans) : ∀ b ∈ l, c ≤ firstOf spans b ∧ c < endOf spans b := by
  have key : ∀ start l, Chain spans start l → ∀ c, start = some c → ∀ b ∈ l, c ≤ firstOf spans b ∧ c < endOf spans b := by
    intro start l h
    induction h with
    | nil _ => intro c _ b hb; cases hb
    | cons hb _ ih =>
      intro c hc b' hb'
      subst hc
      obtain ⟨h1, h2, _⟩ := best_some hb
      have h3 := elig_some.mp h2
      have h4 := hf _ h1
      unfold firstOf at h4 ⊢
      rcases List.mem_cons.mp hb' with rfl | h
      · omega
      · have := ih _ rfl b' h
        unfold firstOf at this
        omega
  exact key _ _ h c rfl

/-- each meeting has in it the last hour of a kept one -/
theorem Chain.covers {spans : List (Int × Int)} {start : Option Int} {l : List Nat} (h : Chain spans start l) (k : Nat) (hk : k < spans.length) (hs : elig start (spans.getD k (0, 0)) = true) :
    ∃ b ∈ l, firstOf spans k < endOf spans b ∧ endOf spans b ≤ endOf spans k := by
  induction h with
  | nil hb => rw [best_none hb k hk] at hs; cases hs
  | @cons start b l hb hc ih =>
    obtain ⟨h1, h2, h3⟩ := best_some hb
    by_cases hlt : firstOf spans k < endOf spans b
    · exact ⟨b, .head _, hlt, h3 k hk hs⟩
    · obtain ⟨b', hb', r⟩ := ih (elig_some.mpr (Int.not_lt.mp hlt))
      exact ⟨b', .tail _ hb', r⟩
end Mine

-- part: MjSearch
namespace Mine

abbrev seFn (q : Str) (cA cH cS dT : Addr) (doc pm : Value) (c' : Addr) (ct : Value) : FuncData :=
  fnX "search" q (stArgs seS) (stBody seS) (stScope seS) [("spans", cS), ("hits", cH), ("asked", cA)] (.ref dT) .none doc pm none (.ref c') ct

structure SeAt (g : Heap) (fS aA aS aH : Addr) : Prop where
  ex : ∃ q cA cH cS dT doc pm c' ct dd sl, g.get? fS = some ⟨.type "function", dd, .func (seFn q cA cH cS dT doc pm c' ct), sl⟩ ∧ g.CodeRec (.ref c') q ∧ (∃ o n, g.get? dT = some o ∧ o.data = .seq #[.none] n) ∧
    g.IsCell cA (some (.ref aA)) ∧ g.IsCell cH (some (.ref aH)) ∧ g.IsCell cS (some (.ref aS))

structure Bed (g : Heap) (spans : List (Int × Int)) (hitA : List Addr) (fS aA : Addr) : Prop where
  lim : g.NoLimit
  glob : ∃ mg mb, g.Ns mainGlobals mg ∧ mg "range" = none ∧ mg "len" = none ∧ g.Ns builtinsNs mb ∧ mb "range" = some (.type "range") ∧ mb "len" = some (.builtin "len")
  se : ∃ aS aH tups, SeAt g fS aA aS aH ∧ g.IsList aS tups ∧ g.IsList aH (hitA.map Value.ref).toArray ∧ tups.size = spans.length ∧
    ∀ k, k < spans.length → ∃ T tf tb, tups[k]? = some (.ref T) ∧ IsTup g T #[.int (firstOf spans k) tf, .int (endOf spans k) tb]
  hit : ∀ k, k < spans.length → ∃ a, hitA[k]? = some a ∧ HitAt g a (firstOf spans k) (endOf spans k)
  fewA : hitA.length = spans.length
  few : spans.length ≤ 100
  none : g.get? aA = none

section
variable {prog : Program} {w : World} {A : Around} {E : Value → Shared → Prop} {s : Shared} {g : Heap} {spans : List (Int × Int)} {hitA : List Addr} {fS aA : Addr}

/-- the value that the search hands back -/
def hitV (hitA : List Addr) : Option Nat → Value
  | none => .none
  | some k => .ref (hitA.getD k 0)

def stV (start : Option (Int × Tok)) : Value := match start with | none => .none | some (j, t) => .int j t


abbrev seEnv (q : Str) (cA cH cS dT : Addr) (doc pm : Value) (c' : Addr) (ct : Value) (L fS : Addr) : Env := callEnv (seFn q cA cH cS dT doc pm c' ct) L fS
abbrev seFor : Stmt := (stBody seS).getD 2 default
abbrev seIf : Stmt := (stBody seFor).getD 0 default
abbrev seIf2 : Stmt := (stBody seIf).getD 0 default

/-- what the search reads -/
structure SeRead (h : Heap) (spans : List (Int × Int)) (cS aS : Addr) (tups : Array Value) : Prop where
  cell : h.IsCell cS (some (.ref aS))
  lst : h.IsList aS tups
  tup : ∀ k, k < spans.length → ∃ T tf tb, tups[k]? = some (.ref T) ∧ IsTup h T #[.int (firstOf spans k) tf, .int (endOf spans k) tb]
theorem SeRead.keeps {h h' : Heap} {cS aS : Addr} {tups : Array Value} (x : SeRead h spans cS aS tups) (k : ∀ b o, h.get? b = some o → h'.get? b = some o) : SeRead h' spans cS aS tups :=
  ⟨x.cell.keeps k, let ⟨o, e, r⟩ := x.lst; ⟨o, k _ _ e, r⟩, fun i hi => let ⟨T, tf, tb, e, r⟩ := x.tup i hi; ⟨T, tf, tb, e, r.keeps k⟩⟩

section
variable {q : Str} {cA cH cS dT L c' aS aH : Addr} {doc pm ct : Value} {start : Option (Int × Tok)} {m : Str → Option Value} {tups : Array Value}

theorem read0 {value : Expr} {T : Addr} {f b : Int} {tf tb : Tok} {pos pos' : Pos} {env : Env} {Q : Value → Shared → Prop} (hv : wpAny (model prog w) A (eval value env) (fun v s' => v = .ref T ∧ IsTup s'.heap T #[.int f tf, .int b tb] ∧ Q (.int f tf) { s' with toks := s'.toks + 1 }) E s) :
    wpAny (model prog w) A (eval (.Subscript value (.Constant (.int 0) 0 pos) pos') env) Q E s := by
  refine Subscript_ (wpAny_mono hv (fun v s' h => ?_) fun _ _ e => e)
  obtain ⟨rfl, h1, h2⟩ := h
  refine wpAny_Constant_int ?_
  exact item_tupleT (l := [.int f tf, .int b tb]) (j := 0) h1 (by decide) (by decide) rfl rfl h2
theorem read1 {value : Expr} {T : Addr} {f b : Int} {tf tb : Tok} {pos pos' : Pos} {env : Env} {Q : Value → Shared → Prop} (hv : wpAny (model prog w) A (eval value env) (fun v s' => v = .ref T ∧ IsTup s'.heap T #[.int f tf, .int b tb] ∧ Q (.int b tb) { s' with toks := s'.toks + 1 }) E s) :
    wpAny (model prog w) A (eval (.Subscript value (.Constant (.int 1) 0 pos) pos') env) Q E s := by
  refine Subscript_ (wpAny_mono hv (fun v s' h => ?_) fun _ _ e => e)
  obtain ⟨rfl, h1, h2⟩ := h
  refine wpAny_Constant_int ?_
  exact item_tupleT (l := [.int f tf, .int b tb]) (j := 1) h1 (by decide) (by decide) rfl rfl h2

theorem list_item {value slice : Expr} {a : Addr} {items : Array Value} {k : Int} {t : Tok} {x : Value} {pos : Pos} {env : Env} {Q : Value → Shared → Prop}
    (hv : wpAny (model prog w) A (eval value env) (fun v s₁ => wpAny (model prog w) A (eval slice env) (fun i s₂ => v = .ref a ∧ i = .int k t ∧ s₂.heap.IsList a items ∧ Q x s₂) E s₁) E s)
    (h0 : 0 ≤ k) (hk : k < 2 ^ 63) (hx : items[k.toNat]? = some x)
    (hs : subscripted slice false (.ref a) (.int k t) = operate [.ref a, .int k t] (getItem (.ref a) (.int k t)) := by with_unfolding_all rfl) :
    wpAny (model prog w) A (eval (.Subscript value slice pos) env) Q E s := by
  refine Subscript_ (wpAny_mono hv (fun v s₁ h => wpAny_mono h (fun i s₂ h' => ?_) fun _ _ e => e) fun _ _ e => e)
  obtain ⟨rfl, rfl, hl, hq⟩ := h'
  exact tail_any hl.typeIs slot_list_getitem.lookup (wpAny_getItem_list hl h0 hk hx hq) hs

theorem search_test1 {i : Nat} {tk : Tok} {Q : Bool → Shared → Prop} (X : SeRead s.heap spans cS aS tups) (hL : s.heap.Ns L m) (hi : i < spans.length) (hfew : spans.length ≤ 100)
    (hm2 : m "start" = some (stV start)) (hmk : m "k" = some (.int (0 + (i : Int)) tk)) (hQ : ∀ tk, Q (elig (start.map (·.1)) (spans.getD i (0, 0))) { s with toks := tk }) :
    wpAny (model prog w) A (isTrue (stVal seIf) (seEnv q cA cH cS dT doc pm c' ct L fS) (eval (stVal seIf) (seEnv q cA cH cS dT doc pm c' ct L fS))) Q E s := by
  obtain ⟨T, tf, tb, e1, e2⟩ := X.tup i hi
  refine wpAny_isTrue_BoolOp ?_
  refine wpAny_allTrue_Or_cons ?_
  refine wpAny_isTrue_Compare1 ?_
  refine wpAny_Name (wpAny_loadName_local rfl rfl hL hm2 ?_)
  refine wpAny_Constant_none ?_
  refine is_none ?_
  refine wpAny_truthy_bool ?_
  cases start with
  | none => exact hQ s.toks
  | some p =>
    obtain ⟨c, t⟩ := p
    show wpAny _ _ (allTrue .Or _ _) _ _ _
    refine wpAny_allTrue_Or_cons ?_
    refine wpAny_isTrue_Compare1 ?_
    refine read0 (T := T) (f := firstOf spans i) (b := endOf spans i) (tf := tf) (tb := tb) ?_
    refine list_item (a := aS) (items := tups) (k := 0 + (i : Int)) (t := tk) (x := .ref T) ?_ (by omega) (by omega) ?_
    · refine wpAny_Name (wpAny_loadName_free rfl rfl (c := cS) rfl X.cell ?_)
      refine wpAny_Name (wpAny_loadName_local rfl rfl hL hmk ?_)
      refine ⟨rfl, rfl, X.lst, rfl, e2, ?_⟩
      refine wpAny_Name (wpAny_loadName_local (s := { s with toks := s.toks + 1 }) rfl rfl hL hm2 ?_)
      refine PyProof.Rows.ge_int ?_
      refine wpAny_truthy_bool ?_
      have h1 := hQ (s.toks + 1)
      have h2 : elig (Option.map (fun x => x.1) (some (c, t))) (spans.getD i (0, 0)) = decide (c ≤ firstOf spans i) := rfl
      rw [h2] at h1
      cases hd : decide (c ≤ firstOf spans i) with
      | true => rw [hd] at h1; exact h1
      | false => rw [hd] at h1; exact wpAny_allTrue_Or_nil h1
    · rw [show (0 + (i : Int)).toNat = i by omega]; exact e1

def BV (v : Value) : Option Nat → Prop
  | none => v = .none
  | some j => ∃ t, v = .int (j : Int) t

theorem search_test2 {i : Nat} {tk : Tok} {bo : Option Nat} {bv : Value} {Q : Bool → Shared → Prop} (X : SeRead s.heap spans cS aS tups) (hL : s.heap.Ns L m) (hi : i < spans.length) (hfew : spans.length ≤ 100)
    (hmb : m "best" = some bv) (hbv : BV bv bo) (hbo : ∀ j, bo = some j → j < spans.length) (hmk : m "k" = some (.int (0 + (i : Int)) tk))
    (hQ : ∀ tk, Q (match bo with | none => true | some j => decide (endOf spans i < endOf spans j)) { s with toks := tk }) :
    wpAny (model prog w) A (isTrue (stVal seIf2) (seEnv q cA cH cS dT doc pm c' ct L fS) (eval (stVal seIf2) (seEnv q cA cH cS dT doc pm c' ct L fS))) Q E s := by
  obtain ⟨T, tf, tb, e1, e2⟩ := X.tup i hi
  refine wpAny_isTrue_BoolOp ?_
  refine wpAny_allTrue_Or_cons ?_
  refine wpAny_isTrue_Compare1 ?_
  refine wpAny_Name (wpAny_loadName_local rfl rfl hL hmb ?_)
  refine wpAny_Constant_none ?_
  refine is_none ?_
  refine wpAny_truthy_bool ?_
  cases bo with
  | none =>
    have hb : bv = .none := hbv
    subst hb
    exact hQ s.toks
  | some j =>
    obtain ⟨u, rfl⟩ := hbv
    have hj := hbo j rfl
    obtain ⟨T', tf', tb', f1, f2⟩ := X.tup j hj
    show wpAny _ _ (allTrue .Or _ _) _ _ _
    refine wpAny_allTrue_Or_cons ?_
    refine wpAny_isTrue_Compare1 ?_
    refine read1 (T := T) (f := firstOf spans i) (b := endOf spans i) (tf := tf) (tb := tb) ?_
    refine list_item (a := aS) (items := tups) (k := 0 + (i : Int)) (t := tk) (x := .ref T) ?_ (by omega) (by omega) ?_
    · refine wpAny_Name (wpAny_loadName_free rfl rfl (c := cS) rfl X.cell ?_)
      refine wpAny_Name (wpAny_loadName_local rfl rfl hL hmk ?_)
      refine ⟨rfl, rfl, X.lst, rfl, e2, ?_⟩
      refine read1 (T := T') (f := firstOf spans j) (b := endOf spans j) (tf := tf') (tb := tb') ?_
      refine list_item (a := aS) (items := tups) (k := (j : Int)) (t := u) (x := .ref T') ?_ (by omega) (by omega) ?_
      · refine wpAny_Name (wpAny_loadName_free (s := { s with toks := s.toks + 1 }) rfl rfl (c := cS) rfl X.cell ?_)
        refine wpAny_Name (wpAny_loadName_local (s := { s with toks := s.toks + 1 }) rfl rfl hL hmb ?_)
        refine ⟨rfl, rfl, X.lst, rfl, f2, ?_⟩
        refine PyProof.Rows.lt_int ?_
        refine wpAny_truthy_bool ?_
        have h1 := hQ (s.toks + 1 + 1)
        dsimp only at h1
        cases hd : decide (endOf spans i < endOf spans j) with
        | true => rw [hd] at h1; exact h1
        | false => rw [hd] at h1; exact wpAny_allTrue_Or_nil h1
      · rw [show ((j : Int)).toNat = j by omega]; exact f1
    · rw [show (0 + (i : Int)).toNat = i by omega]; exact e1

/-- one turn of the search's loop -/
theorem search_turn {i : Nat} {tk : Tok} {bv : Value} {Q : Flow → Shared → Prop} (X : SeRead s.heap spans cS aS tups) (hL : s.heap.Ns L m) (hi : i < spans.length) (hfew : spans.length ≤ 100)
    (hm2 : m "start" = some (stV start)) (hmb : m "best" = some bv) (hbv : BV bv (bestTo spans (start.map (·.1)) i)) (hmk : m "k" = some (.int (0 + (i : Int)) tk))
    (hQ : ∀ s' m' bv', Upd [L] s s' → s'.heap.Ns L m' → m' "start" = some (stV start) → m' "best" = some bv' → BV bv' (bestTo spans (start.map (·.1)) (i + 1)) → Q .next s') :
    wpAny (model prog w) A (execs (stBody seFor) (seEnv q cA cH cS dT doc pm c' ct L fS)) Q E s := by
  have hbo : ∀ j, bestTo spans (start.map (·.1)) i = some j → j < spans.length := fun j hj => by
    have := bestTo_spec spans (start.map (·.1)) i
    rw [hj] at this
    exact Nat.lt_trans this.1 hi
  refine wpAny_execs_cons (wpAny_If (search_test1 X hL hi hfew hm2 hmk fun t1 => ?_))
  have hst : bestTo spans (start.map (·.1)) (i + 1) = bestStep spans (start.map (·.1)) (bestTo spans (start.map (·.1)) i) i := rfl
  cases he : elig (start.map (·.1)) (spans.getD i (0, 0)) with
  | false =>
    refine wpAny_execs_nil (wpAny_execs_nil (hQ _ m bv (Upd.toks _ _ _) hL hm2 hmb ?_))
    rw [hst]; unfold bestStep; rw [he]; exact hbv
  | true =>
    refine wpAny_execs_cons (wpAny_If (search_test2 (s := { s with toks := t1 }) X hL hi hfew hmb hbv hbo hmk fun t2 => ?_))
    have keepC : (match bestTo spans (start.map (·.1)) i with | none => true | some j => decide (endOf spans i < endOf spans j)) = false → BV bv (bestTo spans (start.map (·.1)) (i + 1)) := fun h => by
      rw [hst]; unfold bestStep; rw [he, if_pos rfl]
      cases hb : bestTo spans (start.map (·.1)) i with
      | none => rw [hb] at h; cases h
      | some j =>
        rw [hb] at h hbv
        dsimp only at h ⊢
        rw [if_neg (of_decide_eq_false h)]; exact hbv
    have newC : (match bestTo spans (start.map (·.1)) i with | none => true | some j => decide (endOf spans i < endOf spans j)) = true → bestTo spans (start.map (·.1)) (i + 1) = some i := fun h => by
      rw [hst]; unfold bestStep; rw [he, if_pos rfl]
      cases hb : bestTo spans (start.map (·.1)) i with
      | none => rfl
      | some j =>
        rw [hb] at h
        dsimp only at h ⊢
        rw [if_pos (of_decide_eq_true h)]
    cases hc : (match bestTo spans (start.map (·.1)) i with | none => true | some j => decide (endOf spans i < endOf spans j)) with
    | false =>
      refine wpAny_execs_nil (wpAny_execs_nil (wpAny_execs_nil (hQ _ m bv (Upd.toks _ _ _) hL hm2 hmb (keepC hc))))
    | true =>
      refine wpAny_execs_cons (wpAny_Assign_Name ?_)
      refine wpAny_Name (wpAny_loadName_local (s := { s with toks := t2 }) rfl rfl hL hmk ?_)
      refine wpAny_storeName_local (s := { s with toks := t2 }) rfl hL fun h' hn hs => ?_
      refine wpAny_execs_nil (wpAny_execs_nil (wpAny_execs_nil (hQ _ _ (.int (0 + (i : Int)) tk) ?_ hn ?_ ?_ ?_)))
      · exact (Upd.toks [L] s t2).trans (Upd.same (s := { s with toks := t2 }) hs)
      · exact hm2
      · rfl
      · rw [newC hc]; exact ⟨tk, by rw [Int.zero_add]⟩
end
end
end Mine

-- part: MjSearch2
namespace Mine

theorem pl_at {h h' : Heap} {a : Addr} {xs : Array Value} (x : h.PlainList a xs) (k : ∀ o, h.get? a = some o → h'.get? a = some o) : h'.PlainList a xs := x.at k
theorem Ns_at {h h' : Heap} {a : Addr} {m : Str → Option Value} (x : h.Ns a m) (k : ∀ o, h.get? a = some o → h'.get? a = some o) : h'.Ns a m := x.at' k

section
variable {prog : Program} {w : World} {A : Around} {E : Value → Shared → Prop} {s : Shared} {g : Heap} {spans : List (Int × Int)} {hitA : List Addr} {fS aA : Addr}

section
variable {q : Str} {cA cH cS dT L c' aS aH : Addr} {doc pm ct rowV : Value} {start : Option (Int × Tok)} {m : Str → Option Value} {tups : Array Value}

theorem search_append {xs : Array Value} {Q : Flow → Shared → Prop} (hcA : s.heap.IsCell cA (some (.ref aA))) (hA : s.heap.PlainList aA xs) (hsz : xs.size ≤ 1000) (hL : s.heap.Ns L m)
    (hm1 : m "chars" = some rowV) (hm2 : m "start" = some (stV start))
    (hQ : ∀ s' T, Upd [aA] s s' → s'.heap.PlainList aA (xs.push (.ref T)) → s.heap.get? T = none → IsTup s'.heap T #[rowV, stV start] → Q .next s') :
    wpAny (model prog w) A (exec ((stBody seS).getD 0 default) (seEnv q cA cH cS dT doc pm c' ct L fS)) Q E s := by
  refine wpAny_Expr ?_
  refine methodCall_KW (pl := ?_) ?_
  rotate_left
  · refine wpAny_Name (wpAny_loadName_free rfl rfl (c := cA) rfl hcA ?_)
    obtain ⟨n, hn⟩ := id hA
    refine Calls.getMethod_list_append hn rfl rfl ?_
    refine Calls.callWith_builtin rfl (Calls.evalArgs_plain (Calls.spliced_cons ?_))
    refine wpAny_Tuple (k := 0) ?_
    refine wpAny_items_cons ?_
    refine wpAny_Name (wpAny_loadName_local rfl rfl hL hm1 ?_)
    refine wpAny_items_cons ?_
    refine wpAny_Name (wpAny_loadName_local rfl rfl hL hm2 ?_)
    refine wpAny_items_nil ?_
    refine ⟨by size_fits, ?_⟩
    refine Calls.spliced_nil ?_
    have hlt : aA < s.heap.objs.size := Heap.lt_size hn
    refine append_pl (s := { s with heap := _ }) (l := aA) (items := xs) (x := .ref s.heap.objs.size) ⟨n, Heap.get?_push_of_some _ hn⟩ (by omega) fun h' hp hs => ?_
    refine hQ _ s.heap.objs.size ?_ hp (Heap.get?_none_of_le (Nat.le_refl _)) ?_
    · exact Upd.of (tk := s.toks) fun b o hb e => (hs.2 b (fun z => hb (by rw [z]; exact .head _))).trans (Heap.get?_push_of_some _ e)
    · exact ⟨_, (hs.2 _ (Nat.ne_of_gt hlt)).trans (Heap.get?_push_size _ rfl), rfl, 0, rfl⟩

theorem name_global {env : Env} {x : Str} {pos : Pos} {mg mb : Str → Option Value} {v : Value} {Q : Value → Shared → Prop} (hk : env.scope.kind = .function) (hx : env.kindOf x = some .globalImplicit)
    (hg : s.heap.Ns env.globals mg) (hmiss : mg x = none) (hb : s.heap.Ns env.builtins mb) (hv : mb x = some v) (h : Q v s) (hd : (x == ("__debug__" : Str)) = false := by decide) :
    wpAny (model prog w) A (eval (.Name x pos) env) Q E s := Calls.Name_function_global hk hx (Calls.loadGlobal_builtin hg hmiss hb hv h) hd

theorem search_loop {mg mb : Str → Option Value} {Q : Flow → Shared → Prop} (hh : A.handled = none) (X : SeRead s.heap spans cS aS tups) (htsz : tups.size = spans.length) (hfew : spans.length ≤ 100) (hL : s.heap.Ns L m)
    (hg : s.heap.Ns mainGlobals mg) (g1 : mg "range" = none) (g2 : mg "len" = none) (hb : s.heap.Ns builtinsNs mb) (b1 : mb "range" = some (.type "range")) (b2 : mb "len" = some (.builtin "len"))
    (hm2 : m "start" = some (stV start)) (hmb : m "best" = some .none)
    (hLS : ∀ o, s.heap.get? L = some o → SeRead (hideAll s.heap [L]) spans cS aS tups)
    (hQ : ∀ s' m' bv', Upd [L] s s' → s'.heap.Ns L m' → m' "best" = some bv' → BV bv' (best spans (start.map (·.1))) → Q .next s') :
    wpAny (model prog w) A (exec seFor (seEnv q cA cH cS dT doc pm c' ct L fS)) Q E s := by
  have hLlt : L < s.heap.objs.size := hL.lt
  refine wpAny_For ?_
  refine wpAny_Call_NameR (name_global rfl rfl hg g1 hb b1 ?_)
  refine PySem.callWith_type rfl (Calls.evalArgs_plain (Calls.spliced_cons ?_))
  refine wpAny_Call_NameR (name_global rfl rfl hg g2 hb b2 ?_)
  refine Calls.callWith_builtin rfl (Calls.evalArgs_plain (Calls.spliced_cons ?_))
  refine wpAny_Name (wpAny_loadName_free rfl rfl (c := cS) rfl X.cell ?_)
  refine Calls.spliced_nil ?_
  refine Calls.call_len_list X.lst (by omega) ?_
  refine Calls.spliced_nil ?_
  refine call_range_1 ?_
  have hk1 : ∀ b o, s.heap.get? b = some o → (s.heap.push { cls := .type "range", data := .fields #[.int 0 (s.toks + 1 + 1), .int (tups.size : Int) (s.toks + 1), .int 1 (s.toks + 1 + 1 + 1)] }).get? b = some o := fun b o e => Heap.get?_push_of_some _ e
  obtain ⟨oL, _, _, hoL, _⟩ := id hL
  have XG := hLS oL hoL
  refine range_for (X := [L]) (s₁ := s) (n := spans.length) (a := 0) (b := (tups.size : Int)) hh (IsRange.new ..) ?_ (by decide) (by decide) (by omega) (by omega) ?_
    (fun i h => ∃ m bv, h.Ns L m ∧ m "start" = some (stV start) ∧ m "best" = some bv ∧ BV bv (bestTo spans (start.map (·.1)) i)) ?_ ?_ ?_ ?_ ?_ ?_
  · rw [htsz]; split <;> omega
  · exact Upd.of0 hk1
  · rintro i h h' ⟨m, bv, h1, h2⟩ k
    exact ⟨m, bv, h1.at' (k L (.head _)), h2⟩
  · intro b hb
    rcases List.mem_cons.mp hb with rfl | hb
    · simp only [Heap.size_push]; exact Nat.lt_succ_of_lt hLlt
    · cases hb
  · intro b o e
    simp only [Heap.size_push]; exact Nat.lt_succ_of_lt (Heap.lt_size e)
  · rintro i tk s₂ hi U ⟨m₂, bv, h1, h2, h3, h4⟩ E'
    refine wpAny_assign_Name (wpAny_storeName_local rfl h1 fun h' hn hs => ?_)
    have U3 : Upd [L] s₂ { s₂ with heap := h', toks := s₂.toks + 1 } := Upd.same hs
    have X3 : SeRead h' spans cS aS tups := XG.keeps fun b o e => (U.trans U3).keep (fun z => by rw [hideAll_none [L] z] at e; cases e) (of_hideAll _ e)
    refine search_turn (s := { s₂ with heap := h', toks := s₂.toks + 1 }) (tk := tk) X3 hn hi hfew h2 h3 h4 rfl fun s' m' bv' U4 a1 a2 a3 a4 => ?_
    exact ⟨U3.trans U4, m', bv', a1, a2, a3, a4⟩
  · rintro s₂ U ⟨m₂, bv, h1, h2, h3, h4⟩
    exact hQ s₂ m₂ bv U h1 h3 h4
  · exact ⟨m, .none, hL.push _, hm2, hmb, rfl⟩

theorem search_body {xs : Array Value} {Q : Flow → Shared → Prop} (B : Bed g spans hitA fS aA) (k : ∀ b o, g.get? b = some o → s.heap.get? b = some o)
    (hcA : g.IsCell cA (some (.ref aA))) (hcH : g.IsCell cH (some (.ref aH))) (XG : SeRead g spans cS aS tups)
    (haH : g.IsList aH (hitA.map Value.ref).toArray) (htsz : tups.size = spans.length)
    (hA : s.heap.PlainList aA xs) (hsz : xs.size ≤ 1000) (hh : A.handled = none) (hL : s.heap.Ns L m) (hLg : g.get? L = none) (hm1 : m "chars" = some rowV) (hm2 : m "start" = some (stV start))
    (hQ : ∀ s' T, Upd [aA, L] s s' → s'.heap.PlainList aA (xs.push (.ref T)) → s.heap.get? T = none → IsTup s'.heap T #[rowV, stV start] → Q (.ret (hitV hitA (best spans (start.map (·.1))))) s') :
    wpAny (model prog w) A (execs (stBody seS) (seEnv q cA cH cS dT doc pm c' ct L fS)) Q E s := by
  have hLA : L ≠ aA := fun z => by
    obtain ⟨n, hn⟩ := hA
    obtain ⟨o, es, ep, e1, e2, _⟩ := hL
    rw [z, hn] at e1; cases e1; cases e2
  obtain ⟨mg, mb, G1, G2, G3, G4, G5, G6⟩ := B.glob
  refine wpAny_execs_cons ?_
  refine search_append (hcA.keeps k) hA hsz hL hm1 hm2 fun s₁ T U1 P1 n1 t1 => ?_
  have k1 : ∀ b o, g.get? b = some o → s₁.heap.get? b = some o := U1.ghost (fun b hb => by rcases List.mem_cons.mp hb with rfl | hb; exact B.none; cases hb) k
  have hL1 : s₁.heap.Ns L m := hL.at' fun o e => U1.keep (fun z => by rcases List.mem_cons.mp z with z | z; exact hLA z; cases z) e
  refine wpAny_execs_cons (wpAny_Assign_Name ?_)
  refine wpAny_Constant_none ?_
  refine wpAny_storeName_local rfl hL1 fun h₂ hn₂ hs₂ => ?_
  have U2 : Upd [L] s₁ { s₁ with heap := h₂, toks := s₁.toks + 1 } := Upd.same hs₂
  have gL : ∀ b ∈ [L], g.get? b = none := fun b hb => by rcases List.mem_cons.mp hb with rfl | hb; exact hLg; cases hb
  have k2 : ∀ b o, g.get? b = some o → h₂.get? b = some o := U2.ghost gL k1
  refine wpAny_execs_cons ?_
  refine search_loop (s := { s₁ with heap := h₂, toks := s₁.toks + 1 }) hh (XG.keeps k2) htsz B.few hn₂ (G1.keeps k2) G2 G3 (G4.keeps k2) G5 G6 hm2 rfl ?_ fun s₃ m₃ bv U3 a1 a2 a3 => ?_
  · intro o _
    exact XG.keeps fun b o e => hideAll_get _ (k2 b o e) fun z => by rw [gL b z] at e; cases e
  have k3 : ∀ b o, g.get? b = some o → s₃.heap.get? b = some o := U3.ghost gL k2
  have U13 : Upd [L] s₁ s₃ := U2.trans U3
  have nA : aA ∉ [L] := fun z => by rcases List.mem_cons.mp z with z | z; exact hLA z.symm; cases z
  have UU : Upd [aA, L] s s₃ := (U1.mono fun b hb => by rcases List.mem_cons.mp hb with rfl | hb; exact .head _; cases hb).trans (U13.mono fun b hb => .tail _ hb)
  have P3 : s₃.heap.PlainList aA (xs.push (.ref T)) := P1.at fun o e => U13.keep nA e
  have T3 : IsTup s₃.heap T #[rowV, stV start] := by
    obtain ⟨o, e, r⟩ := t1
    refine ⟨o, U13.keep (fun z => ?_) e, r⟩
    rcases List.mem_cons.mp z with z | z
    · obtain ⟨oL, _, _, eL, _⟩ := hL
      rw [← z, n1] at eL; cases eL
    · cases z
  have fin : Q (.ret (hitV hitA (best spans (start.map (·.1))))) s₃ := hQ s₃ T UU P3 n1 T3
  refine wpAny_execs_cons (wpAny_Return_some ?_)
  refine wpAny_IfExp ?_
  refine wpAny_isTrue_Compare1 ?_
  refine wpAny_Name (wpAny_loadName_local rfl rfl a1 a2 ?_)
  refine wpAny_Constant_none ?_
  refine is_none ?_
  refine wpAny_truthy_bool ?_
  cases hb : best spans (start.map (·.1)) with
  | none =>
    rw [hb] at a3 fin
    have : bv = .none := a3
    subst this
    exact wpAny_Constant_none fin
  | some j =>
    rw [hb] at a3 fin
    obtain ⟨t, rfl⟩ := a3
    have hj := (best_some hb).1
    have hjl : j < hitA.length := by rw [B.fewA]; exact hj
    have hfew := B.few
    show wpAny _ _ (eval (.Subscript _ _ _) _) _ _ _
    refine list_item (a := aH) (items := (hitA.map Value.ref).toArray) (k := (j : Int)) (t := t) (x := .ref (hitA.getD j 0)) ?_ (by omega) (by omega) ?_
    · refine wpAny_Name (wpAny_loadName_free rfl rfl (c := cH) rfl (hcH.keeps k3) ?_)
      refine wpAny_Name (wpAny_loadName_local rfl rfl a1 a2 ?_)
      exact ⟨rfl, rfl, (let ⟨o, e, r⟩ := haH; ⟨o, k3 _ _ e, r⟩), fin⟩
    · rw [show ((j : Int)).toNat = j by omega]
      simp [hjl]
end
end
end Mine

-- part: MjSearch3
namespace Mine
section
variable {prog : Program} {w : World} {A : Around} {E : Value → Shared → Prop} {s : Shared} {g : Heap} {spans : List (Int × Int)} {hitA : List Addr} {fS aA : Addr}

theorem seNoCell : ∀ x ∈ (stScope seS).names, x.2 ≠ .cell := by decide

theorem search_call {rowV : Value} {start : Option (Int × Tok)} {xs : Array Value} {args : List Value} {Q : Value → Shared → Prop} (B : Bed g spans hitA fS aA) (k : ∀ b o, g.get? b = some o → s.heap.get? b = some o)
    (hA : s.heap.PlainList aA xs) (hsz : xs.size ≤ 1000) (hh : A.handled = none) (hroom : A.depth < recursionLimit)
    (hargs : (start = none ∧ args = [rowV]) ∨ (∃ j t, start = some (j, t) ∧ args = [rowV, .int j t]))
    (hQ : ∀ s' T, Upd [aA] s s' → s'.heap.PlainList aA (xs.push (.ref T)) → s.heap.get? T = none → IsTup s'.heap T #[rowV, stV start] → Q (hitV hitA (best spans (start.map (·.1)))) s') :
    wpAny (model prog w) A (call (.ref fS) args) Q E s := by
  obtain ⟨aS, aH, tups, ⟨q, cA, cH, cS, dT, doc, pm, c', ct, dd, sl, f1, f2, ⟨oT, nT, f3, f4⟩, f5, f6, f7⟩, l1, l2, l3, l4⟩ := B.se
  have hb : BindsTo s (seFn q cA cH cS dT doc pm c' ct) ⟨args, []⟩ [("chars", rowV), ("start", stV start)] := by
    rcases hargs with ⟨rfl, rfl⟩ | ⟨j, t, rfl, rfl⟩
    · exact BindsTo.of_defaults rfl (k _ _ f3) f4 rfl rfl
    · exact BindsTo.of_defaults rfl (k _ _ f3) f4 rfl rfl
  refine wpAny_call (codeAny_call_def (fd := seFn q cA cH cS dT doc pm c' ct) (body := stBody seS) hroom (k _ _ f1) rfl (B.lim.keeps k) (f2.keeps k) rfl hb seNoCell ?_ ?_ rfl rfl rfl)
  · intro x hx
    rcases List.mem_cons.mp hx with rfl | hx
    · rfl
    · rcases List.mem_cons.mp hx with rfl | hx
      · rfl
      · cases hx
  · intro h₀ hns hk
    have hLg : g.get? s.heap.objs.size = none := by
      cases e : g.get? s.heap.objs.size with
      | none => rfl
      | some o => exact absurd (Heap.lt_size (k _ _ e)) (Nat.lt_irrefl _)
    obtain ⟨n, hn⟩ := id hA
    refine search_body (s := { s with heap := h₀, toks := s.toks + 2 }) (L := s.heap.objs.size) (rowV := rowV) (start := start) B (fun b o e => hk b o (k b o e)) f5 f6 ⟨f7, l1, l4⟩ l2 l3 ⟨n, hk _ _ hn⟩ hsz hh hns hLg rfl rfl fun s' T U P nT' tT => ?_
    have U0 : Upd [] s { s with heap := h₀, toks := s.toks + 2 } := Upd.of0 hk
    refine hQ s' T ?_ P ?_ tT
    · refine ((U0.mono (Y := [aA, s.heap.objs.size]) fun b hb => by cases hb).trans U).drop fun b hb => ?_
      rcases List.mem_cons.mp hb with rfl | hb
      · exact .inl (.head _)
      · rcases List.mem_cons.mp hb with rfl | hb
        · exact .inr (Heap.get?_none_of_le (Nat.le_refl _))
        · cases hb
    · cases e : s.heap.get? T with
      | none => rfl
      | some o => have := hk _ _ e; rw [nT'] at this; cases this
end
end Mine

-- part: MjRev
namespace Mine

/-! what was asked -/
def StIs (v : Value) : Option Int → Prop
  | none => v = .none
  | some j => ∃ t, v = .int j t
def AskedAre (h : Heap) (rowV : Value) : List Addr → List (Option Int) → Prop
  | [], [] => True
  | T :: ts, st :: sts => (∃ v, IsTup h T #[rowV, v] ∧ StIs v st) ∧ AskedAre h rowV ts sts
  | _, _ => False
theorem AskedAre.snoc {h : Heap} {rowV v : Value} {T : Addr} {st : Option Int} (hv : IsTup h T #[rowV, v]) (hs : StIs v st) : ∀ {ts : List Addr} {sts : List (Option Int)}, AskedAre h rowV ts sts → AskedAre h rowV (ts ++ [T]) (sts ++ [st])
  | [], [], _ => ⟨⟨v, hv, hs⟩, trivial⟩
  | [], _ :: _, h => h.elim
  | _ :: _, [], h => h.elim
  | _ :: _, _ :: _, ⟨a, b⟩ => ⟨a, AskedAre.snoc hv hs b⟩
theorem AskedAre.length {h : Heap} {rowV : Value} : ∀ {ts : List Addr} {sts : List (Option Int)}, AskedAre h rowV ts sts → ts.length = sts.length
  | [], [], _ => rfl
  | [], _ :: _, h => h.elim
  | _ :: _, [], h => h.elim
  | _ :: _, _ :: _, ⟨_, b⟩ => by simp only [List.length_cons, AskedAre.length b]
def IsT (o : Obj) : Prop := o.cls = .type "tuple" ∧ ∃ its n, o.data = .seq its n
theorem AskedAre.keeps {h h' : Heap} {rowV : Value} (k : ∀ b o, IsT o → h.get? b = some o → h'.get? b = some o) : ∀ {ts : List Addr} {sts : List (Option Int)}, AskedAre h rowV ts sts → AskedAre h' rowV ts sts
  | [], [], _ => trivial
  | [], _ :: _, h => h.elim
  | _ :: _, [], h => h.elim
  | _ :: _, _ :: _, ⟨⟨v, ⟨o, e, c, n, d⟩, s⟩, b⟩ => ⟨⟨v, ⟨o, k _ _ ⟨c, _, _, d⟩ e, c, n, d⟩, s⟩, AskedAre.keeps k b⟩

/-- the objects at X are no tuples -/
def NoT (h : Heap) (X : List Addr) : Prop := ∀ b ∈ X, ∀ o, h.get? b = some o → ¬ IsT o
theorem Upd.keepT {X : List Addr} {s s' : Shared} (U : Upd X s s') (n : NoT s.heap X) : ∀ b o, IsT o → s.heap.get? b = some o → s'.heap.get? b = some o := fun b o t e => U.keep (fun z => n b z o e t) e
theorem noT_pl {h : Heap} {a : Addr} {xs : Array Value} (x : h.PlainList a xs) : ∀ o, h.get? a = some o → ¬ IsT o := fun o e t => by
  obtain ⟨n, hn⟩ := x
  rw [hn] at e; cases e; exact absurd (show Value.type "list" = Value.type "tuple" from t.1) (by decide)
theorem noT_ns {h : Heap} {a : Addr} {m : Str → Option Value} (x : h.Ns a m) : ∀ o, h.get? a = some o → ¬ IsT o := fun o e t => by
  obtain ⟨o', es, ep, e1, e2, _⟩ := x
  rw [e] at e1; cases e1
  obtain ⟨_, its, n, d⟩ := t
  rw [e2] at d; cases d
theorem noT1 {h : Heap} {a : Addr} (x : ∀ o, h.get? a = some o → ¬ IsT o) : NoT h [a] := fun b hb o e => by
  rcases List.mem_cons.mp hb with rfl | hb
  · exact x o e
  · cases hb

/-- the value told: the last of the first n of the chain -/
def told (hitA : List Addr) (ch : List Nat) : Nat → Value
  | 0 => .none
  | n + 1 => .ref (hitA.getD (ch.getD n 0) 0)

abbrev srFn (q : Str) (doc pm : Value) (an : Option Addr) (cd ct : Value) : FuncData :=
  fnX "search_reverse" q (stArgs srS) (stBody srS) (stScope srS) [] .none .none doc pm an cd ct
def SrAt (g : Heap) (fR : Addr) : Prop := ∃ q doc pm an cd ct oc dd sl, g.get? fR = some ⟨oc, dd, .func (srFn q doc pm an cd ct), sl⟩ ∧ g.CodeRec cd q
def ProgAt (g : Heap) (pg fS : Addr) : Prop := ∃ D md, FnDict g pg D md ∧ md "search" = some (.ref fS)

section
variable {prog : Program} {w : World} {A : Around} {E : Value → Shared → Prop} {s : Shared} {g : Heap} {spans : List (Int × Int)} {hitA : List Addr} {fS aA : Addr}

theorem unpack2 {env : Env} {x y : Str} {p1 p2 pos : Pos} {k : Nat} {T : Addr} {v1 v2 : Value} {m : Str → Option Value} {Q : Unit → Shared → Prop} (hh : A.handled = none) (hx : env.kindOf x = some .local) (hy : env.kindOf y = some .local)
    (hp : (env.scope.kind == .class || (env.scope.kind == .module && env.locals != env.globals)) = false) (hT : IsTup s.heap T #[v1, v2]) (hL : s.heap.Ns env.locals m)
    (hQ : ∀ s', Upd [env.locals] s s' → s'.heap.Ns env.locals (fun z => if z = y then some v2 else if z = x then some v1 else m z) → Q () s') :
    wpAny (model prog w) A (assign (.Tuple [.Name x p1, .Name y p2] k pos) env (.ref T)) Q E s := by
  refine assign_Tuple_tuple hh hT rfl rfl fun h' hx' => ?_
  have hne : env.locals ≠ s.heap.objs.size := Nat.ne_of_lt hL.lt
  have hL' : h'.Ns env.locals m := hL.extBut hx' hne
  show wpAny _ _ (assignInOrder [assign (.Name x p1) env, assign (.Name y p2) env] [v1, v2]) _ _ _
  unfold assignInOrder
  refine wpAny_bind (wpAny_holding (wpAny_assign_Name (wpAny_storeName_local hx hL' (fun h₁ hn₁ hs₁ => ?_) hp)))
  unfold assignInOrder
  refine wpAny_bind (wpAny_holding (wpAny_assign_Name (wpAny_storeName_local hy hn₁ (fun h₂ hn₂ hs₂ => ?_) hp)))
  unfold assignInOrder
  refine wpAny_pure (hQ _ ?_ hn₂)
  refine Upd.of fun b o hb e => ?_
  have hb' : b ≠ env.locals := fun z => hb (by rw [z]; exact .head _)
  exact hs₂.extBut b o hb' (hs₁.extBut b o hb' (hx' b o (Nat.ne_of_lt (Heap.lt_size e)) e))

section
variable {q : Str} {doc pm cd ct rowV : Value} {an : Option Addr} {L fR pg : Addr} {m : Str → Option Value} {col : Int} {tc : Tok}

abbrev srEnv (q : Str) (doc pm : Value) (an : Option Addr) (cd ct : Value) (L fR : Addr) : Env := callEnv (srFn q doc pm an cd ct) L fR
abbrev srWhile : Stmt := (stBody srS).getD 4 default

/-- the test of the loop -/
theorem rev_test {i j : Int} {ti tj : Tok} {Q : Bool → Shared → Prop} (hL : s.heap.Ns L m) (h1 : m "i" = some (.int i ti)) (h2 : m "j" = some (.int j tj)) (h3 : m "col" = some (.int col tc)) (hij : i < j)
    (hQ : Q (decide (j ≤ col)) s) : wpAny (model prog w) A (isTrue (stVal srWhile) (srEnv q doc pm an cd ct L fR) (eval (stVal srWhile) (srEnv q doc pm an cd ct L fR))) Q E s := by
  refine wpAny_isTrue_BoolOp ?_
  refine wpAny_allTrue_And_cons ?_
  refine wpAny_isTrue_Compare1 ?_
  refine wpAny_Name (wpAny_loadName_local rfl rfl hL h1 ?_)
  refine wpAny_Name (wpAny_loadName_local rfl rfl hL h3 ?_)
  refine PyProof.Rows.lt_int ?_
  refine wpAny_truthy_bool ?_
  by_cases h : i < col
  · rw [decide_eq_true h, if_pos rfl]
    refine wpAny_allTrue_And_cons ?_
    refine wpAny_isTrue_Compare1 ?_
    refine wpAny_Name (wpAny_loadName_local rfl rfl hL h2 ?_)
    refine wpAny_Name (wpAny_loadName_local rfl rfl hL h3 ?_)
    refine PyProof.Rows.le_int ?_
    refine wpAny_truthy_bool ?_
    cases hd : decide (j ≤ col) with
    | true => rw [hd] at hQ; exact wpAny_allTrue_And_nil hQ
    | false => rw [hd] at hQ; exact hQ
  · rw [decide_eq_false h, if_neg Bool.false_ne_true]
    rw [decide_eq_false (by omega)] at hQ
    exact hQ

/-- prog.search(chars) -/
theorem rev_ask0 {xs : Array Value} {Q : Value → Shared → Prop} (B : Bed g spans hitA fS aA) (P : ProgAt g pg fS) (k : ∀ b o, g.get? b = some o → s.heap.get? b = some o)
    (hA : s.heap.PlainList aA xs) (hsz : xs.size ≤ 1000) (hh : A.handled = none) (hroom : A.depth < recursionLimit) (hL : s.heap.Ns L m) (hm0 : m "prog" = some (.ref pg)) (hm1 : m "chars" = some rowV)
    (hQ : ∀ s' T, Upd [aA] s s' → s'.heap.PlainList aA (xs.push (.ref T)) → s.heap.get? T = none → IsTup s'.heap T #[rowV, .none] → Q (hitV hitA (best spans none)) s') :
    wpAny (model prog w) A (eval (stVal ((stBody srS).getD 0 default)) (srEnv q doc pm an cd ct L fR)) Q E s := by
  obtain ⟨D, md, p1, p2⟩ := P
  obtain ⟨aS, aH, tups, ⟨q', cA, cH, cS, dT, doc', pm', c', ct', dd, sl, f1, _⟩, _⟩ := B.se
  refine methodCall_KW (pl := ?_) ?_
  rotate_left
  · refine wpAny_Name (wpAny_loadName_local rfl rfl hL hm0 ?_)
    refine getMethod_fn (p1.keeps k) FF.lk_search p2 rfl ?_
    refine callWith_F ⟨_, _, _, _, k _ _ f1⟩ ?_
    refine wpAny_items_cons ?_
    refine wpAny_Name (wpAny_loadName_local (s := { s with toks := s.toks + 1 }) rfl rfl hL hm1 ?_)
    refine wpAny_items_nil ?_
    refine ⟨⟨_, _, _, _, k _ _ f1⟩, ?_⟩
    refine search_call (s := { s with toks := s.toks + 1 }) (start := none) B k hA hsz hh hroom (.inl ⟨rfl, rfl⟩) fun s' T U P' n t => ?_
    exact hQ s' T ((Upd.toks _ _ _).trans U) P' n t

/-- prog.search(chars, j) -/
theorem rev_ask1 {xs : Array Value} {j : Int} {tj : Tok} {Q : Value → Shared → Prop} (B : Bed g spans hitA fS aA) (P : ProgAt g pg fS) (k : ∀ b o, g.get? b = some o → s.heap.get? b = some o)
    (hA : s.heap.PlainList aA xs) (hsz : xs.size ≤ 1000) (hh : A.handled = none) (hroom : A.depth < recursionLimit) (hL : s.heap.Ns L m) (hm0 : m "prog" = some (.ref pg)) (hm1 : m "chars" = some rowV) (hm2 : m "j" = some (.int j tj))
    (hQ : ∀ s' T, Upd [aA] s s' → s'.heap.PlainList aA (xs.push (.ref T)) → s.heap.get? T = none → IsTup s'.heap T #[rowV, .int j tj] → Q (hitV hitA (best spans (some j))) s') :
    wpAny (model prog w) A (eval (stVal ((stBody srWhile).getD 2 default)) (srEnv q doc pm an cd ct L fR)) Q E s := by
  obtain ⟨D, md, p1, p2⟩ := P
  obtain ⟨aS, aH, tups, ⟨q', cA, cH, cS, dT, doc', pm', c', ct', dd, sl, f1, _⟩, _⟩ := B.se
  refine methodCall_KW (pl := ?_) ?_
  rotate_left
  · refine wpAny_Name (wpAny_loadName_local rfl rfl hL hm0 ?_)
    refine getMethod_fn (p1.keeps k) FF.lk_search p2 rfl ?_
    refine callWith_F ⟨_, _, _, _, k _ _ f1⟩ ?_
    refine wpAny_items_cons ?_
    refine wpAny_Name (wpAny_loadName_local (s := { s with toks := s.toks + 1 }) rfl rfl hL hm1 ?_)
    refine wpAny_items_cons ?_
    refine wpAny_Name (wpAny_loadName_local (s := { s with toks := s.toks + 1 }) rfl rfl hL hm2 ?_)
    refine wpAny_items_nil ?_
    refine ⟨⟨_, _, _, _, k _ _ f1⟩, ?_⟩
    refine search_call (s := { s with toks := s.toks + 1 }) (start := some (j, tj)) B k hA hsz hh hroom (.inr ⟨j, tj, rfl, rfl⟩) fun s' T U P' n t => ?_
    exact hQ s' T ((Upd.toks _ _ _).trans U) P' n t

theorem Bed.hitAt (B : Bed g spans hitA fS aA) {b : Nat} (hb : b < spans.length) : HitAt g (hitA.getD b 0) (firstOf spans b) (endOf spans b) := by
  obtain ⟨a, e, h⟩ := B.hit b hb
  have : hitA.getD b 0 = a := by simp [List.getD, e]
  rw [this]; exact h

/-- i, j = m.span() -/
theorem rev_span {st : Stmt} {b : Nat} {Q : Flow → Shared → Prop} (hst : st = (stBody srS).getD 3 default ∨ st = (stBody srWhile).getD 4 default) (B : Bed g spans hitA fS aA) (k : ∀ b o, g.get? b = some o → s.heap.get? b = some o) (hb : b < spans.length)
    (hh : A.handled = none) (hroom : A.depth < recursionLimit) (hL : s.heap.Ns L m) (hm : m "m" = some (.ref (hitA.getD b 0)))
    (hQ : ∀ s' ti tj, Upd [L] s s' → s'.heap.Ns L (fun z => if z = "j" then some (.int (endOf spans b) tj) else if z = "i" then some (.int (firstOf spans b) ti) else m z) → Q .next s') :
    wpAny (model prog w) A (exec st (srEnv q doc pm an cd ct L fR)) Q E s := by
  have H := (B.hitAt hb).keeps k
  rcases hst with rfl | rfl
  all_goals
    refine Assign_Tuple ?_
    refine methodCall_KW (pl := ?_) ?_
    rotate_left
    · refine wpAny_Name (wpAny_loadName_local rfl rfl hL hm ?_)
      refine span_meth H (B.lim.keeps k) hroom fun T h' tk tf tb hk hn ht => ?_
      refine unpack2 (s := { s with heap := h', toks := tk }) hh rfl rfl rfl ht (hL.keeps hk) fun s' U N => ?_
      exact hQ s' tf tb ((Upd.of0 hk).trans U) N
end
end
end Mine

-- part: MjRev2
namespace Mine

/-- the ends told till col -/
def over (spans : List (Int × Int)) (ch : List Nat) (col : Int) : List Int := (ch.map (endOf spans)).filter fun e => decide (e ≤ col)
theorem over_all {spans : List (Int × Int)} {ch : List Nat} {col : Int} (h : ∀ x ∈ ch, endOf spans x ≤ col) : over spans ch col = ch.map (endOf spans) := by
  unfold over
  refine List.filter_eq_self.mpr fun e he => ?_
  obtain ⟨x, hx, rfl⟩ := List.mem_map.mp he
  exact decide_eq_true (h x hx)
theorem over_cut {spans : List (Int × Int)} {pre rest : List Nat} {b : Nat} {col : Int} (hf : Fine spans) (h : ∀ x ∈ pre, endOf spans x ≤ col) (hb : ¬ endOf spans b ≤ col) (hc : Chain spans (some (endOf spans b)) rest) :
    over spans (pre ++ b :: rest) col = pre.map (endOf spans) := by
  have h1 := over_all h
  unfold over at h1 ⊢
  rw [List.map_append, List.filter_append, h1]
  have : (List.map (endOf spans) (b :: rest)).filter (fun e => decide (e ≤ col)) = [] := by
    refine List.filter_eq_nil_iff.mpr fun e he => ?_
    obtain ⟨x, hx, rfl⟩ := List.mem_map.mp he
    rcases List.mem_cons.mp hx with rfl | hx
    · simpa using hb
    · have := (hc.starts hf x hx).2
      simp only [decide_eq_true_eq]
      omega
  rw [this, List.append_nil]
theorem told_snoc {hitA : List Addr} {pre rest : List Nat} {b : Nat} : told hitA (pre ++ b :: rest) (pre.length + 1) = .ref (hitA.getD b 0) := by
  show Value.ref (hitA.getD ((pre ++ b :: rest).getD pre.length 0) 0) = _
  have : (pre ++ b :: rest).getD pre.length 0 = b := by simp [List.getD]
  rw [this]

/-- what stands behind the loop of search_reverse -/
def RevOut (s s' : Shared) (aA L : Addr) (xs : Array Value) (rowV : Value) (hitA : List Addr) (ch : List Nat) (ov : List Int) : Prop :=
  ∃ m ts, Upd [aA, L] s s' ∧ s'.heap.Ns L m ∧ m "found" = some (told hitA ch ov.length) ∧ s'.heap.PlainList aA (xs ++ (ts.map Value.ref).toArray) ∧ AskedAre s'.heap rowV ts (none :: ov.map some)

section
variable {prog : Program} {w : World} {A : Around} {E : Value → Shared → Prop} {s : Shared} {g : Heap} {spans : List (Int × Int)} {hitA : List Addr} {fS aA : Addr}
  {q : Str} {doc pm cd ct rowV : Value} {an : Option Addr} {L fR pg : Addr} {col : Int} {tc : Tok}

structure RevIn (s₀ s : Shared) (g : Heap) (spans : List (Int × Int)) (hitA : List Addr) (aA L : Addr) (xs : Array Value) (rowV : Value) (pg : Addr) (col : Int) (tc : Tok) (ch pre : List Nat) (b : Nat) (rest : List Nat) (m : Str → Option Value) (ts : List Addr) (ti tj : Tok) : Prop where
  eq : ch = pre ++ b :: rest
  chain : Chain spans (some (endOf spans b)) rest
  lt : b < spans.length
  till : ∀ x ∈ pre, endOf spans x ≤ col
  upd : Upd [aA, L] s₀ s
  ns : s.heap.Ns L m
  mp : m "prog" = some (.ref pg)
  mc : m "chars" = some rowV
  mcol : m "col" = some (.int col tc)
  mm : m "m" = some (.ref (hitA.getD b 0))
  mi : m "i" = some (.int (firstOf spans b) ti)
  mj : m "j" = some (.int (endOf spans b) tj)
  mf : m "found" = some (told hitA ch pre.length)
  pl : s.heap.PlainList aA (xs ++ (ts.map Value.ref).toArray)
  asked : AskedAre s.heap rowV ts (none :: (pre.map (endOf spans)).map some)

theorem noT2 {h : Heap} {aA L : Addr} {xs : Array Value} {m : Str → Option Value} (h1 : h.PlainList aA xs) (h2 : h.Ns L m) : NoT h [aA, L] := fun b hb o e => by
  rcases List.mem_cons.mp hb with rfl | hb
  · exact noT_pl h1 o e
  · rcases List.mem_cons.mp hb with rfl | hb
    · exact noT_ns h2 o e
    · cases hb

theorem one_none {g : Heap} {a : Addr} (h : g.get? a = none) : ∀ b ∈ [a], g.get? b = none := fun b hb => by
  rcases List.mem_cons.mp hb with rfl | hb
  · exact h
  · cases hb
theorem two_none {g : Heap} {a c : Addr} (h : g.get? a = none) (h' : g.get? c = none) : ∀ b ∈ [a, c], g.get? b = none := fun b hb => by
  rcases List.mem_cons.mp hb with rfl | hb
  · exact h
  · exact one_none h' b hb
theorem not_one {a b : Addr} (h : a ≠ b) : a ∉ [b] := fun z => by
  rcases List.mem_cons.mp z with z | z
  · exact h z
  · cases z
theorem sub1 {a : Addr} {X : List Addr} : ∀ b ∈ [a], b ∈ a :: X := fun b hb => by
  rcases List.mem_cons.mp hb with rfl | hb
  · exact .head _
  · cases hb

theorem push_ts {xs : Array Value} {ts : List Addr} {T : Addr} : (xs ++ (ts.map Value.ref).toArray).push (.ref T) = xs ++ ((ts ++ [T]).map Value.ref).toArray := by
  apply Array.ext'
  simp

/-- the loop of search_reverse -/
theorem rev_turn {s₀ : Shared} {xs : Array Value} {ch pre rest : List Nat} {b : Nat} {m : Str → Option Value} {ts : List Addr} {ti tj : Tok} {Q : Flow → Shared → Prop} (B : Bed g spans hitA fS aA) (P : ProgAt g pg fS) (hf : Fine spans) (k₀ : ∀ b o, g.get? b = some o → s₀.heap.get? b = some o) (hLg : g.get? L = none)
    (hch : ch.length ≤ 24) (hsz : xs.size ≤ 900) (hh : A.handled = none) (hroom : A.depth < recursionLimit)
    (J : RevIn s₀ s g spans hitA aA L xs rowV pg col tc ch pre b rest m ts ti tj) (hle : endOf spans b ≤ col)
    (hnext : ∀ s' b' rest' m' ts' ti' tj', rest = b' :: rest' → RevIn s₀ s' g spans hitA aA L xs rowV pg col tc ch (pre ++ [b]) b' rest' m' ts' ti' tj' → Q .next s')
    (hbrk : ∀ s', rest = [] → RevOut s₀ s' aA L xs rowV hitA ch (ch.map (endOf spans)) → Q .brk s') :
    wpAny (model prog w) A (execs (stBody srWhile) (srEnv q doc pm an cd ct L fR)) Q E s := by
  have hfb := hf b J.lt
  have hLA : L ≠ aA := fun z => by
    obtain ⟨n, hn⟩ := J.pl
    obtain ⟨o, es, ep, e1, e2, _⟩ := J.ns
    rw [z, hn] at e1; cases e1; cases e2
  have hX : ∀ b ∈ [aA, L], g.get? b = none := two_none B.none hLg
  have k : ∀ b o, g.get? b = some o → s.heap.get? b = some o := J.upd.ghost hX k₀
  -- found = m
  refine wpAny_execs_cons (wpAny_Assign_Name ?_)
  refine wpAny_Name (wpAny_loadName_local rfl rfl J.ns J.mm ?_)
  refine wpAny_storeName_local rfl J.ns fun h₁ hn₁ hs₁ => ?_
  have U1 : Upd [L] s { s with heap := h₁, toks := s.toks + 1 } := Upd.same hs₁
  have k1 : ∀ b o, g.get? b = some o → h₁.get? b = some o := U1.ghost (one_none hLg) k
  -- if i == j
  refine wpAny_execs_cons (wpAny_If ?_)
  refine wpAny_isTrue_Compare1 ?_
  refine wpAny_Name (wpAny_loadName_local (s := { s with heap := h₁, toks := s.toks + 1 }) rfl rfl hn₁ J.mi ?_)
  refine wpAny_Name (wpAny_loadName_local (s := { s with heap := h₁, toks := s.toks + 1 }) rfl rfl hn₁ J.mj ?_)
  refine PyProof.Rows.eq_int ?_
  refine wpAny_truthy_bool ?_
  rw [show (firstOf spans b == endOf spans b) = false by simp; omega, if_neg Bool.false_ne_true]
  refine wpAny_execs_nil ?_
  -- m = prog.search(chars, j)
  have P1 : h₁.PlainList aA (xs ++ (ts.map Value.ref).toArray) := J.pl.at fun o e => U1.keep (not_one hLA.symm) e
  have A1 : AskedAre h₁ rowV ts (none :: (pre.map (endOf spans)).map some) := J.asked.keeps (U1.keepT (noT1 (noT_ns J.ns)))
  have hlen : ts.length = pre.length + 1 := by rw [J.asked.length]; simp
  have hpl : pre.length ≤ 24 := by
    have := congrArg List.length J.eq
    simp at this
    omega
  refine wpAny_execs_cons (wpAny_Assign_Name ?_)
  refine rev_ask1 (s := { s with heap := h₁, toks := s.toks + 1 }) (tj := tj) B P k1 P1 (by simp; omega) hh hroom hn₁ J.mp J.mc J.mj fun s₂ T U2 P2 nT tT => ?_
  have hn₂ := hn₁.at' (h' := s₂.heap) fun o e => U2.keep (not_one hLA) e
  have A2 : AskedAre s₂.heap rowV ts (none :: (pre.map (endOf spans)).map some) := A1.keeps (U2.keepT (noT1 (noT_pl P1)))
  refine wpAny_storeName_local rfl hn₂ fun h₃ hn₃ hs₃ => ?_
  have U3 : Upd [L] s₂ { s₂ with heap := h₃, toks := s₂.toks + 1 } := Upd.same hs₃
  have P3 : h₃.PlainList aA ((xs ++ (ts.map Value.ref).toArray).push (.ref T)) := P2.at fun o e => U3.keep (not_one hLA.symm) e
  have k3 : ∀ b o, g.get? b = some o → h₃.get? b = some o := U3.ghost (one_none hLg) (U2.ghost (one_none B.none) k1)
  have A3 : AskedAre h₃ rowV (ts ++ [T]) ((none :: (pre.map (endOf spans)).map some) ++ [some (endOf spans b)]) := by
    have A3' := AskedAre.snoc (v := .int (endOf spans b) tj) (st := some (endOf spans b)) tT ⟨tj, rfl⟩ A2
    exact A3'.keeps (U3.keepT (noT1 (noT_ns hn₂)))
  have eA : (none :: (pre.map (endOf spans)).map some) ++ [some (endOf spans b)] = none :: ((pre ++ [b]).map (endOf spans)).map some := by simp
  rw [eA] at A3
  rw [push_ts] at P3
  have UU : Upd [aA, L] s { s₂ with heap := h₃, toks := s₂.toks + 1 } :=
    ((U1.mono fun b hb => .tail _ hb).trans (U2.mono sub1)).trans (U3.mono fun b hb => .tail _ hb)
  have U0 := J.upd.trans UU
  have hT1 : told hitA ch (pre.length + 1) = .ref (hitA.getD b 0) := by rw [J.eq]; exact told_snoc
  -- if not m: break
  refine wpAny_execs_cons (wpAny_If ?_)
  refine wpAny_isTrue_Not ?_
  refine wpAny_isTrue_value ?_
  refine wpAny_Name (wpAny_loadName_local (s := { s₂ with heap := h₃, toks := s₂.toks + 1 }) rfl rfl hn₃ rfl ?_)
  cases hrest : rest with
  | nil =>
    have hc := J.chain
    rw [hrest] at hc
    cases hc with
    | nil hb =>
    rw [hb]
    show wpAny _ _ (truthy .none) _ _ _
    refine wpAny_pure ?_
    show wpAny _ _ (execs _ _) _ _ _
    refine wpAny_execs_cons (wpAny_Break ?_)
    have hall : ch = pre ++ [b] := by rw [J.eq, hrest]
    refine hbrk _ hrest ⟨_, ts ++ [T], U0, hn₃, ?_, P3, ?_⟩
    · show some (Value.ref (hitA.getD b 0)) = some (told hitA ch (ch.map (endOf spans)).length)
      rw [← hT1, hall]; simp
    · rw [hall]; exact A3
  | cons b' rest' =>
    have hc := J.chain
    rw [hrest] at hc
    cases hc with
    | cons hb hc' =>
    obtain ⟨hb1, _⟩ := best_some hb
    rw [hb]
    obtain ⟨Dh, mdh, _, _, _, _, _, _, _, _, _, _, _, hfd, _⟩ := (B.hitAt hb1).keeps k3
    obtain ⟨fdh, slh, hobj, _⟩ := hfd
    show wpAny _ _ (truthy (.ref (hitA.getD b' 0))) _ _ _
    refine truthy_fn (s := { s₂ with heap := h₃, toks := s₂.toks + 1 }) hobj rfl ?_
    show wpAny _ _ (execs _ _) _ _ _
    refine wpAny_execs_nil ?_
    refine wpAny_execs_cons ?_
    have hval : hitV hitA (best spans (some (endOf spans b))) = .ref (hitA.getD b' 0) := by rw [hb]; rfl
    refine rev_span (s := { s₂ with heap := h₃, toks := s₂.toks + 1 }) (b := b') (.inr rfl) B k3 hb1 hh hroom hn₃ (congrArg some hval) fun s₄ ti' tj' U4 hn₄ => ?_
    refine wpAny_execs_nil ?_
    refine hnext s₄ b' rest' _ (ts ++ [T]) ti' tj' hrest ⟨?_, hc', hb1, ?_, U0.trans (U4.mono fun b hb => .tail _ hb), hn₄, J.mp, J.mc, J.mcol, congrArg some hval, rfl, rfl, ?_, ?_, ?_⟩
    · rw [J.eq, hrest]; simp
    · intro x hx
      rcases List.mem_append.mp hx with hx | hx
      · exact J.till x hx
      · rcases List.mem_cons.mp hx with rfl | hx
        · exact hle
        · cases hx
    · show some (Value.ref (hitA.getD b 0)) = some (told hitA ch (pre ++ [b]).length)
      rw [← hT1]; simp
    · exact P3.at fun o e => U4.keep (not_one hLA.symm) e
    · exact A3.keeps (U4.keepT (noT1 (noT_ns hn₃)))
end
end Mine

-- part: MjRev3
namespace Mine
section
variable {prog : Program} {w : World} {A : Around} {E : Value → Shared → Prop} {s : Shared} {g : Heap} {spans : List (Int × Int)} {hitA : List Addr} {fS aA : Addr}
  {q : Str} {doc pm cd ct rowV : Value} {an : Option Addr} {L fR pg : Addr} {col : Int} {tc : Tok}

theorem rev_loop {s₀ : Shared} {xs : Array Value} {ch pre rest : List Nat} {b : Nat} {m : Str → Option Value} {ts : List Addr} {ti tj : Tok} {Q : Flow → Shared → Prop} (B : Bed g spans hitA fS aA) (P : ProgAt g pg fS) (hf : Fine spans) (k₀ : ∀ b o, g.get? b = some o → s₀.heap.get? b = some o) (hLg : g.get? L = none)
    (hch : ch.length ≤ 24) (hsz : xs.size ≤ 900) (hh : A.handled = none) (hroom : A.depth < recursionLimit)
    (J : RevIn s₀ s g spans hitA aA L xs rowV pg col tc ch pre b rest m ts ti tj)
    (hQ : ∀ s', RevOut s₀ s' aA L xs rowV hitA ch (over spans ch col) → Q .next s') :
    wpAny (model prog w) A (exec srWhile (srEnv q doc pm an cd ct L fR)) Q E s := by
  refine wpAny_While ?_
  refine while_inv (fun n s' => ∃ pre b rest m ts ti tj, n = rest.length ∧ RevIn s₀ s' g spans hitA aA L xs rowV pg col tc ch pre b rest m ts ti tj) ?_ rest.length ⟨pre, b, rest, m, ts, ti, tj, rfl, J⟩
  rintro n s' ⟨pre, b, rest, m, ts, ti, tj, rfl, J⟩ E'
  have hfb := hf b J.lt
  refine rev_test J.ns J.mi J.mj J.mcol (by omega) ?_
  by_cases hle : endOf spans b ≤ col
  · rw [decide_eq_true hle, if_pos rfl]
    refine rev_turn B P hf k₀ hLg hch hsz hh hroom J hle (fun s'' b' rest' m' ts' ti' tj' he J' => ?_) fun s'' he O => ?_
    · refine ⟨rest'.length, by rw [he]; simp, pre ++ [b], b', rest', m', ts', ti', tj', rfl, J'⟩
    · refine hQ s'' ?_
      have : over spans ch col = ch.map (endOf spans) := over_all fun x hx => by
        rw [J.eq, he] at hx
        rcases List.mem_append.mp hx with hx | hx
        · exact J.till x hx
        · rcases List.mem_cons.mp hx with rfl | hx
          · exact hle
          · cases hx
      rw [this]; exact O
  · rw [decide_eq_false hle, if_neg Bool.false_ne_true]
    refine hQ s' ?_
    have : over spans ch col = pre.map (endOf spans) := by rw [J.eq]; exact over_cut hf J.till hle J.chain
    rw [this]
    refine ⟨m, ts, J.upd, J.ns, ?_, J.pl, J.asked⟩
    rw [List.length_map]; exact J.mf

theorem rev_body {xs : Array Value} {ch : List Nat} {m : Str → Option Value} {Q : Flow → Shared → Prop} (B : Bed g spans hitA fS aA) (P : ProgAt g pg fS) (hf : Fine spans) (hc : Chain spans none ch) (k : ∀ b o, g.get? b = some o → s.heap.get? b = some o) (hLg : g.get? L = none)
    (hch : ch.length ≤ 24) (hsz : xs.size ≤ 900) (hh : A.handled = none) (hroom : A.depth < recursionLimit) (hA : s.heap.PlainList aA xs) (hL : s.heap.Ns L m)
    (m1 : m "prog" = some (.ref pg)) (m2 : m "chars" = some rowV) (m3 : m "col" = some (.int col tc))
    (hQ : ∀ s' ts, Upd [aA, L] s s' → s'.heap.PlainList aA (xs ++ (ts.map Value.ref).toArray) → AskedAre s'.heap rowV ts (none :: (over spans ch col).map some) → Q (.ret (told hitA ch (over spans ch col).length)) s') :
    wpAny (model prog w) A (execs (stBody srS) (srEnv q doc pm an cd ct L fR)) Q E s := by
  have hLA : L ≠ aA := fun z => by
    obtain ⟨n, hn⟩ := hA
    obtain ⟨o, es, ep, e1, e2, _⟩ := hL
    rw [z, hn] at e1; cases e1; cases e2
  refine wpAny_execs_cons (wpAny_Assign_Name ?_)
  refine rev_ask0 B P k hA (by omega) hh hroom hL m1 m2 fun s₁ T U1 P1 nT tT => ?_
  have hn₁ := hL.at' (h' := s₁.heap) fun o e => U1.keep (not_one hLA) e
  refine wpAny_storeName_local rfl hn₁ fun h₂ hn₂ hs₂ => ?_
  have U2 : Upd [L] s₁ { s₁ with heap := h₂, toks := s₁.toks + 1 } := Upd.same hs₂
  have k2 : ∀ b o, g.get? b = some o → h₂.get? b = some o := U2.ghost (one_none hLg) (U1.ghost (one_none B.none) k)
  have P2 : h₂.PlainList aA (xs ++ ([T].map Value.ref).toArray) := by
    have : xs ++ ([T].map Value.ref).toArray = xs.push (.ref T) := by simp
    rw [this]
    exact P1.at fun o e => U2.keep (not_one hLA.symm) e
  have A2 : AskedAre h₂ rowV [T] [none] := by
    have A1 : AskedAre s₁.heap rowV [T] [none] := ⟨⟨.none, tT, rfl⟩, trivial⟩
    exact A1.keeps (U2.keepT (noT1 (noT_ns hn₁)))
  have UU : Upd [aA, L] s { s₁ with heap := h₂, toks := s₁.toks + 1 } := (U1.mono sub1).trans (U2.mono fun b hb => .tail _ hb)
  refine wpAny_execs_cons (wpAny_If ?_)
  refine wpAny_isTrue_Not ?_
  refine wpAny_isTrue_value ?_
  refine wpAny_Name (wpAny_loadName_local (s := { s₁ with heap := h₂, toks := s₁.toks + 1 }) rfl rfl hn₂ rfl ?_)
  cases hc with
  | nil hb =>
    rw [hb]
    show wpAny _ _ (truthy .none) _ _ _
    refine wpAny_pure ?_
    show wpAny _ _ (execs _ _) _ _ _
    refine wpAny_execs_cons (wpAny_Return_some (wpAny_Constant_none ?_))
    exact hQ _ [T] UU P2 A2
  | @cons _ b rest hb hc' =>
    obtain ⟨hb1, _⟩ := best_some hb
    have hval : hitV hitA (best spans none) = .ref (hitA.getD b 0) := by rw [hb]; rfl
    obtain ⟨Dh, mdh, _, _, _, _, _, _, _, _, _, _, _, hfd, _⟩ := (B.hitAt hb1).keeps k2
    obtain ⟨fdh, slh, hobj, _⟩ := hfd
    rw [hval]
    show wpAny _ _ (truthy (.ref (hitA.getD b 0))) _ _ _
    refine truthy_fn (s := { s₁ with heap := h₂, toks := s₁.toks + 1 }) hobj rfl ?_
    show wpAny _ _ (execs _ _) _ _ _
    refine wpAny_execs_nil ?_
    -- found = None
    refine wpAny_execs_cons (wpAny_Assign_Name ?_)
    refine wpAny_Constant_none ?_
    refine wpAny_storeName_local (s := { s₁ with heap := h₂, toks := s₁.toks + 1 }) rfl hn₂ fun h₃ hn₃ hs₃ => ?_
    have U3 : Upd [L] { s₁ with heap := h₂, toks := s₁.toks + 1 } { s₁ with heap := h₃, toks := s₁.toks + 1 + 1 } := Upd.same (s := { s₁ with heap := h₂, toks := s₁.toks + 1 }) hs₃
    have k3 : ∀ b o, g.get? b = some o → h₃.get? b = some o := U3.ghost (one_none hLg) k2
    refine wpAny_execs_cons ?_
    refine rev_span (s := { s₁ with heap := h₃, toks := s₁.toks + 1 + 1 }) (b := b) (.inl rfl) B k3 hb1 hh hroom hn₃ (congrArg some hval) fun s₄ ti tj U4 hn₄ => ?_
    have U5 := (UU.trans (U3.mono fun b hb => .tail _ hb)).trans (U4.mono fun b hb => .tail _ hb)
    have U34 := U3.trans U4
    refine wpAny_execs_cons ?_
    refine rev_loop (s₀ := s) (xs := xs) (ch := b :: rest) (pre := []) (b := b) (rest := rest) (ts := [T]) (ti := ti) (tj := tj) (col := col) (tc := tc) (pg := pg) (rowV := rowV) B P hf k hLg hch hsz hh hroom
      ⟨rfl, hc', hb1, fun x hx => (by cases hx), U5, hn₄, m1, m2, m3, congrArg some hval, rfl, rfl, rfl, P2.at fun o e => U34.keep (not_one hLA.symm) e, A2.keeps (U34.keepT (noT1 (noT_ns hn₂)))⟩ fun s₅ O => ?_
    obtain ⟨m₅, ts, a1, a2, a3, a4, a5⟩ := O
    refine wpAny_execs_cons (wpAny_Return_some ?_)
    refine wpAny_Name (wpAny_loadName_local rfl rfl a2 a3 ?_)
    exact hQ s₅ ts a1 a4 a5

theorem srNoCell : ∀ x ∈ (stScope srS).names, x.2 ≠ .cell := by decide

/-- search_reverse(prog, row, col) -/
theorem rev_call {xs : Array Value} {ch : List Nat} {Q : Value → Shared → Prop} (B : Bed g spans hitA fS aA) (P : ProgAt g pg fS) (S : SrAt g fR) (hf : Fine spans) (hc : Chain spans none ch) (k : ∀ b o, g.get? b = some o → s.heap.get? b = some o)
    (hch : ch.length ≤ 24) (hsz : xs.size ≤ 900) (hh : A.handled = none) (hroom : A.depth + 1 < recursionLimit) (hA : s.heap.PlainList aA xs)
    (hQ : ∀ s' ts, Upd [aA] s s' → s'.heap.PlainList aA (xs ++ (ts.map Value.ref).toArray) → AskedAre s'.heap rowV ts (none :: (over spans ch col).map some) → Q (told hitA ch (over spans ch col).length) s') :
    wpAny (model prog w) A (call (.ref fR) [.ref pg, rowV, .int col tc]) Q E s := by
  obtain ⟨q, doc, pm, an, cd, ct, oc, dd, sl, f1, f2⟩ := S
  refine wpAny_call (codeAny_call_def (fd := srFn q doc pm an cd ct) (body := stBody srS) (binds := [("prog", .ref pg), ("chars", rowV), ("col", .int col tc)]) (by omega) (k _ _ f1) rfl (B.lim.keeps k) (f2.keeps k) rfl (BindsTo.of_eq rfl) srNoCell ?_ ?_ rfl rfl rfl)
  · intro x hx
    rcases List.mem_cons.mp hx with rfl | hx
    · rfl
    · rcases List.mem_cons.mp hx with rfl | hx
      · rfl
      · rcases List.mem_cons.mp hx with rfl | hx
        · rfl
        · cases hx
  · intro h₀ hns hk
    have hLg : g.get? s.heap.objs.size = none := by
      cases e : g.get? s.heap.objs.size with
      | none => rfl
      | some o => exact absurd (Heap.lt_size (k _ _ e)) (Nat.lt_irrefl _)
    obtain ⟨n, hn⟩ := id hA
    refine rev_body (s := { s with heap := h₀, toks := s.toks + 3 }) (L := s.heap.objs.size) (rowV := rowV) (pg := pg) (col := col) (tc := tc) B P hf hc (fun b o e => hk b o (k b o e)) hLg hch hsz hh hroom ⟨n, hk _ _ hn⟩ hns rfl rfl rfl fun s' ts U P' a => ?_
    refine hQ s' ts ?_ P' a
    have U0 : Upd [] s { s with heap := h₀, toks := s.toks + 3 } := Upd.of0 hk
    refine ((U0.mono (Y := [aA, s.heap.objs.size]) fun b hb => by cases hb).trans U).drop fun b hb => ?_
    rcases List.mem_cons.mp hb with rfl | hb
    · exact .inl (.head _)
    · rcases List.mem_cons.mp hb with rfl | hb
      · exact .inr (Heap.get?_none_of_le (Nat.le_refl _))
      · cases hb
end
end Mine

-- part: MjHit
namespace Mine

/-- the ground: what the call finds -/
structure Gr (g : Heap) (mg mb : Str → Option Value) : Prop where
  lim : g.NoLimit
  ns : g.Ns mainGlobals mg
  nb : g.Ns builtinsNs mb
  b23 : g.BuiltinsAt mg 23
  b30 : g.BuiltinsAt mg 30
  c27 : CodeHd g 27 23
  c32 : CodeHd g 32 30
  g1 : mg "range" = none
  g2 : mg "len" = none
  b1 : mb "range" = some (.type "range")
  b2 : mb "len" = some (.builtin "len")
theorem bat_keeps {g h : Heap} {mg : Str → Option Value} {P : Addr} (x : g.BuiltinsAt mg P) (k : ∀ b o, g.get? b = some o → h.get? b = some o) : h.BuiltinsAt mg P :=
  let ⟨bm, o, a1, a2, a3, a4, a5, r⟩ := x; ⟨bm, o, a1, a2, a3, a4, k _ _ a5, r⟩
theorem Gr.keeps {g h : Heap} {mg mb : Str → Option Value} (x : Gr g mg mb) (k : ∀ b o, g.get? b = some o → h.get? b = some o) : Gr h mg mb :=
  ⟨x.lim.keeps k, x.ns.keeps k, x.nb.keeps k, bat_keeps x.b23 k, bat_keeps x.b30 k, x.c27.keeps k, x.c32.keeps k, x.g1, x.g2, x.b1, x.b2⟩

section
variable {prog : Program} {w : World} {A : Around} {E : Value → Shared → Prop} {s : Shared} {g : Heap} {mg mb : Str → Option Value}

/-- a lambda is made: its code object is new, or stands in the table -/
theorem mkLam {params : Arguments} {body : Expr} {scope : Scope} {env : Env} {pos : Pos} {clos : List (Str × Addr)} {c P : Addr} {ps : Array Value} {Q : Value → Shared → Prop} (hdef : defaultsOf params env = ([], [])) (hcl : closureFor scope env = pure clos) (hge : env.globals = mainGlobals)
    (hg : s.heap.Ns mainGlobals mg) (hcode : env.code = .ref c) (C : CodeHd s.heap c P) (hb : s.heap.BuiltinsAt mg P) (hne : mainGlobals ≠ P) (hP : s.heap.get? P = some (tabObj ps)) (ht : TriplesOk ps.toList) (hr : codeAmong pos ps.toList = none ∨ ∃ c', codeAmong pos ps.toList = some (.ref c'))
    (h : ∀ c' ctv pm h' ps' tk, Heap.ExtBut P s.heap h' → s.heap.objs.size ≤ h'.objs.size → h'.get? P = some (tabObj ps') →
      ((codeAmong pos ps.toList = none ∧ ps' = ps ++ #[rawInt pos.line, rawInt pos.col, .ref c'] ∧ s.heap.objs.size ≤ c' ∧ h'.CodeRec (.ref c') (env.qual ++ "<lambda>")) ∨ (codeAmong pos ps.toList = some (.ref c') ∧ ps' = ps)) →
      Q (.ref h'.objs.size) { s with heap := h'.push (kla_obj "<lambda>" (env.qual ++ "<lambda>") params body scope clos pm c' ctv), toks := tk }) :
    wpAny (model prog w) A (eval (.Lambda params body scope pos) env) Q E s := by
  refine kla_eval hdef ?_
  rcases hr with hr | ⟨c', hr⟩
  · refine kla_makeFunction hcl hge hg hcode C hP ht hr hne hb fun c' ctv h' tk hx h1 h2 h3 h4 => ?_
    exact h c' ctv _ h' _ tk hx (Nat.le_of_lt (Nat.lt_of_le_of_lt h1 h2)) h4 (.inl ⟨hr, rfl, h1, h3⟩)
  · refine kla_makeFunctionHit hcl hge hg hcode C hP ht hr hb fun ctv h' tk hk hsz => ?_
    exact h c' ctv _ h' ps tk (fun b o _ e => hk b o e) hsz (hk _ _ hP) (.inr ⟨hr, rfl⟩)

abbrev hitFn (q : Str) (doc pm : Value) (an : Option Addr) (ct : Value) : FuncData :=
  fnX "_law_hit" q (stArgs hitS) (stBody hitS) (stScope hitS) [] .none .none doc pm an (.ref 27) ct
def HitFnAt (g : Heap) (fH : Addr) (q : Str) : Prop := ∃ doc pm an ct oc dd sl, g.get? fH = some ⟨oc, dd, .func (hitFn q doc pm an ct), sl⟩ ∧ g.CodeRec (.ref 27) q
theorem HitFnAt.keeps {g h : Heap} {fH : Addr} {q : Str} (x : HitFnAt g fH q) (k : ∀ b o, g.get? b = some o → h.get? b = some o) : HitFnAt h fH q :=
  let ⟨doc, pm, an, ct, oc, dd, sl, a, b⟩ := x; ⟨doc, pm, an, ct, oc, dd, sl, k _ _ a, b.keeps k⟩

/-- the table of _law_hit's code: empty, or its two lambdas -/
def TabOk (g : Heap) (q : Str) (ps : Array Value) : Prop :=
  ps = #[] ∨ ∃ c1 c2, ps = #[rawInt (lamPos lam0).line, rawInt (lamPos lam0).col, .ref c1, rawInt (lamPos lam1).line, rawInt (lamPos lam1).col, .ref c2] ∧ g.CodeRec (.ref c2) ((q ++ ".<locals>.") ++ "<lambda>")
theorem TabOk.keeps {g h : Heap} {q : Str} {ps : Array Value} (x : TabOk g q ps) (k : ∀ b o, g.get? b = some o → h.get? b = some o) : TabOk h q ps :=
  x.imp id fun ⟨c1, c2, e, r⟩ => ⟨c1, c2, e, r.keeps k⟩


theorem hit_body {L fH : Addr} {q : Str} {doc pm ct : Value} {an : Option Addr} {f b : Int} {tf tb : Tok} {ps : Array Value} {Z : List Addr} {n0 : Nat} {m : Str → Option Value} {Q : Flow → Shared → Prop} (G : Gr g mg mb) (k : ∀ b o, g.get? b = some o → s.heap.get? b = some o) (g23 : g.get? 23 = none) (gL : g.get? L = none)
    (hP : s.heap.get? 23 = some (tabObj ps)) (hZ : ∀ b ∈ Z, b < n0) (h23 : 23 ∈ Z) (hnL : n0 ≤ L) (T : TabOk (hideAll s.heap Z) q ps) (hL : s.heap.Ns L m)
    (cF : s.heap.IsCell (L + 1) (some (.int f tf))) (cB : s.heap.IsCell (L + 2) (some (.int b tb)))
    (hQ : ∀ a s' ps', Upd [23, L] s s' → n0 ≤ a → s'.heap.get? 23 = some (tabObj ps') → TabOk (hideAll s'.heap Z) q ps' → HitAt (hideAll s'.heap Z) a f b → Q (.ret (.ref a)) s') :
    wpAny (model prog w) A (execs (stBody hitS) (callEnvC (hitFn q doc pm an ct) L fH)) Q E s := by
  have outZ : ∀ x : Nat, n0 ≤ x → x ∉ Z := fun x hx z => absurd (hZ x z) (Nat.not_lt.mpr hx)
  have hnsz : n0 ≤ s.heap.objs.size := Nat.le_of_lt (Nat.lt_of_le_of_lt hnL hL.lt)
  have hL23 : L ≠ 23 := fun z => by
    obtain ⟨o, es, ep, e1, e2, _⟩ := hL
    rw [z, hP] at e1; cases e1; cases e2
  have cne : ∀ {x : Addr} {v : Option Value} {h : Heap} {qs : Array Value}, h.IsCell x v → h.get? 23 = some (tabObj qs) → x ≠ 23 := fun hc hp z => by
    obtain ⟨o, e1, e2⟩ := hc
    rw [z, hp] at e1; cases e1; cases e2
  have cneL : ∀ {x : Addr} {v : Option Value} {h : Heap} {m : Str → Option Value}, h.IsCell x v → h.Ns L m → x ≠ L := fun hc hp z => by
    obtain ⟨o, e1, e2⟩ := hc
    obtain ⟨o', es, ep, f1, f2, _⟩ := hp
    rw [z, f1] at e1; cases e1; rw [f2] at e2; cases e2
  have cell_at : ∀ {x : Addr} {v : Option Value} {h h' : Heap}, h.IsCell x v → (∀ o, h.get? x = some o → h'.get? x = some o) → h'.IsCell x v := fun ⟨o, e1, e2⟩ kk => ⟨o, kk o e1, e2⟩
  -- hit = lambda: None
  refine wpAny_execs_cons (wpAny_Assign_Name ?_)
  refine mkLam (c := 27) (P := 23) (ps := ps) rfl rfl rfl (G.ns.keeps k) rfl (G.c27.keeps k) (bat_keeps G.b23 k) (by decide) hP ?_ ?_ fun c1 ct1 pm1 h₁ ps1 tk1 x1 sz1 t1 d1 => ?_
  · rcases T with rfl | ⟨c1, c2, rfl, _⟩
    · trivial
    · trivial
  · rcases T with rfl | ⟨c1, c2, rfl, _⟩
    · exact .inl rfl
    · exact .inr ⟨c1, rfl⟩
  have U1 : Upd [23] s { s with heap := h₁.push (kla_obj "<lambda>" ((callEnvC (hitFn q doc pm an ct) L fH).qual ++ "<lambda>") (lamArgs lam0) (lamBody lam0) (lamScope lam0) [] pm1 c1 ct1), toks := tk1 } :=
    Upd.of fun b o hb e => Heap.get?_push_of_some _ (x1 b o (fun z => hb (by rw [z]; exact .head _)) e)
  have hL1 : (h₁.push (kla_obj "<lambda>" ((callEnvC (hitFn q doc pm an ct) L fH).qual ++ "<lambda>") (lamArgs lam0) (lamBody lam0) (lamScope lam0) [] pm1 c1 ct1)).Ns L m := hL.at' fun o e => U1.keep (not_one hL23) e
  refine wpAny_storeName_local (s := { s with heap := h₁.push _, toks := tk1 }) rfl hL1 fun h₂ hn₂ hs₂ => ?_
  have U2 : Upd [L] { s with heap := h₁.push (kla_obj "<lambda>" ((callEnvC (hitFn q doc pm an ct) L fH).qual ++ "<lambda>") (lamArgs lam0) (lamBody lam0) (lamScope lam0) [] pm1 c1 ct1), toks := tk1 } { s with heap := h₂, toks := tk1 + 1 } := Upd.same (s := { s with heap := h₁.push _, toks := tk1 }) hs₂
  have haL : h₁.objs.size ≠ L := fun z => absurd hL.lt (by rw [← z]; exact Nat.not_lt.mpr sz1)
  have ha2 : h₂.get? h₁.objs.size = some (kla_obj "<lambda>" ((callEnvC (hitFn q doc pm an ct) L fH).qual ++ "<lambda>") (lamArgs lam0) (lamBody lam0) (lamScope lam0) [] pm1 c1 ct1) := U2.keep (not_one haL) (Heap.get?_push_size _ rfl)
  have t2 : h₂.get? 23 = some (tabObj ps1) := U2.keep (not_one hL23.symm) (Heap.get?_push_of_some _ t1)
  have k2 : ∀ b o, g.get? b = some o → h₂.get? b = some o := U2.ghost (one_none gL) (U1.ghost (one_none g23) k)
  have cF2 : h₂.IsCell (L + 1) (some (.int f tf)) := cell_at cF fun o e => U2.keep (not_one (cneL cF hL)) (U1.keep (not_one (cne cF hP)) e)
  have cB2 : h₂.IsCell (L + 2) (some (.int b tb)) := cell_at cB fun o e => U2.keep (not_one (cneL cB hL)) (U1.keep (not_one (cne cB hP)) e)
  -- hit.span = lambda: (first, behind)
  refine wpAny_execs_cons (plainObj_wpAny_Assign_Attribute ?_)
  refine mkLam (s := { s with heap := h₂, toks := tk1 + 1 }) (c := 27) (P := 23) (ps := ps1) (clos := [("first", L + 1), ("behind", L + 2)]) rfl rfl rfl (G.ns.keeps k2) rfl (G.c27.keeps k2) (bat_keeps G.b23 k2) (by decide) t2 ?_ ?_ fun c2 ct2 pm2 h₃ ps2 tk2 x3 sz3 t3 d3 => ?_
  · rcases T with rfl | ⟨c1', c2', rfl, _⟩
    · rcases d1 with ⟨_, rfl, _⟩ | ⟨e, _⟩
      · trivial
      · cases e
    · rcases d1 with ⟨e, _⟩ | ⟨_, rfl⟩
      · cases e
      · trivial
  · rcases T with rfl | ⟨c1', c2', rfl, _⟩
    · rcases d1 with ⟨_, rfl, _⟩ | ⟨e, _⟩
      · exact .inl rfl
      · cases e
    · rcases d1 with ⟨e, _⟩ | ⟨_, rfl⟩
      · cases e
      · exact .inr ⟨c2', rfl⟩
  have U3 : Upd [23] { s with heap := h₂, toks := tk1 + 1 } { s with heap := h₃.push (kla_obj "<lambda>" ((callEnvC (hitFn q doc pm an ct) L fH).qual ++ "<lambda>") (lamArgs lam1) (lamBody lam1) (lamScope lam1) [("first", L + 1), ("behind", L + 2)] pm2 c2 ct2), toks := tk2 } :=
    Upd.of (s := { s with heap := h₂, toks := tk1 + 1 }) fun b o hb e => Heap.get?_push_of_some _ (x3 b o (fun z => hb (by rw [z]; exact .head _)) e)
  show wpAny _ _ _ _ _ ({ s with heap := h₃.push (kla_obj "<lambda>" ((callEnvC (hitFn q doc pm an ct) L fH).qual ++ "<lambda>") (lamArgs lam1) (lamBody lam1) (lamScope lam1) [("first", L + 1), ("behind", L + 2)] pm2 c2 ct2), toks := tk2 } : Shared)
  generalize hh3 : h₃.push (kla_obj "<lambda>" ((callEnvC (hitFn q doc pm an ct) L fH).qual ++ "<lambda>") (lamArgs lam1) (lamBody lam1) (lamScope lam1) [("first", L + 1), ("behind", L + 2)] pm2 c2 ct2) = h₃' at U3 ⊢
  have hl3 : h₃'.get? h₃.objs.size = some (kla_obj "<lambda>" ((callEnvC (hitFn q doc pm an ct) L fH).qual ++ "<lambda>") (lamArgs lam1) (lamBody lam1) (lamScope lam1) [("first", L + 1), ("behind", L + 2)] pm2 c2 ct2) := by rw [← hh3]; exact Heap.get?_push_size _ rfl
  have hs3 : h₃'.objs.size = h₃.objs.size + 1 := by rw [← hh3]; exact Heap.size_push _ _
  have t3' : h₃'.get? 23 = some (tabObj ps2) := by rw [← hh3]; exact Heap.get?_push_of_some _ t3
  have rec3 : h₃.CodeRec (.ref c2) ((callEnvC (hitFn q doc pm an ct) L fH).qual ++ "<lambda>") → h₃'.CodeRec (.ref c2) ((callEnvC (hitFn q doc pm an ct) L fH).qual ++ "<lambda>") := fun r => by rw [← hh3]; exact r.push _
  have a23 : h₁.objs.size ≠ 23 := fun z => by
    have e := ha2; rw [z, t2] at e; cases e
  have ha3 := U3.keep (not_one a23) ha2
  have hL3 : h₃'.Ns L _ := hn₂.at' fun o e => U3.keep (not_one hL23) e
  have cF3 : h₃'.IsCell (L + 1) (some (.int f tf)) := cell_at cF2 fun o e => U3.keep (not_one (cne cF2 t2)) e
  have cB3 : h₃'.IsCell (L + 2) (some (.int b tb)) := cell_at cB2 fun o e => U3.keep (not_one (cne cB2 t2)) e
  refine wpAny_Name (wpAny_loadName_local (s := { s with heap := h₃', toks := tk2 }) rfl rfl hL3 rfl ?_)
  refine setAttr_fn (f := h₁.objs.size) ha3 FF.lk_span fun h₄ tk4 D e1 e2 e3 e4 => ?_
  have U4 : Upd [h₁.objs.size] { s with heap := h₃', toks := tk2 } { s with heap := h₄, toks := tk4 } := Upd.of (s := { s with heap := h₃', toks := tk2 }) fun b o hb e => e4 b o (fun z => hb (by rw [z]; exact .head _)) e
  have hL4 : h₄.Ns L _ := hL3.at' fun o e => U4.keep (not_one haL.symm) e
  refine wpAny_execs_cons (wpAny_Return_some ?_)
  refine wpAny_Name (wpAny_loadName_local (s := { s with heap := h₄, toks := tk4 }) rfl rfl hL4 rfl ?_)
  have sz2 : h₁.objs.size + 1 ≤ h₂.objs.size := by have := hs₂.1; rw [Heap.size_push] at this; exact Nat.le_of_eq this.symm
  have l12 : h₁.objs.size < h₃.objs.size := Nat.lt_of_lt_of_le (Nat.lt_of_lt_of_le (Nat.lt_succ_self _) sz2) sz3
  have hna : n0 ≤ h₁.objs.size := Nat.le_trans hnsz sz1
  have hnl : n0 ≤ h₃.objs.size := Nat.le_trans hna (Nat.le_of_lt l12)
  have hnD : n0 ≤ D := by rw [e3, hs3]; exact Nat.le_succ_of_le hnl
  have cane : ∀ {x : Addr} {v : Option Value} {h : Heap} {o : Obj} {fd : FuncData}, h.IsCell x v → h.get? h₁.objs.size = some o → o.data = .func fd → x ≠ h₁.objs.size := fun hc hp hd z => by
    obtain ⟨o, e1, e2⟩ := hc
    rw [z, hp] at e1; cases e1; rw [hd] at e2; cases e2
  have t4 : h₄.get? 23 = some (tabObj ps2) := U4.keep (not_one a23.symm) t3'
  have UU : Upd [23, L] s { s with heap := h₄, toks := tk4 } := by
    have V : Upd [23, L, h₁.objs.size] s { s with heap := h₄, toks := tk4 } :=
      (((U1.mono sub1).trans (U2.mono fun b hb => .tail _ (sub1 b hb))).trans (U3.mono sub1)).trans (U4.mono fun b hb => .tail _ (.tail _ hb))
    refine V.drop fun b hb => ?_
    rcases List.mem_cons.mp hb with rfl | hb
    · exact .inl (.head _)
    · rcases List.mem_cons.mp hb with rfl | hb
      · exact .inl (.tail _ (.head _))
      · rcases List.mem_cons.mp hb with rfl | hb
        · exact .inr (Heap.get?_none_of_le sz1)
        · cases hb
  have Uall : ∀ b o, (hideAll s.heap Z).get? b = some o → b ≠ L → (hideAll h₄ Z).get? b = some o := fun b o e hbL => by
    have hb : b ∉ Z := fun z => by rw [hideAll_none Z z] at e; cases e
    refine hideAll_get Z (UU.keep (fun z => ?_) (of_hideAll Z e)) hb
    rcases List.mem_cons.mp z with rfl | z
    · exact hb h23
    · rcases List.mem_cons.mp z with rfl | z
      · exact hbL rfl
      · cases z
  have recNew : h₃.CodeRec (.ref c2) ((q ++ ".<locals>.") ++ "<lambda>") → s.heap.objs.size ≤ c2 → (hideAll h₄ Z).CodeRec (.ref c2) ((q ++ ".<locals>.") ++ "<lambda>") := fun r hc => by
    obtain ⟨c, o, vs, t, hc1, hc2, hc3, hc4⟩ := rec3 r
    cases hc1
    refine ⟨c2, o, vs, t, rfl, hideAll_get Z (U4.keep (not_one fun z => ?_) hc2) (outZ _ (Nat.le_trans hnsz hc)), hc3, hc4⟩
    rw [z, ha3] at hc2; cases hc2; cases hc3
  have final : (hideAll h₄ Z).CodeRec (.ref c2) ((q ++ ".<locals>.") ++ "<lambda>") ∧ TabOk (hideAll h₄ Z) q ps2 := by
    rcases T with rfl | ⟨c1', c2', rfl, r⟩
    · rcases d1 with ⟨_, rfl, hc1, _⟩ | ⟨e, _⟩
      · rcases d3 with ⟨_, rfl, hc2, r2⟩ | ⟨e, _⟩
        · have hc2' : s.heap.objs.size ≤ c2 := Nat.le_trans (Nat.le_trans sz1 (Nat.le_of_lt (Nat.lt_of_lt_of_le (Nat.lt_succ_self _) sz2))) hc2
          have R := recNew r2 hc2'
          exact ⟨R, .inr ⟨c1, c2, rfl, R⟩⟩
        · cases e
      · cases e
    · have r' : (hideAll h₄ Z).CodeRec (.ref c2') ((q ++ ".<locals>.") ++ "<lambda>") := by
        obtain ⟨c, o, vs, t, hc1, hc2, hc3, hc4⟩ := r
        refine ⟨c, o, vs, t, hc1, Uall c o hc2 fun z => ?_, hc3, hc4⟩
        obtain ⟨o', es, ep, f1, f2, _⟩ := hL
        have e := of_hideAll Z hc2
        rw [z, f1] at e; cases e; rw [f2] at hc3; cases hc3
      rcases d1 with ⟨e, _⟩ | ⟨_, rfl⟩
      · cases e
      · rcases d3 with ⟨e, _⟩ | ⟨e, rfl⟩
        · cases e
        · cases e
          exact ⟨r', .inr ⟨c1', c2, rfl, r'⟩⟩
  refine hQ h₁.objs.size _ ps2 UU hna t4 final.2 ⟨D, (fun y => if y = ("span" : Str) then some (.ref h₃.objs.size) else none), h₃.objs.size, _, pm2, ct2, c2, L + 1, L + 2, tf, tb, none, #[], ⟨_, #[], hideAll_get Z e1 (outZ _ hna), ?_⟩, rfl, ?_, final.1, ?_, ?_⟩
  · exact e2.at' fun o e => hideAll_get Z e (outZ _ hnD)
  · exact hideAll_get Z (U4.keep (not_one (Nat.ne_of_gt l12)) hl3) (outZ _ hnl)
  · exact cell_at cF3 fun o e => hideAll_get Z (U4.keep (not_one (cane cF3 ha3 rfl)) e) (outZ _ (Nat.le_succ_of_le hnL))
  · exact cell_at cB3 fun o e => hideAll_get Z (U4.keep (not_one (cane cB3 ha3 rfl)) e) (outZ _ (Nat.le_succ_of_le (Nat.le_succ_of_le hnL)))
theorem hit_call {fH : Addr} {q : Str} {f b : Int} {tf tb : Tok} {ps : Array Value} {Z : List Addr} {Q : Value → Shared → Prop} (G : Gr g mg mb) (H : HitFnAt g fH q) (k : ∀ b o, g.get? b = some o → s.heap.get? b = some o) (g23 : g.get? 23 = none)
    (hroom : A.depth < recursionLimit) (hP : s.heap.get? 23 = some (tabObj ps)) (hZ : ∀ b ∈ Z, b < s.heap.objs.size) (h23 : 23 ∈ Z) (T : TabOk (hideAll s.heap Z) q ps)
    (hQ : ∀ a s' ps', Upd [23] s s' → s.heap.get? a = none → s'.heap.get? 23 = some (tabObj ps') → TabOk (hideAll s'.heap Z) q ps' → HitAt (hideAll s'.heap Z) a f b → Q (.ref a) s') :
    wpAny (model prog w) A (call (.ref fH) [.int f tf, .int b tb]) Q E s := by
  obtain ⟨doc, pm, an, ct, oc, dd, sl, f1, f2⟩ := H
  refine wpAny_call (codeAny_call_cells (fd := hitFn q doc pm an ct) (body := stBody hitS) (binds := [("first", .int f tf), ("behind", .int b tb)]) hroom (k _ _ f1) rfl (G.lim.keeps k) (f2.keeps k) rfl rfl rfl ?_ ?_ rfl rfl rfl)
  · intro x hx
    rcases List.mem_cons.mp hx with rfl | hx
    · exact .inr ⟨rfl, rfl⟩
    · rcases List.mem_cons.mp hx with rfl | hx
      · exact .inr ⟨rfl, rfl⟩
      · cases hx
  · intro s₁ I
    obtain ⟨h₁, t₁, rfl⟩ := I.toInCall.same
    have k1 := I.toInCall.keep
    have hn1 := I.toInCall.ns
    have cF := I.cell "first" (s.heap.objs.size + 1) rfl
    have cB := I.cell "behind" (s.heap.objs.size + 2) rfl
    refine hit_body (s := { s with heap := h₁, toks := t₁ }) (L := s.heap.objs.size) (n0 := s.heap.objs.size) G (fun b o e => k1 b o (k b o e)) g23 ?_ (k1 _ _ hP) hZ h23 (Nat.le_refl _) (T.keeps (hide_keep fun b o _ e => k1 b o e)) hn1 cF cB fun a s' ps' U ha t T' H => ?_
    · cases e : g.get? s.heap.objs.size with
      | none => rfl
      | some o => exact absurd (Heap.lt_size (k _ _ e)) (Nat.lt_irrefl _)
    · have U0 : Upd [] s { s with heap := h₁, toks := t₁ } := Upd.of0 k1
      refine hQ a s' ps' ?_ (Heap.get?_none_of_le ha) t T' H
      refine ((U0.mono (Y := [23, s.heap.objs.size]) fun b hb => by cases hb).trans U).drop fun b hb => ?_
      rcases List.mem_cons.mp hb with rfl | hb
      · exact .inl (.head _)
      · rcases List.mem_cons.mp hb with rfl | hb
        · exact .inr (Heap.get?_none_of_le (Nat.le_refl _))
        · cases hb
end
end Mine

-- part: MjLaw1
namespace Mine

abbrev lawEnv (L fa : Addr) : Env := envOfC "law" (stScope lawS) L fa (.ref 32)

/-- the law's own frame: names, cells, the two code tables -/
structure LS (L : Addr) (h : Heap) (m : Str → Option Value) (c : Nat → Option Value) (ps qs : Array Value) : Prop where
  ns : h.Ns L m
  cell : ∀ i, 1 ≤ i → i ≤ 7 → h.IsCell (L + i) (c i)
  t1 : h.get? 23 = some (tabObj ps)
  t2 : h.get? 30 = some (tabObj qs)
def X0 (L : Addr) : List Addr := [L, L + 1, L + 2, L + 3, L + 4, L + 5, L + 6, L + 7, 23, 30]
theorem mem_X0 {L b : Addr} : b ∈ X0 L ↔ b = L ∨ (∃ i : Nat, 1 ≤ i ∧ i ≤ 7 ∧ b = L + i) ∨ b = 23 ∨ b = 30 := by
  unfold X0
  simp only [List.mem_cons, List.not_mem_nil, or_false]
  constructor
  · rintro (h | h | h | h | h | h | h | h | h | h)
    · exact .inl h
    · exact .inr (.inl ⟨1, by omega, by omega, h⟩)
    · exact .inr (.inl ⟨2, by omega, by omega, h⟩)
    · exact .inr (.inl ⟨3, by omega, by omega, h⟩)
    · exact .inr (.inl ⟨4, by omega, by omega, h⟩)
    · exact .inr (.inl ⟨5, by omega, by omega, h⟩)
    · exact .inr (.inl ⟨6, by omega, by omega, h⟩)
    · exact .inr (.inl ⟨7, by omega, by omega, h⟩)
    · exact .inr (.inr (.inl h))
    · exact .inr (.inr (.inr h))
  · rintro (h | ⟨i, h1, h2, h⟩ | h | h)
    · exact .inl h
    · have : i = 1 ∨ i = 2 ∨ i = 3 ∨ i = 4 ∨ i = 5 ∨ i = 6 ∨ i = 7 := by omega
      rcases this with rfl | rfl | rfl | rfl | rfl | rfl | rfl <;> simp [h]
    · simp [h]
    · simp [h]
theorem X0_L (L : Addr) : L ∈ X0 L := .head _
theorem X0_c (L : Addr) {i : Nat} (h1 : 1 ≤ i) (h2 : i ≤ 7) : L + i ∈ X0 L := mem_X0.mpr (.inr (.inl ⟨i, h1, h2, rfl⟩))
theorem X0_1 (L : Addr) : 23 ∈ X0 L := mem_X0.mpr (.inr (.inr (.inl rfl)))
theorem X0_2 (L : Addr) : 30 ∈ X0 L := mem_X0.mpr (.inr (.inr (.inr rfl)))
theorem cell_at {x : Addr} {v : Option Value} {h h' : Heap} (hc : h.IsCell x v) (kk : ∀ o, h.get? x = some o → h'.get? x = some o) : h'.IsCell x v := let ⟨o, e1, e2⟩ := hc; ⟨o, kk o e1, e2⟩
theorem cell_ne_ns {x L : Addr} {v : Option Value} {h : Heap} {m : Str → Option Value} (hc : h.IsCell x v) (hp : h.Ns L m) : x ≠ L := fun z => by
  obtain ⟨o, e1, e2⟩ := hc
  obtain ⟨o', es, ep, f1, f2, _⟩ := hp
  rw [z, f1] at e1; cases e1; rw [f2] at e2; cases e2
theorem cell_ne_tab {x P : Addr} {v : Option Value} {h : Heap} {qs : Array Value} (hc : h.IsCell x v) (hp : h.get? P = some (tabObj qs)) : x ≠ P := fun z => by
  obtain ⟨o, e1, e2⟩ := hc
  rw [z, hp] at e1; cases e1; cases e2
theorem ns_ne_tab {L P : Addr} {h : Heap} {m : Str → Option Value} {qs : Array Value} (hc : h.Ns L m) (hp : h.get? P = some (tabObj qs)) : L ≠ P := fun z => by
  obtain ⟨o', es, ep, f1, f2, _⟩ := hc
  rw [z, hp] at f1; cases f1; cases f2
theorem pl_ne_ns {x L : Addr} {xs : Array Value} {h : Heap} {m : Str → Option Value} (hc : h.IsList x xs) (hp : h.Ns L m) : x ≠ L := fun z => by
  obtain ⟨o, e1, _, n, e2⟩ := hc
  obtain ⟨o', es, ep, f1, f2, _⟩ := hp
  rw [z, f1] at e1; cases e1; rw [f2] at e2; cases e2
theorem pl_ne_cell {x c : Addr} {xs : Array Value} {h : Heap} {v : Option Value} (hc : h.IsList x xs) (hp : h.IsCell c v) : x ≠ c := fun z => by
  obtain ⟨o, e1, _, n, e2⟩ := hc
  obtain ⟨o', f1, f2⟩ := hp
  rw [z, f1] at e1; cases e1; rw [f2] at e2; cases e2
theorem pl_ne_tab {x P : Addr} {xs : Array Value} {h : Heap} {qs : Array Value} (hc : h.IsList x xs) (hp : h.get? P = some (tabObj qs)) : x ≠ P := fun z => by
  obtain ⟨o, e1, e0, n, e2⟩ := hc
  rw [z, hp] at e1; cases e1; cases e2

section
variable {L : Addr} {h h' : Heap} {m m' : Str → Option Value} {c : Nat → Option Value} {ps qs ps' : Array Value}
theorem LS.keep (x : LS L h m c ps qs) (k : ∀ b ∈ X0 L, ∀ o, h.get? b = some o → h'.get? b = some o) : LS L h' m c ps qs :=
  ⟨x.ns.at' (k L (X0_L L)), fun i h1 h2 => cell_at (x.cell i h1 h2) (k _ (X0_c L h1 h2)), k _ (X0_1 L) _ x.t1, k _ (X0_2 L) _ x.t2⟩
theorem LS.upd {s s' : Shared} {X : List Addr} (x : LS L s.heap m c ps qs) (U : Upd X s s') (h : ∀ b ∈ X0 L, b ∉ X) : LS L s'.heap m c ps qs := x.keep fun b hb o e => U.keep (h b hb) e
theorem LS.setL (x : LS L h m c ps qs) (hs : Heap.SameBut L h h') (hn : h'.Ns L m') : LS L h' m' c ps qs :=
  ⟨hn, fun i h1 h2 => cell_at (x.cell i h1 h2) fun o e => (hs.2 _ (cell_ne_ns (x.cell i h1 h2) x.ns)).trans e, (hs.2 _ (ns_ne_tab x.ns x.t1).symm).trans x.t1, (hs.2 _ (ns_ne_tab x.ns x.t2).symm).trans x.t2⟩
theorem LS.setC {i : Nat} {v : Option Value} (x : LS L h m c ps qs) (h1 : 1 ≤ i) (h2 : i ≤ 7) (hs : Heap.SameBut (L + i) h h') (hc : h'.IsCell (L + i) v) : LS L h' m (fun j => if j = i then v else c j) ps qs := by
  have C := x.cell i h1 h2
  refine ⟨x.ns.at' fun o e => (hs.2 _ (cell_ne_ns C x.ns).symm).trans e, fun j j1 j2 => ?_, (hs.2 _ (cell_ne_tab C x.t1).symm).trans x.t1, (hs.2 _ (cell_ne_tab C x.t2).symm).trans x.t2⟩
  by_cases hj : j = i
  · subst hj; rw [if_pos rfl]; exact hc
  · rw [if_neg hj]
    exact cell_at (x.cell j j1 j2) fun o e => (hs.2 _ (fun z => hj (Nat.add_left_cancel z))).trans e
theorem LS.ext1 (x : LS L h m c ps qs) (hx : Heap.ExtBut 23 h h') (ht : h'.get? 23 = some (tabObj ps')) : LS L h' m c ps' qs :=
  ⟨x.ns.at' fun o e => hx _ o (ns_ne_tab x.ns x.t1) e, fun j j1 j2 => cell_at (x.cell j j1 j2) fun o e => hx _ o (cell_ne_tab (x.cell j j1 j2) x.t1) e, ht, hx _ _ (by decide) x.t2⟩
theorem LS.ext2 (x : LS L h m c ps qs) (hx : Heap.ExtBut 30 h h') (ht : h'.get? 30 = some (tabObj ps')) : LS L h' m c ps ps' :=
  ⟨x.ns.at' fun o e => hx _ o (ns_ne_tab x.ns x.t2) e, fun j j1 j2 => cell_at (x.cell j j1 j2) fun o e => hx _ o (cell_ne_tab (x.cell j j1 j2) x.t2) e, hx _ _ (by decide) x.t1, ht⟩
theorem LS.lt (x : LS L h m c ps qs) : ∀ b ∈ X0 L, b < h.objs.size := fun b hb => by
  rcases mem_X0.mp hb with rfl | ⟨i, h1, h2, rfl⟩ | rfl | rfl
  · exact x.ns.lt
  · obtain ⟨o, e, _⟩ := x.cell i h1 h2; exact Heap.lt_size e
  · exact Heap.lt_size x.t1
  · exact Heap.lt_size x.t2
theorem LS.noList (x : LS L h m c ps qs) {a : Addr} {xs : Array Value} (hl : h.IsList a xs) : a ∉ X0 L := fun hb => by
  rcases mem_X0.mp hb with rfl | ⟨i, h1, h2, rfl⟩ | rfl | rfl
  · exact pl_ne_ns hl x.ns rfl
  · exact pl_ne_cell hl (x.cell i h1 h2) rfl
  · exact pl_ne_tab hl x.t1 rfl
  · exact pl_ne_tab hl x.t2 rfl
end

theorem IntsAre_append {a c : List Value} {b d : List Int} (h1 : IntsAre a b) (h2 : IntsAre c d) : IntsAre (a ++ c) (b ++ d) := by
  induction h1 with
  | nil => exact h2
  | cons n t _ ih => exact .cons n t ih
theorem IntsAre_take {a : List Value} {b : List Int} (h1 : IntsAre a b) : ∀ n : Nat, IntsAre (a.take n) (b.take n) := by
  induction h1 with
  | nil => intro n; rw [List.take_nil, List.take_nil]; exact .nil
  | cons x t _ ih =>
    intro n
    cases n with
    | zero => exact .nil
    | succ n => exact .cons x t (ih n)
theorem IntsAre_get {a : List Value} {b : List Int} (h1 : IntsAre a b) : ∀ (i : Nat) v, a[i]? = some v → ∃ n t, b[i]? = some n ∧ v = .int n t := by
  induction h1 with
  | nil => intro i v h; simp at h
  | cons x t _ ih =>
    intro i v h
    cases i with
    | zero => simp at h; exact ⟨x, t, rfl, h.symm⟩
    | succ i => simp at h; obtain ⟨n, t', e1, e2⟩ := ih i v h; exact ⟨n, t', by simpa using e1, e2⟩
theorem IntsAre_len {a : List Value} {b : List Int} (h1 : IntsAre a b) : a.length = b.length := by
  induction h1 with
  | nil => rfl
  | cons x t _ ih => simp [ih]

section
variable {prog : Program} {w : World} {A : Around} {E : Value → Shared → Prop} {s : Shared} {L fa : Addr} {m : Str → Option Value} {c : Nat → Option Value} {ps qs : Array Value}

def nums (ns : List Int) : List Int := ns.take 6 ++ [42, 81, 5, 29]

/-- numbers = script[:6] + [42, 81, 5, 29] -/
theorem law_s0 {Q : Flow → Shared → Prop} {a : Addr} {vs : List Value} {ns : List Int} (S : LS L s.heap m c ps qs) (hl : s.heap.IsList a vs.toArray) (hi : IntsAre vs ns) (hn : ns.length ≤ 63) (hm : m "script" = some (.ref a))
    (hQ : ∀ s' aN ws, Upd [L] s s' → LS L s'.heap (fun x => if x = "numbers" then some (.ref aN) else m x) c ps qs → s'.heap.IsList aN ws.toArray → IntsAre ws (nums ns) → Q .next s') :
    wpAny (model prog w) A (exec ((stBody lawS).getD 0 default) (lawEnv L fa)) Q E s := by
  have hvl : vs.length ≤ 63 := by rw [IntsAre_len hi]; exact hn
  refine wpAny_Assign_Name ?_
  refine wpAny_BinOp ?_
  refine wpAny_Subscript_list_slice ?_
  refine wpAny_Name (wpAny_loadName_local rfl rfl S.ns hm ?_)
  rw [evalPart_none]
  refine wpAny_pure ?_
  show wpAny _ _ (eval _ _) _ _ _
  refine wpAny_Constant_int ?_
  refine ⟨a, vs.toArray, none, some ((6 : Nat) : Int), rfl, hl, by simp; rw [sizeLine_eq]; omega, .none, IsPart.int _ _, ?_⟩
  rw [slicePick_upto']
  refine wpAny_List ?_
  refine wpAny_items_cons (wpAny_Constant_int ?_)
  refine wpAny_items_cons (wpAny_Constant_int ?_)
  refine wpAny_items_cons (wpAny_Constant_int ?_)
  refine wpAny_items_cons (wpAny_Constant_int ?_)
  refine wpAny_items_nil ?_
  refine ⟨by size_fits, ?_⟩
  dsimp only
  simp only [Heap.size_push]
  generalize e1 : ({ cls := .type "slice", data := .fields #[.none, .int 6 s.toks, .none] } : Obj) = o1
  generalize e2 : ({ cls := .type "list", data := .seq (List.take 6 vs).toArray } : Obj) = o2
  generalize e3 : ({ cls := .type "list", data := .seq [Value.int 42 (s.toks + 1), Value.int 81 (s.toks + 1 + 1), Value.int 5 (s.toks + 1 + 1 + 1), Value.int 29 (s.toks + 1 + 1 + 1 + 1)].toArray } : Obj) = o3
  have f2 : (((s.heap.push o1).push o2).push o3).get? (s.heap.objs.size + 1) = some o2 := Heap.get?_push_of_some _ (Heap.get?_push_at (by rw [Heap.size_push]) (by rw [← e2]; rfl))
  have f3 : (((s.heap.push o1).push o2).push o3).get? (s.heap.objs.size + 1 + 1) = some o3 := Heap.get?_push_at (by rw [Heap.size_push, Heap.size_push]) (by rw [← e3]; rfl)
  have kk : ∀ b o, s.heap.get? b = some o → (((s.heap.push o1).push o2).push o3).get? b = some o := fun b o e => Heap.get?_push_of_some _ (Heap.get?_push_of_some _ (Heap.get?_push_of_some _ e))
  generalize ((s.heap.push o1).push o2).push o3 = H at f2 f3 kk ⊢
  rw [← e2] at f2
  rw [← e3] at f3
  refine PySem.P.add_list f2 f3 ?_ (by simp; rw [sizeLine_eq]; omega)
  dsimp only
  have S1 : LS L (H.push { cls := .type "list", data := .seq ((List.take 6 vs).toArray ++ [Value.int 42 (s.toks + 1), Value.int 81 (s.toks + 1 + 1), Value.int 5 (s.toks + 1 + 1 + 1), Value.int 29 (s.toks + 1 + 1 + 1 + 1)].toArray) }) m c ps qs :=
    S.keep fun b _ o e => Heap.get?_push_of_some _ (kk b o e)
  refine wpAny_storeName_local (s := { s with heap := H.push _, toks := _ }) rfl S1.ns fun h' hn' hs' => ?_
  refine hQ _ H.objs.size (List.take 6 vs ++ [Value.int 42 (s.toks + 1), Value.int 81 (s.toks + 1 + 1), Value.int 5 (s.toks + 1 + 1 + 1), Value.int 29 (s.toks + 1 + 1 + 1 + 1)]) ?_ (S1.setL hs' hn') ?_ ?_
  · exact Upd.of fun b o hb e => hs'.extBut b o (fun z => hb (by rw [z]; exact .head _)) (Heap.get?_push_of_some _ (kk b o e))
  · have hlt : L < H.objs.size := by
      obtain ⟨o, _, _, e, _⟩ := S.ns
      exact Heap.lt_size (kk _ _ e)
    refine ⟨_, hs'.extBut _ _ (Nat.ne_of_gt hlt) (Heap.get?_push_size _ rfl), rfl, 0, ?_⟩
    simp
  · exact IntsAre_append (IntsAre_take hi 6) (.cons _ _ (.cons _ _ (.cons _ _ (.cons _ _ .nil))))
end
end Mine

-- part: MjLaw2
namespace Mine

def spanOf (x : Int) : Int × Int := (x.fmod 20, x.fmod 20 + 1 + (x.fdiv 20).fmod 5)
def spansOf (ns : List Int) : List (Int × Int) := (nums ns).map spanOf

theorem spansOf_len (ns : List Int) : (spansOf ns).length = (nums ns).length := by simp [spansOf]
theorem nums_len (ns : List Int) : 4 ≤ (nums ns).length ∧ (nums ns).length ≤ 10 := by
  unfold nums
  simp only [List.length_append, List.length_take, List.length_cons, List.length_nil]
  omega
theorem spansOf_get {ns : List Int} {k : Nat} {n : Int} (h : (nums ns)[k]? = some n) : firstOf (spansOf ns) k = (spanOf n).1 ∧ endOf (spansOf ns) k = (spanOf n).2 := by
  have : (spansOf ns).getD k (0, 0) = spanOf n := by simp [spansOf, List.getD, h]
  unfold firstOf endOf
  rw [this]; exact ⟨rfl, rfl⟩
theorem fine_spansOf (ns : List Int) : Fine (spansOf ns) := fun k hk => by
  have hk' : k < (nums ns).length := by rw [← spansOf_len]; exact hk
  obtain ⟨n, hn⟩ : ∃ n, (nums ns)[k]? = some n := ⟨_, List.getElem?_eq_getElem hk'⟩
  obtain ⟨h1, h2⟩ := spansOf_get hn
  rw [h1, h2]
  have a1 := Int.fmod_nonneg_of_pos n (show (0 : Int) < 20 by decide)
  have a2 := Int.fmod_lt_of_pos n (show (0 : Int) < 20 by decide)
  have b1 := Int.fmod_nonneg_of_pos (n.fdiv 20) (show (0 : Int) < 5 by decide)
  have b2 := Int.fmod_lt_of_pos (n.fdiv 20) (show (0 : Int) < 5 by decide)
  unfold spanOf
  dsimp only
  omega

def TupsAre (g : Heap) (spans : List (Int × Int)) (tups : Array Value) (i : Nat) : Prop :=
  ∀ k, k < i → ∃ T tf tb, tups[k]? = some (.ref T) ∧ IsTup g T #[.int (firstOf spans k) tf, .int (endOf spans k) tb]
theorem TupsAre.keeps {g h : Heap} {spans : List (Int × Int)} {tups : Array Value} {i : Nat} (x : TupsAre g spans tups i) (k : ∀ b o, g.get? b = some o → h.get? b = some o) : TupsAre h spans tups i :=
  fun j hj => let ⟨T, tf, tb, e, r⟩ := x j hj; ⟨T, tf, tb, e, r.keeps k⟩

theorem TupsAre.push {g : Heap} {spans : List (Int × Int)} {ys : Array Value} {i : Nat} {T : Addr} (x : TupsAre g spans ys i) (hs : ys.size = i) (hT : ∃ tf tb, IsTup g T #[.int (firstOf spans i) tf, .int (endOf spans i) tb]) : TupsAre g spans (ys.push (.ref T)) (i + 1) := fun k hk => by
  obtain ⟨tf, tb, hT⟩ := hT
  by_cases h : k = i
  · subst h
    exact ⟨T, tf, tb, by rw [Array.getElem?_push, if_pos hs.symm], hT⟩
  · obtain ⟨T', tf', tb', e, r⟩ := x k (by omega)
    exact ⟨T', tf', tb', by rw [Array.getElem?_push, if_neg (by omega)]; exact e, r⟩

section
variable {prog : Program} {w : World} {A : Around} {E : Value → Shared → Prop} {s : Shared} {L fa : Addr} {m : Str → Option Value} {c : Nat → Option Value} {ps qs : Array Value}

theorem mem_cons_of_sub {X Z : List Addr} {C : Addr} (h : ∀ b ∈ C :: X, b ∈ Z) : C ∈ Z := h C (.head _)

/-- spans = [(x % 20, x % 20 + 1 + x // 20 % 5) for x in numbers] -/
theorem law_s1 {Q : Flow → Shared → Prop} {aN : Addr} {ws : List Value} {ns : List Int} (hh : A.handled = none) (S : LS L s.heap m c ps qs) (hl : s.heap.IsList aN ws.toArray) (hi : IntsAre ws (nums ns)) (hm : m "numbers" = some (.ref aN))
    (hQ : ∀ s' aS tups, Upd (X0 L) s s' → LS L s'.heap m (fun j => if j = 7 then some (.ref aS) else c j) ps qs → (hideAll s'.heap (X0 L)).IsList aS tups → tups.size = (spansOf ns).length → TupsAre (hideAll s'.heap (X0 L)) (spansOf ns) tups (spansOf ns).length → Q .next s') :
    wpAny (model prog w) A (exec ((stBody lawS).getD 1 default) (lawEnv L fa)) Q E s := by
  have hwl : ws.length = (nums ns).length := IntsAre_len hi
  have hnl := nums_len ns
  refine wpAny_Assign_Name ?_
  refine lcomp_eval (cl := []) hh rfl (by decide) rfl (by decide) ?_
  refine wpAny_Name (wpAny_loadName_local rfl rfl S.ns hm ?_)
  refine ⟨X0 L, aN, ws.toArray, (fun _ h => LS L h m c ps qs), (fun i ys g => ys.size = i ∧ TupsAre g (spansOf ns) ys i), rfl, hl, S.noList hl, S.lt, by simp; omega, fun i h h' x k => x.keep k, ?_, S, ?_, ?_, ?_⟩
  · rintro i ys g g' ⟨a, b⟩ k
    exact ⟨a, b.keeps k⟩
  · intro g
    exact ⟨rfl, fun k hk => absurd hk (Nat.not_lt_zero _)⟩
  · rintro C Z i v s₂ m₂ ys hC hZ1 hZ2 hv hys U M ⟨f1, f2⟩ hn E'
    rw [List.getElem?_toArray] at hv
    obtain ⟨n, t, hn1, rfl⟩ := IntsAre_get hi i v hv
    refine wpAny_assign_Name (wpAny_storeName_local rfl hn fun h₃ hn₃ hs₃ => ?_)
    refine wpAny_tests_nil ?_
    rw [if_pos rfl]
    have U3 : Upd [C] s₂ { s₂ with heap := h₃, toks := s₂.toks + 1 } := Upd.same hs₃
    refine wpAny_Tuple (k := 0) ?_
    refine wpAny_items_cons ?_
    refine wpAny_BinOp ?_
    refine wpAny_Name (wpAny_loadName_local (s := { s₂ with heap := h₃, toks := s₂.toks + 1 }) rfl rfl hn₃ rfl ?_)
    refine wpAny_Constant_int ?_
    refine PyProof.Rows.mod_int (by decide) ?_
    refine wpAny_items_cons ?_
    refine wpAny_BinOp ?_
    refine wpAny_BinOp ?_
    refine wpAny_BinOp ?_
    refine wpAny_Name (wpAny_loadName_local rfl rfl hn₃ rfl ?_)
    refine wpAny_Constant_int ?_
    refine PyProof.Rows.mod_int (by decide) ?_
    refine wpAny_Constant_int ?_
    refine PyProof.Rows.add_int ?_
    refine wpAny_BinOp ?_
    refine wpAny_BinOp ?_
    refine wpAny_Name (wpAny_loadName_local rfl rfl hn₃ rfl ?_)
    refine wpAny_Constant_int ?_
    refine PyProof.Rows.floordiv_int (by decide) ?_
    refine wpAny_Constant_int ?_
    refine PyProof.Rows.mod_int (by decide) ?_
    refine PyProof.Rows.add_int ?_
    refine wpAny_items_nil ?_
    refine ⟨by size_fits, ?_⟩
    dsimp only
    have hTZ : h₃.objs.size ∉ Z := fun z => absurd (hZ2 _ z) (Nat.not_le.mpr hn₃.lt)
    have CX : C ∉ X0 L := fun z => absurd (S.lt C z) (Nat.not_lt.mpr hC)
    have U4 : ∀ (o : Obj) (tk : Nat), Upd (C :: X0 L) s₂ { s₂ with heap := h₃.push o, toks := tk } := fun o tk => (U3.mono sub1).trans (Upd.of0 (s := { s₂ with heap := h₃, toks := s₂.toks + 1 }) fun b o' e => Heap.get?_push_of_some _ e)
    obtain ⟨g1, g2⟩ := spansOf_get hn1
    refine ⟨U4 _ _, ⟨_, hn₃.push _⟩, M.keep fun b hb o e => Heap.get?_push_of_some _ (U3.keep (fun z => ?_) e), by rw [Array.size_push, f1], ?_⟩
    · rcases List.mem_cons.mp z with z | z
      · exact CX (z ▸ hb)
      · cases z
    · refine TupsAre.push (f2.keeps ((U4 _ 0).hide hZ1)) f1 ?_
      rw [g1, g2]
      exact ⟨_, _, _, hideAll_get Z (Heap.get?_push_size _ rfl) hTZ, rfl, 0, rfl⟩
  · rintro D s' ys U hD hp hys M ⟨f1, f2⟩
    have hsz : ws.toArray.size = (spansOf ns).length := by rw [spansOf_len, ← hwl]; simp
    rw [hsz] at f1 f2
    refine wpAny_storeName_cell rfl rfl (c := L + 7) rfl (M.cell 7 (by decide) (by decide)) fun h₂ hc₂ hs₂ => ?_
    have U2 : Upd [L + 7] s' { s' with heap := h₂ } := Upd.same (tk := s'.toks) hs₂
    have sub7 : ∀ b ∈ [L + 7], b ∈ X0 L := fun b hb => by
      rcases List.mem_cons.mp hb with rfl | hb
      · exact X0_c L (by decide) (by decide)
      · cases hb
    have DX : D ∉ X0 L := fun z => absurd (S.lt D z) (Nat.not_lt.mpr hD)
    refine hQ _ D ys (U.trans (U2.mono sub7)) (M.setC (by decide) (by decide) hs₂ hc₂) ?_ f1 (f2.keeps fun b o e => ?_)
    · obtain ⟨n, e⟩ := hp
      refine ⟨_, hideAll_get _ (U2.keep (fun z => DX (sub7 _ z)) e) DX, rfl, n, rfl⟩
    · exact U2.hide sub7 b o (hide_less (fun b hb => .tail _ hb) b o e)
end
end Mine

-- part: MjLaw3
namespace Mine

/-- the first i of ys are hits -/
def HitsAre (g : Heap) (spans : List (Int × Int)) (ys : Array Value) (i : Nat) : Prop :=
  ys.size = i ∧ ∀ k, k < i → ∃ a, ys[k]? = some (.ref a) ∧ HitAt g a (firstOf spans k) (endOf spans k)
theorem HitsAre.keeps {g h : Heap} {spans : List (Int × Int)} {ys : Array Value} {i : Nat} (x : HitsAre g spans ys i) (k : ∀ b o, g.get? b = some o → h.get? b = some o) : HitsAre h spans ys i :=
  ⟨x.1, fun j hj => let ⟨T, e, r⟩ := x.2 j hj; ⟨T, e, r.keeps k⟩⟩
theorem HitsAre.push {g : Heap} {spans : List (Int × Int)} {ys : Array Value} {i : Nat} {a : Addr} (x : HitsAre g spans ys i) (hT : HitAt g a (firstOf spans i) (endOf spans i)) : HitsAre g spans (ys.push (.ref a)) (i + 1) := by
  obtain ⟨hs, x⟩ := x
  refine ⟨by rw [Array.size_push, hs], fun k hk => ?_⟩
  by_cases h : k = i
  · subst h
    exact ⟨a, by rw [Array.getElem?_push, if_pos hs.symm], hT⟩
  · obtain ⟨T', e, r⟩ := x k (by omega)
    exact ⟨T', by rw [Array.getElem?_push, if_neg (by omega)]; exact e, r⟩

section
variable {prog : Program} {w : World} {A : Around} {E : Value → Shared → Prop} {s : Shared} {L fa : Addr} {m : Str → Option Value} {c : Nat → Option Value} {ps qs : Array Value} {g : Heap} {mg mb : Str → Option Value}

/-- hits = [_law_hit(first, behind) for first, behind in spans] -/
theorem law_s2 {Q : Flow → Shared → Prop} {aS fH : Addr} {q : Str} {tups : Array Value} {spans : List (Int × Int)} (hh : A.handled = none) (hroom : A.depth < recursionLimit) (S : LS L s.heap m c #[] qs) (G : Gr g mg mb) (H : HitFnAt g fH q) (hmH : mg "_law_hit" = some (.ref fH))
    (k : ∀ b o, g.get? b = some o → s.heap.get? b = some o) (out : ∀ b ∈ X0 L, g.get? b = none) (hc : c 7 = some (.ref aS)) (hl : g.IsList aS tups) (htsz : tups.size = spans.length) (hfew : spans.length ≤ 100) (ht : TupsAre g spans tups spans.length)
    (hQ : ∀ s' aH ys ps', Upd (X0 L) s s' → LS L s'.heap m (fun j => if j = 6 then some (.ref aH) else c j) ps' qs → (hideAll s'.heap (X0 L)).IsList aH ys → HitsAre (hideAll s'.heap (X0 L)) spans ys spans.length → Q .next s') :
    wpAny (model prog w) A (exec ((stBody lawS).getD 2 default) (lawEnv L fa)) Q E s := by
  have g23 := out _ (X0_1 L)
  have hl' : s.heap.IsList aS tups := let ⟨o, e, r⟩ := hl; ⟨o, k _ _ e, r⟩
  refine wpAny_Assign_Name ?_
  refine lcomp_evalN (cl := []) hh rfl (by decide) rfl (by decide) ?_
  have hc7 := S.cell 7 (by decide) (by decide)
  rw [hc] at hc7
  refine wpAny_Name (wpAny_loadName_cell rfl rfl (c := L + 7) rfl hc7 ?_)
  refine ⟨X0 L, aS, tups, (fun i ys h g' => ∃ ps', LS L h m c ps' qs ∧ TabOk g' q ps' ∧ HitsAre g' spans ys i), rfl, hl', S.noList hl', S.lt, by omega, ?_, ?_, ?_, ?_⟩
  · rintro i ys h h' g1 g2 ⟨ps', a1, a2, a3⟩ k1 k2
    exact ⟨ps', a1.keep k1, a2.keeps k2, a3.keeps k2⟩
  · intro Z
    exact ⟨#[], S, .inl rfl, rfl, fun k hk => absurd hk (Nat.not_lt_zero _)⟩
  · rintro C Z i v s₂ m₂ ys hC hZ1 hZ2 hv hys U ⟨ps', M, T, F⟩ hn E'
    have hi : i < spans.length := by
      have := (Array.getElem?_eq_some_iff.mp hv).1
      omega
    obtain ⟨Tp, tf, tb, e1, e2⟩ := ht i hi
    rw [hv] at e1
    cases e1
    have k2 : ∀ b o, g.get? b = some o → s₂.heap.get? b = some o := U.ghost out k
    refine unpack2 (env := compEnvC _ [] C (lawEnv L fa)) hh rfl rfl rfl (e2.keeps k2) hn fun s₃ U3 hn₃ => ?_
    refine wpAny_tests_nil ?_
    rw [if_pos rfl]
    have CX : C ∉ X0 L := fun z => absurd (S.lt C z) (Nat.not_lt.mpr hC)
    have gC : g.get? C = none := by
      cases e : g.get? C with
      | none => rfl
      | some o => exact absurd (Heap.lt_size (k _ _ e)) (Nat.not_lt.mpr hC)
    have k3 : ∀ b o, g.get? b = some o → s₃.heap.get? b = some o := U3.ghost (one_none gC) k2
    have M3 : LS L s₃.heap m c ps' qs := M.upd U3 fun b hb => not_one fun z => CX (by rw [show C = b from z.symm]; exact hb)
    have sC : ∀ b ∈ [C], b ∈ Z := fun b hb => by
      rcases List.mem_cons.mp hb with rfl | hb
      · exact hZ1 _ (.head _)
      · cases hb
    have hZ3 : ∀ b ∈ Z, b < s₃.heap.objs.size := fun b hb => Nat.lt_of_le_of_lt (hZ2 b hb) hn₃.lt
    refine wpAny_Call_NameR (Calls.Name_function_global rfl rfl (Calls.loadGlobal_global (G.ns.keeps k3) hmH ?_))
    obtain ⟨doc, pm, an, ct, oc, dd, sl, f1, f2⟩ := id H
    refine callWith_F (first := []) ⟨_, _, _, _, k3 _ _ f1⟩ ?_
    refine wpAny_items_cons ?_
    refine wpAny_Name (wpAny_loadName_local rfl rfl hn₃ rfl ?_)
    refine wpAny_items_cons ?_
    refine wpAny_Name (wpAny_loadName_local rfl rfl hn₃ rfl ?_)
    refine wpAny_items_nil ?_
    refine ⟨⟨_, _, _, _, k3 _ _ f1⟩, ?_⟩
    refine hit_call (Z := Z) G H k3 g23 hroom M3.t1 hZ3 (hZ1 _ (.tail _ (X0_1 L))) (T.keeps (U3.hide sC)) fun a s₄ ps4 U4 nA t4 T4 H4 => ?_
    have x4 : Heap.ExtBut 23 s₃.heap s₄.heap := fun b o hb e => U4.keep (not_one hb) e
    have C23 : C ≠ 23 := fun z => CX (z ▸ X0_1 L)
    have s23 : ∀ b ∈ [23], b ∈ Z := fun b hb => by
      rcases List.mem_cons.mp hb with rfl | hb
      · exact hZ1 _ (.tail _ (X0_1 L))
      · cases hb
    refine ⟨(U3.mono sub1).trans (U4.mono fun b hb => ?_), ⟨_, hn₃.at' fun o e => x4 _ o C23 e⟩, ps4, M3.ext1 x4 t4, T4, ?_⟩
    · rcases List.mem_cons.mp hb with rfl | hb
      · exact .tail _ (X0_1 L)
      · cases hb
    · exact HitsAre.push ((F.keeps (U3.hide sC)).keeps (U4.hide s23)) H4
  · rintro D s' ys U hD hp hys ⟨ps', M, T, F⟩
    rw [htsz] at F
    refine wpAny_storeName_cell rfl rfl (c := L + 6) rfl (M.cell 6 (by decide) (by decide)) fun h₂ hc₂ hs₂ => ?_
    have U2 : Upd [L + 6] s' { s' with heap := h₂ } := Upd.same (tk := s'.toks) hs₂
    have sub6 : ∀ b ∈ [L + 6], b ∈ X0 L := fun b hb => by
      rcases List.mem_cons.mp hb with rfl | hb
      · exact X0_c L (by decide) (by decide)
      · cases hb
    have DX : D ∉ X0 L := fun z => absurd (S.lt D z) (Nat.not_lt.mpr hD)
    refine hQ _ D ys ps' (U.trans (U2.mono sub6)) (M.setC (by decide) (by decide) hs₂ hc₂) ?_ (F.keeps fun b o e => ?_)
    · obtain ⟨n, e⟩ := hp
      refine ⟨_, hideAll_get _ (U2.keep (fun z => DX (sub6 _ z)) e) DX, rfl, n, rfl⟩
    · exact U2.hide sub6 b o (hide_less (fun b hb => .tail _ hb) b o e)
end
end Mine

-- part: MjLaw4
namespace Mine
def rowS : Str := Txt.mul "." 24
theorem rowS_ok : PyData.strOk rowS = true := by decide +kernel

section
variable {prog : Program} {w : World} {A : Around} {E : Value → Shared → Prop} {s : Shared} {L fa : Addr} {m : Str → Option Value} {c : Nat → Option Value} {ps qs : Array Value} {g : Heap} {mg mb : Str → Option Value}

/-- row = '.' * 24 -/
theorem law_s3 {Q : Flow → Shared → Prop} (S : LS L s.heap m c ps qs)
    (hQ : ∀ s' t, Upd [L + 3] s s' → LS L s'.heap m (fun j => if j = 3 then some (.str rowS t) else c j) ps qs → Q .next s') :
    wpAny (model prog w) A (exec ((stBody lawS).getD 3 default) (lawEnv L fa)) Q E s := by
  refine wpAny_Assign_Name ?_
  refine wpAny_BinOp ?_
  refine wpAny_Constant_str ?_
  refine wpAny_Constant_int ?_
  refine SB.mul ⟨by decide, by intro _ _; decide, by intro _ _; decide⟩ fun t' k => ?_
  refine wpAny_storeName_cell (s := { s with toks := k }) rfl rfl (c := L + 3) rfl (S.cell 3 (by decide) (by decide)) fun h₂ hc₂ hs₂ => ?_
  exact hQ _ t' (Upd.same hs₂) (S.setC (by decide) (by decide) hs₂ hc₂)

/-- asked = [] -/
theorem law_s4 {Q : Flow → Shared → Prop} (S : LS L s.heap m c ps qs)
    (hQ : ∀ s' aA, Upd [L + 5] s s' → s.heap.objs.size ≤ aA → LS L s'.heap m (fun j => if j = 5 then some (.ref aA) else c j) ps qs → s'.heap.PlainList aA #[] → Q .next s') :
    wpAny (model prog w) A (exec ((stBody lawS).getD 4 default) (lawEnv L fa)) Q E s := by
  refine wpAny_Assign_Name ?_
  refine wpAny_List ?_
  refine wpAny_items_nil ?_
  refine ⟨by size_fits, ?_⟩
  have S1 : LS L (s.heap.push { cls := .type "list", data := .seq ([] : List Value).toArray }) m c ps qs := S.keep fun b _ o e => Heap.get?_push_of_some _ e
  have hne : s.heap.objs.size ≠ L + 5 := Nat.ne_of_gt (S.lt _ (X0_c L (by decide) (by decide)))
  refine wpAny_storeName_cell (s := { s with heap := s.heap.push _ }) rfl rfl (c := L + 5) rfl (S1.cell 5 (by decide) (by decide)) fun h₂ hc₂ hs₂ => ?_
  refine hQ _ s.heap.objs.size ?_ (Nat.le_refl _) (S1.setC (by decide) (by decide) hs₂ hc₂) ⟨0, (hs₂.2 _ hne).trans (Heap.get?_push_size _ rfl)⟩
  exact Upd.of (tk := s.toks) fun b o hb e => (hs₂.2 b (fun z => hb (by rw [z]; exact .head _))).trans (Heap.get?_push_of_some _ e)

/-- def search(chars, start=None) -/
theorem law_s5 {Q : Flow → Shared → Prop} (S : LS L s.heap m c ps #[]) (G : Gr g mg mb) (k : ∀ b o, g.get? b = some o → s.heap.get? b = some o)
    (hQ : ∀ s' fS dT c' q doc pm ct, Upd [L, 30] s s' → s.heap.objs.size ≤ fS → s.heap.objs.size ≤ dT → s.heap.objs.size ≤ c' → LS L s'.heap (fun x => if x = "search" then some (.ref fS) else m x) c ps #[rawInt (stPos seS).line, rawInt (stPos seS).col, .ref c'] →
      s'.heap.get? fS = some ⟨.type "function", none, .func (seFn q (L + 5) (L + 6) (L + 7) dT doc pm c' ct), #[]⟩ → s'.heap.CodeRec (.ref c') q → s'.heap.get? dT = some { cls := .type "tuple", data := .seq #[.none] } → Q .next s') :
    wpAny (model prog w) A (exec seS (lawEnv L fa)) Q E s := by
  refine kdv_def rfl rfl rfl ?_
  refine kdv_all1 (wpAny_Constant_none (kdv_all0 ?_))
  rw [makeFunction_eq]
  simp only [List.zip_nil_right, List.filterMap_nil, List.isEmpty_nil, if_true, pure_bind, List.isEmpty_cons, Bool.false_eq_true, if_false]
  refine wpAny_bind (wpAny_newTextTuple ?_)
  have kp : ∀ b o, s.heap.get? b = some o → (s.heap.push { cls := .type "tuple", data := .seq [Value.none].toArray }).get? b = some o := fun b o e => Heap.get?_push_of_some _ e
  have k1 : ∀ b o, g.get? b = some o → (s.heap.push { cls := .type "tuple", data := .seq [Value.none].toArray }).get? b = some o := fun b o e => kp b o (k b o e)
  have S1 : LS L (s.heap.push { cls := .type "tuple", data := .seq [Value.none].toArray }) m c ps #[] := S.keep fun b _ o e => kp b o e
  refine kdv_makeTail (s := { s with heap := s.heap.push _ }) (c := 32) (P := 30) (ps := #[]) (clos := [("spans", L + 7), ("hits", L + 6), ("asked", L + 5)]) rfl rfl (G.ns.keeps k1) rfl (G.c32.keeps k1) S1.t2 trivial rfl (by decide) (bat_keeps G.b30 k1) fun c' ctv doc h' tk hx h1 h2 h3 h4 => ?_
  have S2 : LS L h' m c ps #[rawInt (stPos seS).line, rawInt (stPos seS).col, .ref c'] := S1.ext2 hx h4
  have dT30 : s.heap.objs.size ≠ 30 := Nat.ne_of_gt (S.lt _ (X0_2 L))
  have dTL : s.heap.objs.size ≠ L := Nat.ne_of_gt (S.lt _ (X0_L L))
  have szP : s.heap.objs.size + 1 ≤ c' := by rw [Heap.size_push] at h1; exact h1
  have fSL : h'.objs.size ≠ L := Nat.ne_of_gt (S2.lt _ (X0_L L))
  have S3 : LS L (h'.push (kdv_obj "search" (qualnameIn (lawEnv L fa) "search" "search") (stArgs seS) (.stmts (stBody seS)) (stScope seS) [("spans", L + 7), ("hits", L + 6), ("asked", L + 5)] (.ref s.heap.objs.size) doc ((mg "__name__").getD .none) c' ctv)) m c ps #[rawInt (stPos seS).line, rawInt (stPos seS).col, .ref c'] :=
    S2.keep fun b _ o e => Heap.get?_push_of_some _ e
  refine wpAny_storeName_local (s := { s with heap := h'.push _, toks := tk }) rfl S3.ns fun h'' hn hs => ?_
  refine hQ _ h'.objs.size s.heap.objs.size c' (qualnameIn (lawEnv L fa) "search" "search") doc ((mg "__name__").getD .none) ctv ?_ ?_ (Nat.le_refl _) (Nat.le_of_succ_le szP) (S3.setL hs hn) ?_ ?_ ?_
  · refine Upd.of fun b o hb e => ?_
    have bL : b ≠ L := fun z => hb (by rw [z]; exact .head _)
    have b30 : b ≠ 30 := fun z => hb (by rw [z]; exact .tail _ (.head _))
    exact (hs.2 b bL).trans (Heap.get?_push_of_some _ (hx b o b30 (kp b o e)))
  · exact Nat.le_of_lt (Nat.lt_of_le_of_lt (Nat.le_of_succ_le szP) h2)
  · exact (hs.2 _ fSL).trans (Heap.get?_push_size _ rfl)
  · obtain ⟨cc, o, vs, t, e1, e2, e3, e4⟩ := h3
    cases e1
    refine ⟨c', o, vs, t, rfl, (hs.2 _ fun z => ?_).trans (Heap.get?_push_of_some _ e2), e3, e4⟩
    obtain ⟨o', es, ep, f1, f2, _⟩ := S2.ns
    rw [show c' = L from z, f1] at e2; cases e2; rw [f2] at e3; cases e3
  · exact (hs.2 _ dTL).trans (Heap.get?_push_of_some _ (hx _ _ dT30 (Heap.get?_push_size _ rfl)))

/-- prog = lambda: None -/
theorem law_s6 {Q : Flow → Shared → Prop} {c' : Addr} (S : LS L s.heap m c ps #[rawInt (stPos seS).line, rawInt (stPos seS).col, .ref c']) (G : Gr g mg mb) (k : ∀ b o, g.get? b = some o → s.heap.get? b = some o)
    (hQ : ∀ s' pg fd qs', Upd [L, 30] s s' → s.heap.objs.size ≤ pg → LS L s'.heap (fun x => if x = "prog" then some (.ref pg) else m x) c ps qs' → s'.heap.get? pg = some ⟨.type "function", none, .func fd, #[]⟩ → Q .next s') :
    wpAny (model prog w) A (exec ((stBody lawS).getD 6 default) (lawEnv L fa)) Q E s := by
  refine wpAny_Assign_Name ?_
  refine mkLam (c := 32) (P := 30) (ps := #[rawInt (stPos seS).line, rawInt (stPos seS).col, .ref c']) rfl rfl rfl (G.ns.keeps k) rfl (G.c32.keeps k) (bat_keeps G.b30 k) (by decide) S.t2 trivial (.inl rfl) fun c2 ct2 pm2 h₁ qs1 tk1 x1 sz1 t1 d1 => ?_
  have S2 : LS L h₁ m c ps qs1 := S.ext2 x1 t1
  have S3 : LS L (h₁.push (kla_obj "<lambda>" ((lawEnv L fa).qual ++ "<lambda>") (lamArgs lam2) (lamBody lam2) (lamScope lam2) [] pm2 c2 ct2)) m c ps qs1 := S2.keep fun b _ o e => Heap.get?_push_of_some _ e
  have fSL : h₁.objs.size ≠ L := Nat.ne_of_gt (S2.lt _ (X0_L L))
  refine wpAny_storeName_local (s := { s with heap := h₁.push _, toks := tk1 }) rfl S3.ns fun h'' hn hs => ?_
  refine hQ _ h₁.objs.size _ qs1 ?_ sz1 (S3.setL hs hn) ((hs.2 _ fSL).trans (Heap.get?_push_size _ rfl))
  refine Upd.of fun b o hb e => ?_
  have bL : b ≠ L := fun z => hb (by rw [z]; exact .head _)
  have b30 : b ≠ 30 := fun z => hb (by rw [z]; exact .tail _ (.head _))
  exact (hs.2 b bL).trans (Heap.get?_push_of_some _ (x1 b o b30 e))

/-- prog.search = search -/
theorem law_s7 {Q : Flow → Shared → Prop} {pg fS : Addr} {fd : FuncData} (S : LS L s.heap m c ps qs) (hp : s.heap.get? pg = some ⟨.type "function", none, .func fd, #[]⟩) (h1 : m "prog" = some (.ref pg)) (h2 : m "search" = some (.ref fS))
    (hQ : ∀ s' D, Upd [pg] s s' → s.heap.objs.size ≤ D → LS L s'.heap m c ps qs → s'.heap.get? pg = some ⟨.type "function", some D, .func fd, #[]⟩ → s'.heap.Ns D (fun y => if y = "search" then some (.ref fS) else none) → Q .next s') :
    wpAny (model prog w) A (exec ((stBody lawS).getD 7 default) (lawEnv L fa)) Q E s := by
  have nX : ∀ b ∈ X0 L, b ≠ pg := fun b hb z => by
    rcases mem_X0.mp hb with rfl | ⟨i, h1, h2, rfl⟩ | rfl | rfl
    · obtain ⟨o, es, ep, e1, e2, _⟩ := S.ns
      rw [z, hp] at e1; cases e1; cases e2
    · obtain ⟨o, e1, e2⟩ := S.cell i h1 h2
      rw [z, hp] at e1; cases e1; cases e2
    · have e1 := S.t1
      rw [z, hp] at e1; cases e1
    · have e1 := S.t2
      rw [z, hp] at e1; cases e1
  refine plainObj_wpAny_Assign_Attribute ?_
  refine wpAny_Name (wpAny_loadName_local rfl rfl S.ns h2 ?_)
  refine wpAny_Name (wpAny_loadName_local rfl rfl S.ns h1 ?_)
  refine setAttr_fn hp FF.lk_search fun h' tk' D e1 e2 e3 e4 => ?_
  refine hQ _ D (Upd.of fun b o hb e => e4 b o (fun z => hb (by rw [z]; exact .head _)) e) (by rw [e3]; exact Nat.le_refl _) (S.keep fun b hb o e => e4 b o (nX b hb) e) e1 e2

/-- kept = [] -/
theorem law_s8 {Q : Flow → Shared → Prop} (S : LS L s.heap m c ps qs)
    (hQ : ∀ s' aK, Upd [L] s s' → s.heap.objs.size ≤ aK → LS L s'.heap (fun x => if x = "kept" then some (.ref aK) else m x) c ps qs → s'.heap.PlainList aK #[] → Q .next s') :
    wpAny (model prog w) A (exec ((stBody lawS).getD 8 default) (lawEnv L fa)) Q E s := by
  refine wpAny_Assign_Name ?_
  refine wpAny_List ?_
  refine wpAny_items_nil ?_
  refine ⟨by size_fits, ?_⟩
  have S1 : LS L (s.heap.push { cls := .type "list", data := .seq ([] : List Value).toArray }) m c ps qs := S.keep fun b _ o e => Heap.get?_push_of_some _ e
  have hne : s.heap.objs.size ≠ L := Nat.ne_of_gt (S.lt _ (X0_L L))
  refine wpAny_storeName_local (s := { s with heap := s.heap.push _ }) rfl S1.ns fun h₂ hn hs₂ => ?_
  refine hQ _ s.heap.objs.size ?_ (Nat.le_refl _) (S1.setL hs₂ hn) ⟨0, (hs₂.2 _ hne).trans (Heap.get?_push_size _ rfl)⟩
  exact Upd.of fun b o hb e => (hs₂.2 b (fun z => hb (by rw [z]; exact .head _))).trans (Heap.get?_push_of_some _ e)
end
end Mine

-- part: MjLaw5
namespace Mine

/-- what stays as it is from here on -/
structure Frz (g : Heap) (L : Addr) (spans : List (Int × Int)) (hitA : List Addr) (fS aA pg fR aS : Addr) (rowV : Value) (tups : Array Value) (mg mb : Str → Option Value) : Prop where
  bed : Bed g spans hitA fS aA
  prog : ProgAt g pg fS
  sr : SrAt g fR
  gr : Gr g mg mb
  msr : mg "search_reverse" = some (.ref fR)
  isRow : ∃ t, rowV = .str rowS t
  row : g.IsCell (L + 3) (some rowV)
  ask : g.IsCell (L + 5) (some (.ref aA))
  sp : g.IsCell (L + 7) (some (.ref aS))
  lst : g.IsList aS tups
  tsz : tups.size = spans.length
  tup : TupsAre g spans tups spans.length

def X1 (L aA aK : Addr) : List Addr := [L, L + 1, L + 2, L + 4, 23, 30, aA, aK]

/-- what changes from here on -/
structure FS (L aA aK : Addr) (g h : Heap) (m : Str → Option Value) (c : Nat → Option Value) (xs ys : Array Value) : Prop where
  ns : h.Ns L m
  cell : ∀ i, (i = 1 ∨ i = 2 ∨ i = 4) → h.IsCell (L + i) (c i)
  t1 : ∃ ps, h.get? 23 = some (tabObj ps)
  t2 : ∃ ps, h.get? 30 = some (tabObj ps)
  pa : h.PlainList aA xs
  pk : h.PlainList aK ys
  ne : aA ≠ aK
  sub : ∀ b o, g.get? b = some o → h.get? b = some o
  out : ∀ b ∈ X1 L aA aK, g.get? b = none

section
variable {L aA aK : Addr} {g h h' : Heap} {m m' : Str → Option Value} {c : Nat → Option Value} {xs ys xs' ys' : Array Value}
theorem X1_L : L ∈ X1 L aA aK := .head _
theorem X1_c {i : Nat} (hi : i = 1 ∨ i = 2 ∨ i = 4) : L + i ∈ X1 L aA aK := by
  rcases hi with rfl | rfl | rfl
  · exact .tail _ (.head _)
  · exact .tail _ (.tail _ (.head _))
  · exact .tail _ (.tail _ (.tail _ (.head _)))
theorem X1_1 : 23 ∈ X1 L aA aK := by simp [X1]
theorem X1_2 : 30 ∈ X1 L aA aK := by simp [X1]
theorem X1_A : aA ∈ X1 L aA aK := by simp [X1]
theorem X1_K : aK ∈ X1 L aA aK := by simp [X1]
theorem mem_X1 {b : Addr} (h : b ∈ X1 L aA aK) : b = L ∨ (∃ i : Nat, (i = 1 ∨ i = 2 ∨ i = 4) ∧ b = L + i) ∨ b = 23 ∨ b = 30 ∨ b = aA ∨ b = aK := by
  simp only [X1, List.mem_cons, List.not_mem_nil, or_false] at h
  rcases h with h | h | h | h | h | h | h | h
  · exact .inl h
  · exact .inr (.inl ⟨1, .inl rfl, h⟩)
  · exact .inr (.inl ⟨2, .inr (.inl rfl), h⟩)
  · exact .inr (.inl ⟨4, .inr (.inr rfl), h⟩)
  · exact .inr (.inr (.inl h))
  · exact .inr (.inr (.inr (.inl h)))
  · exact .inr (.inr (.inr (.inr (.inl h))))
  · exact .inr (.inr (.inr (.inr (.inr h))))

theorem FS.lt (x : FS L aA aK g h m c xs ys) : ∀ b ∈ X1 L aA aK, b < h.objs.size := fun b hb => by
  rcases mem_X1 hb with rfl | ⟨i, hi, rfl⟩ | rfl | rfl | rfl | rfl
  · exact x.ns.lt
  · obtain ⟨o, e, _⟩ := x.cell i hi; exact Heap.lt_size e
  · obtain ⟨p, e⟩ := x.t1; exact Heap.lt_size e
  · obtain ⟨p, e⟩ := x.t2; exact Heap.lt_size e
  · obtain ⟨n, e⟩ := x.pa; exact Heap.lt_size e
  · obtain ⟨n, e⟩ := x.pk; exact Heap.lt_size e
theorem FS.keep (x : FS L aA aK g h m c xs ys) (k : ∀ b o, h.get? b = some o → h'.get? b = some o) : FS L aA aK g h' m c xs ys :=
  ⟨x.ns.keeps k, fun i hi => (x.cell i hi).keeps k, let ⟨p, e⟩ := x.t1; ⟨p, k _ _ e⟩, let ⟨p, e⟩ := x.t2; ⟨p, k _ _ e⟩, x.pa.at fun o e => k _ o e, x.pk.at fun o e => k _ o e, x.ne, fun b o e => k b o (x.sub b o e), x.out⟩
theorem FS.upd0 {s s' : Shared} (x : FS L aA aK g s.heap m c xs ys) (U : Upd [] s s') : FS L aA aK g s'.heap m c xs ys := x.keep U.nil_keep
theorem FS.setL (x : FS L aA aK g h m c xs ys) (hs : Heap.SameBut L h h') (hn : h'.Ns L m') : FS L aA aK g h' m' c xs ys := by
  obtain ⟨p1, e1⟩ := x.t1
  obtain ⟨p2, e2⟩ := x.t2
  exact ⟨hn, fun i hi => cell_at (x.cell i hi) fun o e => (hs.2 _ (cell_ne_ns (x.cell i hi) x.ns)).trans e, ⟨p1, (hs.2 _ (ns_ne_tab x.ns e1).symm).trans e1⟩, ⟨p2, (hs.2 _ (ns_ne_tab x.ns e2).symm).trans e2⟩,
    x.pa.at fun o e => (hs.2 _ (pl_ne_ns x.pa.isList x.ns)).trans e, x.pk.at fun o e => (hs.2 _ (pl_ne_ns x.pk.isList x.ns)).trans e, x.ne,
    fun b o e => (hs.2 b fun z => by rw [z, x.out _ X1_L] at e; cases e).trans (x.sub b o e), x.out⟩
theorem FS.setC {i : Nat} {v : Option Value} (x : FS L aA aK g h m c xs ys) (hi : i = 1 ∨ i = 2 ∨ i = 4) (hs : Heap.SameBut (L + i) h h') (hc : h'.IsCell (L + i) v) : FS L aA aK g h' m (fun j => if j = i then v else c j) xs ys := by
  obtain ⟨p1, e1⟩ := x.t1
  obtain ⟨p2, e2⟩ := x.t2
  have C := x.cell i hi
  refine ⟨x.ns.at' fun o e => (hs.2 _ (cell_ne_ns C x.ns).symm).trans e, fun j hj => ?_, ⟨p1, (hs.2 _ (cell_ne_tab C e1).symm).trans e1⟩, ⟨p2, (hs.2 _ (cell_ne_tab C e2).symm).trans e2⟩,
    x.pa.at fun o e => (hs.2 _ (pl_ne_cell x.pa.isList C)).trans e, x.pk.at fun o e => (hs.2 _ (pl_ne_cell x.pk.isList C)).trans e, x.ne,
    fun b o e => (hs.2 b fun z => by rw [z, x.out _ (X1_c hi)] at e; cases e).trans (x.sub b o e), x.out⟩
  by_cases hji : j = i
  · subst hji; rw [if_pos rfl]; exact hc
  · rw [if_neg hji]
    exact cell_at (x.cell j hj) fun o e => (hs.2 _ (fun z => hji (Nat.add_left_cancel z))).trans e
theorem FS.updA {s s' : Shared} (x : FS L aA aK g s.heap m c xs ys) (U : Upd [aA] s s') (hp : s'.heap.PlainList aA xs') : FS L aA aK g s'.heap m c xs' ys := by
  obtain ⟨p1, e1⟩ := x.t1
  obtain ⟨p2, e2⟩ := x.t2
  exact ⟨x.ns.at' fun o e => U.keep (not_one (pl_ne_ns x.pa.isList x.ns).symm) e, fun i hi => cell_at (x.cell i hi) fun o e => U.keep (not_one (pl_ne_cell x.pa.isList (x.cell i hi)).symm) e,
    ⟨p1, U.keep (not_one (pl_ne_tab x.pa.isList e1).symm) e1⟩, ⟨p2, U.keep (not_one (pl_ne_tab x.pa.isList e2).symm) e2⟩, hp, x.pk.at fun o e => U.keep (not_one x.ne.symm) e, x.ne,
    U.ghost (one_none (x.out _ X1_A)) x.sub, x.out⟩
theorem FS.updK {s s' : Shared} (x : FS L aA aK g s.heap m c xs ys) (U : Upd [aK] s s') (hp : s'.heap.PlainList aK ys') : FS L aA aK g s'.heap m c xs ys' := by
  obtain ⟨p1, e1⟩ := x.t1
  obtain ⟨p2, e2⟩ := x.t2
  exact ⟨x.ns.at' fun o e => U.keep (not_one (pl_ne_ns x.pk.isList x.ns).symm) e, fun i hi => cell_at (x.cell i hi) fun o e => U.keep (not_one (pl_ne_cell x.pk.isList (x.cell i hi)).symm) e,
    ⟨p1, U.keep (not_one (pl_ne_tab x.pk.isList e1).symm) e1⟩, ⟨p2, U.keep (not_one (pl_ne_tab x.pk.isList e2).symm) e2⟩, x.pa.at fun o e => U.keep (not_one x.ne) e, hp, x.ne,
    U.ghost (one_none (x.out _ X1_K)) x.sub, x.out⟩
end

theorem SrAt.keeps {g h : Heap} {fR : Addr} (x : SrAt g fR) (k : ∀ b o, g.get? b = some o → h.get? b = some o) : SrAt h fR :=
  let ⟨q, doc, pm, an, cd, ct, oc, dd, sl, a, b⟩ := x; ⟨q, doc, pm, an, cd, ct, oc, dd, sl, k _ _ a, b.keeps k⟩
theorem isList_keeps {g h : Heap} {a : Addr} {xs : Array Value} (x : g.IsList a xs) (k : ∀ b o, g.get? b = some o → h.get? b = some o) : h.IsList a xs := let ⟨o, e, r⟩ := x; ⟨o, k _ _ e, r⟩

theorem hits_list {g : Heap} {spans : List (Int × Int)} {ys : Array Value} (x : HitsAre g spans ys spans.length) : ∃ hitA : List Addr, ys = (hitA.map Value.ref).toArray ∧ hitA.length = spans.length ∧ ∀ k, k < spans.length → ∃ a, hitA[k]? = some a ∧ HitAt g a (firstOf spans k) (endOf spans k) := by
  obtain ⟨hs, x⟩ := x
  let f : Value → Addr := fun v => match v with | .ref a => a | _ => 0
  have hf : ∀ v ∈ ys.toList, Value.ref (f v) = v := fun v hv => by
    obtain ⟨i, hi, e⟩ := List.getElem_of_mem hv
    obtain ⟨a, e', _⟩ := x i (by rw [← hs]; simpa using hi)
    have : ys.toList[i]? = some v := by rw [List.getElem?_eq_getElem hi, e]
    rw [Array.getElem?_toList, e'] at this
    cases this; rfl
  refine ⟨ys.toList.map f, ?_, by simp [hs], fun k hk => ?_⟩
  · apply Array.ext'
    simp only [List.map_map]
    symm
    calc ys.toList.map (Value.ref ∘ f) = ys.toList.map id := List.map_congr_left hf
      _ = ys.toList := List.map_id _
  · obtain ⟨a, e, r⟩ := x k hk
    refine ⟨a, ?_, r⟩
    rw [List.getElem?_map, Array.getElem?_toList, e]; rfl
end Mine

-- part: MjLaw6
namespace Mine

theorem none_of_ge {g h : Heap} {a : Addr} (k : ∀ b o, g.get? b = some o → h.get? b = some o) (ha : h.objs.size ≤ a) : g.get? a = none := by
  cases e : g.get? a with
  | none => rfl
  | some o => exact absurd (Heap.lt_size (k _ _ e)) (Nat.not_lt.mpr ha)

theorem codeRec_at {h h' : Heap} {c : Addr} {q : Str} (x : h.CodeRec (.ref c) q) (k : ∀ o, h.get? c = some o → h'.get? c = some o) : h'.CodeRec (.ref c) q := by
  obtain ⟨c', o, vs, t, e1, e2, r⟩ := x
  cases e1
  exact ⟨c, o, vs, t, rfl, k o e2, r⟩

section
variable {prog : Program} {w : World} {A : Around} {E : Value → Shared → Prop} {s : Shared} {L fa : Addr} {m : Str → Option Value} {c : Nat → Option Value} {g : Heap} {mg mb : Str → Option Value}

/-- the law's first nine statements -/
theorem law_build {Q : Flow → Shared → Prop} {a fH fR : Addr} {q : Str} {vs : List Value} {ns : List Int} {rest : List Stmt} (hh : A.handled = none) (hroom : A.depth < recursionLimit) (S : LS L s.heap m c #[] #[]) (G : Gr g mg mb) (H : HitFnAt g fH q) (R : SrAt g fR)
    (hmH : mg "_law_hit" = some (.ref fH)) (hmR : mg "search_reverse" = some (.ref fR)) (k : ∀ b o, g.get? b = some o → s.heap.get? b = some o) (out : ∀ b ∈ X0 L, g.get? b = none)
    (hl : g.IsList a vs.toArray) (hi : IntsAre vs ns) (hn : ns.length ≤ 63) (hm : m "script" = some (.ref a))
    (hQ : ∀ s' g' hitA fS aA aK pg aS rowV tups m' c', Upd (X0 L) s s' → Frz g' L (spansOf ns) hitA fS aA pg fR aS rowV tups mg mb → FS L aA aK g' s'.heap m' c' #[] #[] → (∀ b o, g.get? b = some o → g'.get? b = some o) →
      m' "prog" = some (.ref pg) → m' "kept" = some (.ref aK) → wpAny (model prog w) A (execs rest (lawEnv L fa)) Q E s') :
    wpAny (model prog w) A (execs ((stBody lawS).take 9 ++ rest) (lawEnv L fa)) Q E s := by
  have hfew : (spansOf ns).length ≤ 10 := by rw [spansOf_len]; exact (nums_len ns).2
  have subL : ∀ b ∈ [L], b ∈ X0 L := fun b hb => by
    rcases List.mem_cons.mp hb with rfl | hb
    · exact X0_L _
    · cases hb
  -- numbers
  refine wpAny_execs_cons ?_
  refine law_s0 S (isList_keeps hl k) hi hn hm fun s1 aN ws U1 S1 l1 i1 => ?_
  have k1 := U1.ghost (fun b hb => out b (subL b hb)) k
  -- spans
  refine wpAny_execs_cons ?_
  refine law_s1 hh S1 l1 i1 rfl fun s2 aS tups U2 S2 l2 sz2 t2 => ?_
  have k2 : ∀ b o, g.get? b = some o → (hideAll s2.heap (X0 L)).get? b = some o := ghost_hide (U2.ghost out k1) out
  -- hits
  refine wpAny_execs_cons ?_
  refine law_s2 (g := hideAll s2.heap (X0 L)) (spans := spansOf ns) (tups := tups) hh hroom S2 (G.keeps k2) (H.keeps k2) hmH (fun b o e => of_hideAll _ e) (fun b hb => hideAll_none _ hb) rfl l2 sz2 (by omega) t2 fun s3 aH ys ps3 U3 S3 l3 h3 => ?_
  have k23 : ∀ b o, (hideAll s2.heap (X0 L)).get? b = some o → (hideAll s3.heap (X0 L)).get? b = some o := U3.hide fun b hb => hb
  generalize hg3 : hideAll s3.heap (X0 L) = g3 at l3 h3 k23
  have out3 : ∀ b ∈ X0 L, g3.get? b = none := fun b hb => by rw [← hg3]; exact hideAll_none _ hb
  have k3 : ∀ b o, g3.get? b = some o → s3.heap.get? b = some o := fun b o e => by rw [← hg3] at e; exact of_hideAll _ e
  have kg3 : ∀ b o, g.get? b = some o → g3.get? b = some o := fun b o e => k23 b o (k2 b o e)
  -- row
  have oneC : ∀ {i : Nat}, 1 ≤ i → i ≤ 7 → ∀ b ∈ [L + i], b ∈ X0 L := fun h1 h2 b hb => by
    rcases List.mem_cons.mp hb with rfl | hb
    · exact X0_c _ h1 h2
    · cases hb
  refine wpAny_execs_cons ?_
  refine law_s3 S3 fun s4 tr U4 S4 => ?_
  have k4 := U4.ghost (fun b hb => out3 b (oneC (by decide) (by decide) b hb)) k3
  -- asked
  refine wpAny_execs_cons ?_
  refine law_s4 S4 fun s5 aA U5 nA S5 p5 => ?_
  have k5 := U5.ghost (fun b hb => out3 b (oneC (by decide) (by decide) b hb)) k4
  have gA : g3.get? aA = none := none_of_ge k4 nA
  have sub2 : ∀ b ∈ [L, 30], b ∈ X0 L := fun b hb => by
    rcases List.mem_cons.mp hb with rfl | hb
    · exact X0_L _
    · rcases List.mem_cons.mp hb with rfl | hb
      · exact X0_2 _
      · cases hb
  -- def search
  refine wpAny_execs_cons ?_
  refine law_s5 (g := g3) S5 (G.keeps kg3) k5 fun s6 fS dT cS q' doc pm ct U6 n6a n6b n6c S6 f6 r6 d6 => ?_
  have k6 := U6.ghost (fun b hb => out3 b (sub2 b hb)) k5
  have nA26 : ∀ {X : List Addr}, (∀ b ∈ X, b ∈ X0 L) → aA ∉ X := fun h z => S5.noList p5.isList (h _ z)
  have p6 : s6.heap.PlainList aA #[] := p5.at fun o e => U6.keep (nA26 sub2) e
  -- prog = lambda
  refine wpAny_execs_cons ?_
  refine law_s6 (g := g3) S6 (G.keeps kg3) k6 fun s7 pg fd qs7 U7 n7 S7 f7 => ?_
  have k7 := U7.ghost (fun b hb => out3 b (sub2 b hb)) k6
  have p7 : s7.heap.PlainList aA #[] := p6.at fun o e => U7.keep (nA26 sub2) e
  -- new objects are not in X0
  have newX : ∀ x : Nat, s5.heap.objs.size ≤ x → x ∉ X0 L := fun x hx z => absurd (S5.lt x z) (Nat.not_lt.mpr hx)
  have fS7 := U7.keep (fun z => newX _ n6a (sub2 _ z)) f6
  have dT7 := U7.keep (fun z => newX _ n6b (sub2 _ z)) d6
  have r7 : s7.heap.CodeRec (.ref cS) q' := codeRec_at r6 fun o e => U7.keep (fun z => newX _ n6c (sub2 _ z)) e
  -- prog.search = search
  refine wpAny_execs_cons ?_
  refine law_s7 (pg := pg) (fS := fS) S7 f7 rfl rfl fun s8 D8 U8 n8 S8 f8 d8 => ?_
  have gpg : g3.get? pg = none := none_of_ge k6 n7
  have k8 := U8.ghost (one_none gpg) k7
  have ltpg : ∀ {x : Addr} {o : Obj}, s6.heap.get? x = some o → x ≠ pg := fun e z => absurd (Heap.lt_size e) (by rw [z]; exact Nat.not_lt.mpr n7)
  have fS8 := U8.keep (not_one (ltpg f6)) fS7
  have dT8 := U8.keep (not_one (ltpg d6)) dT7
  have r8 : s8.heap.CodeRec (.ref cS) q' := codeRec_at r7 fun o e => U8.keep (not_one (by obtain ⟨_, o', _, _, e1, e2, _⟩ := r6; cases e1; exact ltpg e2)) e
  have p8 : s8.heap.PlainList aA #[] := p7.at fun o e => U8.keep (not_one (by obtain ⟨_, e'⟩ := p6; exact ltpg e')) e
  -- kept = []
  refine wpAny_execs_cons ?_
  refine law_s8 S8 fun s9 aK U9 nK S9 p9 => ?_
  have k9 := U9.ghost (fun b hb => out3 b (subL b hb)) k8
  have nL : ∀ {x : Addr}, x ∉ X0 L → x ∉ [L] := fun h z => h (subL _ z)
  have aAX : aA ∉ X0 L := S5.noList p5.isList
  have pgX : pg ∉ X0 L := fun z => absurd (S6.lt pg z) (Nat.not_lt.mpr n7)
  have D8X : D8 ∉ X0 L := fun z => absurd (S7.lt D8 z) (Nat.not_lt.mpr n8)
  have fS9 := U9.keep (nL (newX _ n6a)) fS8
  have dT9 := U9.keep (nL (newX _ n6b)) dT8
  have r9 : s9.heap.CodeRec (.ref cS) q' := codeRec_at r8 fun o e => U9.keep (nL (newX _ n6c)) e
  have p9A : s9.heap.PlainList aA #[] := p8.at fun o e => U9.keep (nL aAX) e
  have f9 := U9.keep (nL pgX) f8
  have d9 : s9.heap.Ns D8 _ := d8.at' fun o e => U9.keep (nL D8X) e
  have neAK : aA ≠ aK := fun z => by
    obtain ⟨_, e⟩ := p8
    exact absurd (Heap.lt_size e) (by rw [z]; exact Nat.not_lt.mpr nK)
  have gK : g3.get? aK = none := none_of_ge k8 nK
  -- the frozen heap
  have out9 : ∀ b ∈ X1 L aA aK, g3.get? b = none := fun b hb => by
    rcases mem_X1 hb with rfl | ⟨i, hi, rfl⟩ | rfl | rfl | rfl | rfl
    · exact out3 _ (X0_L _)
    · exact out3 _ (X0_c _ (by omega) (by omega))
    · exact out3 _ (X0_1 _)
    · exact out3 _ (X0_2 _)
    · exact gA
    · exact gK
  have kG : ∀ b o, g3.get? b = some o → (hideAll s9.heap (X1 L aA aK)).get? b = some o := ghost_hide k9 out9
  have inG : ∀ {x : Addr} {o : Obj}, s9.heap.get? x = some o → x ∉ X0 L → x ≠ aA → x ≠ aK → (hideAll s9.heap (X1 L aA aK)).get? x = some o := fun {x o} e h1 h2 h3 => hideAll_get _ e fun z => by
    rcases mem_X1 z with rfl | ⟨i, hi, rfl⟩ | rfl | rfl | rfl | rfl
    · exact h1 (X0_L _)
    · exact h1 (X0_c _ (by omega) (by omega))
    · exact h1 (X0_1 _)
    · exact h1 (X0_2 _)
    · exact h2 rfl
    · exact h3 rfl
  have cellG : ∀ {i : Nat} {v : Option Value}, (i = 3 ∨ i = 5 ∨ i = 6 ∨ i = 7) → s9.heap.IsCell (L + i) v → (hideAll s9.heap (X1 L aA aK)).IsCell (L + i) v := fun {i v} hi hc => cell_at hc fun o e => hideAll_get _ e fun z => by
    rcases mem_X1 z with z | ⟨j, hj, z⟩ | z | z | z | z
    · exact cell_ne_ns hc S9.ns z
    · have := Nat.add_left_cancel z; omega
    · exact cell_ne_tab hc S9.t1 z
    · exact cell_ne_tab hc S9.t2 z
    · exact (pl_ne_cell p9A.isList hc).symm z
    · exact (pl_ne_cell p9.isList hc).symm z
  have neOf : ∀ {x : Addr} {o : Obj}, s9.heap.get? x = some o → (∀ its n, o.data ≠ .seq its n ∨ o.cls ≠ .type "list") → x ≠ aA ∧ x ≠ aK := fun {x o} e h => by
    obtain ⟨n1, e1⟩ := p9A
    obtain ⟨n2, e2⟩ := p9
    refine ⟨fun z => ?_, fun z => ?_⟩
    · rw [z, e1] at e; cases e; rcases h _ _ with q | q
      · exact q rfl
      · exact q rfl
    · rw [z, e2] at e; cases e; rcases h _ _ with q | q
      · exact q rfl
      · exact q rfl
  obtain ⟨hitA, hy, hlen, hhit⟩ := hits_list h3
  subst hy
  have fG := inG fS9 (newX _ n6a) (neOf fS9 (fun _ _ => .inl (by intro z; cases z))).1 (neOf fS9 (fun _ _ => .inl (by intro z; cases z))).2
  have dG := inG dT9 (newX _ n6b) (neOf dT9 (fun _ _ => .inr (show Value.type "tuple" ≠ Value.type "list" by decide))).1 (neOf dT9 (fun _ _ => .inr (show Value.type "tuple" ≠ Value.type "list" by decide))).2
  have pG := inG f9 pgX (neOf f9 (fun _ _ => .inl (by intro z; cases z))).1 (neOf f9 (fun _ _ => .inl (by intro z; cases z))).2
  have rG : (hideAll s9.heap (X1 L aA aK)).CodeRec (.ref cS) q' := by
    obtain ⟨c', o, vs', t, e1, e2, e3, e4⟩ := r9
    cases e1
    have hne := neOf e2 (fun _ _ => .inl (by rw [e3]; intro z; cases z))
    exact ⟨cS, o, vs', t, rfl, inG e2 (newX _ n6c) hne.1 hne.2, e3, e4⟩
  have nsG : (hideAll s9.heap (X1 L aA aK)).Ns D8 (fun y => if y = "search" then some (.ref fS) else none) := by
    obtain ⟨o, es, ep, e1, e2, r⟩ := d9
    have hne := neOf e1 (fun _ _ => .inl (by rw [e2]; intro z; cases z))
    exact ⟨o, es, ep, inG e1 D8X hne.1 hne.2, e2, r⟩
  have Gk := G.keeps fun b o e => kG b o (kg3 b o e)
  have c3 := cellG (.inl rfl) (S9.cell 3 (by decide) (by decide))
  have c5 := cellG (.inr (.inl rfl)) (S9.cell 5 (by decide) (by decide))
  have c6 := cellG (.inr (.inr (.inl rfl))) (S9.cell 6 (by decide) (by decide))
  have c7 := cellG (.inr (.inr (.inr rfl))) (S9.cell 7 (by decide) (by decide))
  have tG : TupsAre (hideAll s9.heap (X1 L aA aK)) (spansOf ns) tups (spansOf ns).length := (t2.keeps k23).keeps kG
  have lG : (hideAll s9.heap (X1 L aA aK)).IsList aS tups := isList_keeps (isList_keeps l2 k23) kG
  have BedG : Bed (hideAll s9.heap (X1 L aA aK)) (spansOf ns) hitA fS aA := by
    refine ⟨Gk.lim, ⟨mg, mb, Gk.ns, Gk.g1, Gk.g2, Gk.nb, Gk.b1, Gk.b2⟩, ⟨aS, aH, tups, ⟨q', L + 5, L + 6, L + 7, dT, doc, pm, cS, ct, none, #[], fG, rG, ⟨_, 0, dG, rfl⟩, c5, c6, c7⟩, lG, isList_keeps l3 kG, sz2, tG⟩, fun i hi => ?_, hlen, by omega, hideAll_none _ X1_A⟩
    obtain ⟨a', e, r⟩ := hhit i hi
    exact ⟨a', e, r.keeps kG⟩
  have cc : ∀ i : Nat, (i = 1 ∨ i = 2 ∨ i = 4) → 1 ≤ i ∧ i ≤ 7 := by omega
  have V6 : Upd (X0 L) s s6 := (((((U1.mono subL).trans U2).trans U3).trans (U4.mono (oneC (by decide) (by decide)))).trans (U5.mono (oneC (by decide) (by decide)))).trans (U6.mono sub2)
  have UU : Upd (X0 L) s s9 := by
    have V : Upd (pg :: X0 L) s s9 := (((V6.mono fun b hb => .tail _ hb).trans (U7.mono fun b hb => .tail _ (sub2 b hb))).trans (U8.mono sub1)).trans (U9.mono fun b hb => .tail _ (subL b hb))
    refine V.drop fun b hb => ?_
    rcases List.mem_cons.mp hb with rfl | hb
    · refine .inr ?_
      cases e : s.heap.get? b with
      | none => rfl
      | some o => exact absurd (Heap.lt_size (V6.keep pgX e)) (Nat.not_lt.mpr n7)
    · exact .inl hb
  refine hQ s9 (hideAll s9.heap (X1 L aA aK)) hitA fS aA aK pg aS (.str rowS tr) tups _ _ UU ⟨BedG, ⟨D8, _, ⟨fd, #[], pG, nsG⟩, rfl⟩, R.keeps fun b o e => kG b o (kg3 b o e), Gk, hmR, ⟨tr, rfl⟩, c3, c5, c7, lG, sz2, tG⟩
    ⟨S9.ns, fun i hi => S9.cell i (cc i hi).1 (cc i hi).2, ⟨_, S9.t1⟩, ⟨_, S9.t2⟩, p9A, p9, neAK, fun b o e => of_hideAll _ e, fun b hb => hideAll_none _ hb⟩ (fun b o e => kG b o (kg3 b o e)) rfl rfl
end
end Mine

-- part: MjLaw7
namespace Mine

theorem Chain.split {spans : List (Int × Int)} (hf : Fine spans) : ∀ {pre : List Nat} {start : Option Int} {b : Nat} {rest : List Nat}, Chain spans start (pre ++ b :: rest) →
    Chain spans (some (endOf spans b)) rest ∧ b < spans.length ∧ (∀ x ∈ pre, endOf spans x ≤ firstOf spans b) ∧ (∀ x ∈ pre, endOf spans x ≤ endOf spans b)
  | [], _, b, rest, h => by
    cases h with
    | cons hb hc => exact ⟨hc, (best_some hb).1, fun x hx => (by cases hx), fun x hx => (by cases hx)⟩
  | p :: pre, _, b, rest, h => by
    cases h with
    | cons hb hc =>
    obtain ⟨h1, h2, h3, h4⟩ := Chain.split hf hc
    have hs := hc.starts hf b (List.mem_append_right _ (.head _))
    refine ⟨h1, h2, fun x hx => ?_, fun x hx => ?_⟩
    · rcases List.mem_cons.mp hx with rfl | hx
      · exact hs.1
      · exact h3 x hx
    · rcases List.mem_cons.mp hx with rfl | hx
      · exact Int.le_of_lt hs.2
      · exact h4 x hx

theorem getD_split {ch : List Nat} {p : Nat} (hp : p < ch.length) : ch = ch.take p ++ ch.getD p 0 :: ch.drop (p + 1) := by
  have : ch.getD p 0 = ch[p] := by simp [List.getD, List.getElem?_eq_getElem hp]
  rw [this, List.getElem_cons_drop]
  exact (List.take_append_drop p ch).symm

theorem over_first {spans : List (Int × Int)} {ch : List Nat} {p : Nat} (hf : Fine spans) (hc : Chain spans none ch) (hp : p < ch.length) : (over spans ch (firstOf spans (ch.getD p 0))).length = p := by
  have hs := getD_split hp
  have hc' := hc
  rw [hs] at hc'
  obtain ⟨h1, h2, h3, _⟩ := Chain.split hf hc'
  have hb := hf _ h2
  have : over spans ch (firstOf spans (ch.getD p 0)) = (ch.take p).map (endOf spans) := by
    have := over_cut hf h3 (by omega) h1
    rw [← hs] at this
    exact this
  rw [this]
  simp; omega

theorem over_24 {spans : List (Int × Int)} {ch : List Nat} (hf : Fine spans) (hc : Chain spans none ch) : over spans ch 24 = ch.map (endOf spans) := over_all fun x hx => (hf x (hc.mem x hx)).2.2

section
variable {prog : Program} {w : World} {A : Around} {E : Value → Shared → Prop} {s : Shared} {L fa : Addr} {m : Str → Option Value} {c : Nat → Option Value} {g : Heap} {mg mb : Str → Option Value}
  {spans : List (Int × Int)} {hitA : List Addr} {fS aA aK pg fR aS : Addr} {rowV : Value} {tups : Array Value} {xs ys : Array Value} {ch : List Nat}

/-- search_reverse(prog, row, col), asked by the law -/
theorem law_sr {col : Int} {tc : Tok} {Q : Value → Shared → Prop} (F : FS L aA aK g s.heap m c xs ys) (Z : Frz g L spans hitA fS aA pg fR aS rowV tups mg mb) (hf : Fine spans) (hc : Chain spans none ch) (hch : ch.length ≤ 24) (hsz : xs.size ≤ 900)
    (hh : A.handled = none) (hroom : A.depth + 1 < recursionLimit)
    (hQ : ∀ s' ts, Upd [aA] s s' → FS L aA aK g s'.heap m c (xs ++ (ts.map Value.ref).toArray) ys → AskedAre s'.heap rowV ts (none :: (over spans ch col).map some) → Q (told hitA ch (over spans ch col).length) s') :
    wpAny (model prog w) A (call (.ref fR) [.ref pg, rowV, .int col tc]) Q E s :=
  rev_call Z.bed Z.prog Z.sr hf hc F.sub hch hsz hh hroom F.pa fun s' ts U P a => hQ s' ts U (F.updA U P) a

theorem sr_fn (Z : Frz g L spans hitA fS aA pg fR aS rowV tups mg mb) {h : Heap} (k : ∀ b o, g.get? b = some o → h.get? b = some o) : FnAt fR h := by
  obtain ⟨q, doc, pm, an, cd, ct, oc, dd, sl, f1, f2⟩ := Z.sr
  exact ⟨_, _, _, _, k _ _ f1⟩

theorem over_len_le {spans : List (Int × Int)} {ch : List Nat} {col : Int} : (over spans ch col).length ≤ ch.length := by
  unfold over
  exact Nat.le_trans (List.length_filter_le _ _) (by simp)

/-- told = search_reverse(prog, row, 24) -/
theorem law_s9 {Q : Flow → Shared → Prop} (F : FS L aA aK g s.heap m c #[] ys) (Z : Frz g L spans hitA fS aA pg fR aS rowV tups mg mb) (hf : Fine spans) (hc : Chain spans none ch) (hch : ch.length ≤ 24)
    (hh : A.handled = none) (hroom : A.depth + 1 < recursionLimit) (hm : m "prog" = some (.ref pg))
    (hQ : ∀ s' xs, Upd [L, aA] s s' → FS L aA aK g s'.heap (fun x => if x = "told" then some (told hitA ch ch.length) else m x) c xs ys → xs.size ≤ 25 → Q .next s') :
    wpAny (model prog w) A (exec ((stBody lawS).getD 9 default) (lawEnv L fa)) Q E s := by
  refine wpAny_Assign_Name ?_
  refine wpAny_Call_NameR (Calls.Name_function_global rfl rfl (Calls.loadGlobal_global (Z.gr.ns.keeps F.sub) Z.msr ?_))
  refine callWith_F (first := []) (sr_fn Z F.sub) ?_
  refine wpAny_items_cons ?_
  refine wpAny_Name (wpAny_loadName_local rfl rfl F.ns hm ?_)
  refine wpAny_items_cons ?_
  refine wpAny_Name (wpAny_loadName_cell rfl rfl (c := L + 3) rfl (Z.row.keeps F.sub) ?_)
  refine wpAny_items_cons ?_
  refine wpAny_Constant_int ?_
  refine wpAny_items_nil ?_
  refine ⟨sr_fn Z F.sub, ?_⟩
  refine law_sr (s := { s with toks := s.toks + 1 }) F Z hf hc hch (by decide) hh hroom fun s' ts U F' a => ?_
  rw [over_24 hf hc, List.length_map]
  refine wpAny_storeName_local rfl F'.ns fun h₂ hn hs => ?_
  refine hQ _ (#[] ++ (ts.map Value.ref).toArray) ?_ (F'.setL hs hn) ?_
  · exact (((Upd.toks [L, aA] s _).trans (U.mono fun b hb => .tail _ hb))).trans ((Upd.same hs).mono sub1)
  · have := a.length
    rw [over_24 hf hc] at this
    simp at this ⊢
    omega
end
end Mine

-- part: MjLaw8
namespace Mine

def keptV (hitA : List Addr) (l : List Nat) : Array Value := (l.map fun b => Value.ref (hitA.getD b 0)).toArray
theorem keptV_size {hitA : List Addr} {l : List Nat} : (keptV hitA l).size = l.length := by simp [keptV]
theorem keptV_cons {hitA : List Addr} {b : Nat} {l : List Nat} : keptV hitA (b :: l) = #[Value.ref (hitA.getD b 0)] ++ keptV hitA l := by
  apply Array.ext'
  simp [keptV]
theorem keptV_get {hitA : List Addr} {l : List Nat} {k : Nat} (h : k < l.length) : (keptV hitA l)[k]? = some (.ref (hitA.getD (l.getD k 0) 0)) := by
  simp [keptV, List.getD, List.getElem?_eq_getElem h, h]

section
variable {prog : Program} {w : World} {A : Around} {E : Value → Shared → Prop} {s : Shared} {L fa : Addr} {m : Str → Option Value} {c : Nat → Option Value} {g : Heap} {mg mb : Str → Option Value}
  {spans : List (Int × Int)} {hitA : List Addr} {fS aA aK pg fR aS : Addr} {rowV : Value} {tups : Array Value} {xs ys : Array Value} {ch : List Nat}

theorem evalArgs_items {f : Value} {e : Expr} {rest : List Expr} {env : Env} {pos : Pos} {Q : Args → Shared → Prop} (h : wpAny (model prog w) A (spliced (backTo pos (starEach (e :: rest) env))) (fun vs s' => Q ⟨vs, []⟩ s') E s)
    (he : starEach (e :: rest) env = (false, eval e env) :: starEach rest env := by rfl) : wpAny (model prog w) A (evalArgs f true (backTo pos (starEach (e :: rest) env)) []) Q E s := by
  rw [he] at h ⊢
  exact Calls.evalArgs_plain h

theorem insert0_pl {l : Addr} {items : Array Value} {x : Value} {u : Tok} {Q : Value → Shared → Prop} (hl : s.heap.PlainList l items) (hsz : items.size ≤ 100000)
    (hQ : ∀ h', h'.PlainList l (#[x] ++ items) → Heap.SameBut l s.heap h' → Q .none { s with heap := h' }) :
    wpAny (model prog w) A (call (.builtin "list.insert") [.ref l, .int 0 u, x]) Q E s := by
  obtain ⟨n, ho⟩ := id hl
  refine call_meets PySem.F.slot_list_insert hl.isList.typeIs PySem.F.entry_list_insert (PySem.F.args_list_insert_3 _ _ _) (AutoListH.list_insert_list_int_val_1 l items n 0 u x (by decide) (by rw [sizeLine_eq]; omega)) ⟨ho, ?_⟩
  refine hQ _ ?_ (Heap.SameBut.update ..)
  have e : (items.extract 0 (min (0 : Int).toNat items.size)).push x ++ items.extract (min (0 : Int).toNat items.size) = #[x] ++ items := by
    apply Array.ext'
    simp
  have := Heap.get?_update_self (Obj.mapSeq fun xs => have k := if (0 : Int) < 0 then (0 + ((xs.size : Nat) : Int)).toNat else min (0 : Int).toNat xs.size; (xs.extract 0 k).push x ++ xs.extract k) ho rfl
  have e2 : (Obj.mapSeq (fun xs => have k := if (0 : Int) < 0 then (0 + ((xs.size : Nat) : Int)).toNat else min (0 : Int).toNat xs.size; (xs.extract 0 k).push x ++ xs.extract k) { cls := .type "list", data := .seq items n } : Obj) =
      { cls := .type "list", data := .seq ((items.extract 0 (min (0 : Int).toNat items.size)).push x ++ items.extract (min (0 : Int).toNat items.size)) (if ((items.extract 0 (min (0 : Int).toNat items.size)).push x ++ items.extract (min (0 : Int).toNat items.size)).size == items.size then n else n + 1) } := rfl
  rw [e2] at this
  generalize (if ((items.extract 0 (min (0 : Int).toNat items.size)).push x ++ items.extract (min (0 : Int).toNat items.size)).size == items.size then n else n + 1) = n' at this
  rw [e] at this
  exact ⟨n', this⟩

theorem told_pos {p : Nat} (hp : 0 < p) : told hitA ch p = .ref (hitA.getD (ch.getD (p - 1) 0) 0) := by
  cases p with
  | zero => exact absurd hp (Nat.lt_irrefl _)
  | succ p => rfl

theorem drop_pred {ch : List Nat} {p : Nat} (hp : 0 < p) (hl : p ≤ ch.length) : ch.drop (p - 1) = ch.getD (p - 1) 0 :: ch.drop p := by
  have h : p - 1 < ch.length := by omega
  have := getD_split h
  have e : p - 1 + 1 = p := by omega
  rw [e] at this
  conv => lhs; rw [this]
  rw [List.drop_append_of_le_length (by simp; omega)]
  simp

/-- while told is not None and len(kept) < 24 -/
theorem law_s10 {Q : Flow → Shared → Prop} (F : FS L aA aK g s.heap m c xs #[]) (Z : Frz g L spans hitA fS aA pg fR aS rowV tups mg mb) (hf : Fine spans) (hc : Chain spans none ch) (hch : ch.length ≤ 24) (hsz : xs.size ≤ 25)
    (hh : A.handled = none) (hroom : A.depth + 1 < recursionLimit) (hm : m "prog" = some (.ref pg)) (hmk : m "kept" = some (.ref aK)) (hmt : m "told" = some (told hitA ch ch.length))
    (hQ : ∀ s' m' xs', Upd [L, aA, aK] s s' → FS L aA aK g s'.heap m' c xs' (keptV hitA ch) → m' "prog" = some (.ref pg) → m' "kept" = some (.ref aK) → xs'.size ≤ 1000 → Q .next s') :
    wpAny (model prog w) A (exec ((stBody lawS).getD 10 default) (lawEnv L fa)) Q E s := by
  refine wpAny_While ?_
  refine while_inv (fun n s' => n ≤ ch.length ∧ ∃ m' xs', Upd [L, aA, aK] s s' ∧ FS L aA aK g s'.heap m' c xs' (keptV hitA (ch.drop n)) ∧ xs'.size ≤ 25 * (ch.length - n + 1) ∧ m' "prog" = some (.ref pg) ∧ m' "kept" = some (.ref aK) ∧ m' "told" = some (told hitA ch n)) ?_ ch.length
    ⟨Nat.le_refl _, m, xs, Upd.refl _ _, by rw [List.drop_length]; exact F, by omega, hm, hmk, hmt⟩
  rintro p s₁ ⟨hp, m', xs', U, F', hx, a1, a2, a3⟩ E'
  refine wpAny_isTrue_BoolOp ?_
  refine wpAny_allTrue_And_cons ?_
  refine wpAny_isTrue_Compare1 ?_
  refine wpAny_Name (wpAny_loadName_local rfl rfl F'.ns a3 ?_)
  refine wpAny_Constant_none ?_
  refine isNot_none ?_
  refine wpAny_truthy_bool ?_
  cases p with
  | zero =>
    show (if false = true then _ else _)
    rw [if_neg Bool.false_ne_true]
    exact hQ s₁ m' xs' U F' a1 a2 (by omega)
  | succ p =>
    show wpAny _ _ (allTrue .And _ _) _ _ _
    refine wpAny_allTrue_And_cons ?_
    refine wpAny_isTrue_Compare1 ?_
    refine wpAny_Call_NameR (name_global rfl rfl (Z.gr.ns.keeps F'.sub) Z.gr.g2 (Z.gr.nb.keeps F'.sub) Z.gr.b2 ?_)
    refine Calls.callWith_builtin rfl (Calls.evalArgs_plain (Calls.spliced_cons ?_))
    refine wpAny_Name (wpAny_loadName_local rfl rfl F'.ns a2 ?_)
    refine Calls.spliced_nil ?_
    refine Calls.call_len_list F'.pk.isList (by rw [keptV_size]; simp; omega) ?_
    refine wpAny_Constant_int ?_
    refine PyProof.Rows.lt_int ?_
    refine wpAny_truthy_bool ?_
    have hlt : ((keptV hitA (ch.drop (p + 1))).size : Int) < 24 := by rw [keptV_size]; simp; omega
    rw [decide_eq_true hlt, if_pos rfl]
    refine wpAny_allTrue_And_nil ?_
    rw [if_pos rfl]
    dsimp only
    -- kept.insert(0, told)
    have hp1 : p < ch.length := hp
    have tv : told hitA ch (p + 1) = .ref (hitA.getD (ch.getD p 0) 0) := rfl
    rw [tv] at a3
    generalize s₁.toks + 1 + 1 + 1 = tk0
    refine wpAny_execs_cons ?_
    refine wpAny_Expr ?_
    refine methodCall_KW (pl := ?_) ?_
    rotate_left
    · refine wpAny_Name (wpAny_loadName_local (s := { s₁ with toks := tk0 }) rfl rfl F'.ns a2 ?_)
      obtain ⟨nk, ek⟩ := id F'.pk
      refine getMethod_list_of PySem.F.slot_list_insert PySem.F.type_list_insert F'.pk.isList ⟨_, ek, rfl⟩ ?_
      refine Calls.callWith_builtin rfl (evalArgs_items ?_)
      refine wpAny_items_cons (wpAny_Constant_int ?_)
      refine wpAny_items_cons ?_
      refine wpAny_Name (wpAny_loadName_local (s := { s₁ with toks := tk0 + 1 }) rfl rfl F'.ns a3 ?_)
      refine wpAny_items_nil ?_
      refine insert0_pl (s := { s₁ with toks := tk0 + 1 }) F'.pk (by rw [keptV_size]; simp; omega) fun h₂ hp2 hs2 => ?_
      have U2 : Upd [aK] { s₁ with toks := tk0 + 1 } { s₁ with heap := h₂, toks := tk0 + 1 } := Upd.same (s := { s₁ with toks := tk0 + 1 }) hs2
      have F2 : FS L aA aK g h₂ m' c xs' (keptV hitA (ch.drop p)) := by
        refine FS.updK (s := { s₁ with toks := tk0 + 1 }) F' U2 ?_
        have e := drop_pred (ch := ch) (p := p + 1) (by omega) hp
        rw [show p + 1 - 1 = p by omega] at e
        rw [e, keptV_cons]
        exact hp2
      -- told = search_reverse(prog, row, told.span()[0])
      refine wpAny_execs_cons (wpAny_Assign_Name ?_)
      refine wpAny_Call_NameR (Calls.Name_function_global rfl rfl (Calls.loadGlobal_global (Z.gr.ns.keeps F2.sub) Z.msr ?_))
      refine callWith_F (first := []) (sr_fn Z F2.sub) ?_
      refine wpAny_items_cons ?_
      refine wpAny_Name (wpAny_loadName_local (s := { s₁ with heap := h₂, toks := tk0 + 1 }) rfl rfl F2.ns a1 ?_)
      refine wpAny_items_cons ?_
      refine wpAny_Name (wpAny_loadName_cell (s := { s₁ with heap := h₂, toks := tk0 + 1 }) rfl rfl (c := L + 3) rfl (Z.row.keeps F2.sub) ?_)
      refine wpAny_items_cons ?_
      have hbl : ch.getD p 0 < spans.length := hc.mem _ (by
        have : ch.getD p 0 = ch[p] := by simp [List.getD, List.getElem?_eq_getElem hp1]
        rw [this]; exact List.getElem_mem hp1)
      have H2 := (Z.bed.hitAt hbl).keeps F2.sub
      refine Subscript_ ?_
      refine methodCall_KW (pl := ?_) ?_
      rotate_left
      · refine wpAny_Name (wpAny_loadName_local (s := { s₁ with heap := h₂, toks := tk0 + 1 }) rfl rfl F2.ns a3 ?_)
        refine span_meth (s := { s₁ with heap := h₂, toks := tk0 + 1 }) H2 (Z.bed.lim.keeps F2.sub) (by omega) fun T h₃ tk3 tf tb hk3 hn3 ht3 => ?_
        refine wpAny_Constant_int ?_
        refine item_tupleT (l := [.int _ tf, .int _ tb]) (j := 0) ht3 (by decide) (by decide) rfl rfl ?_
        have F3 : FS L aA aK g h₃ m' c xs' (keptV hitA (ch.drop p)) := F2.keep hk3
        refine wpAny_items_nil ?_
        refine ⟨sr_fn Z F3.sub, ?_⟩
        have hx25 : xs'.size ≤ 900 := by
          have : ch.length - (p + 1) + 1 ≤ 24 := by omega
          omega
        refine law_sr (s := { s₁ with heap := h₃, toks := tk3 + 1 }) (ch := ch) F3 Z hf hc hch hx25 hh hroom fun s₄ ts U4 F4 a4 => ?_
        rw [over_first hf hc hp1]
        refine wpAny_storeName_local rfl F4.ns fun h₅ hn5 hs5 => ?_
        refine wpAny_execs_nil ?_
        have hts : ts.length = p + 1 := by rw [a4.length, List.length_cons, List.length_map, over_first hf hc hp1]
        refine ⟨p, Nat.lt_succ_self _, by omega, _, _, ?_, F4.setL hs5 hn5, ?_, a1, a2, rfl⟩
        · have V1 : Upd [L, aA, aK] s₁ { s₁ with toks := tk0 + 1 } := Upd.toks _ _ _
          have V2 : Upd [L, aA, aK] { s₁ with toks := tk0 + 1 } { s₁ with heap := h₂, toks := tk0 + 1 } := U2.mono fun b hb => .tail _ (.tail _ hb)
          have V3 : Upd [L, aA, aK] { s₁ with heap := h₂, toks := tk0 + 1 } { s₁ with heap := h₃, toks := tk3 + 1 } := Upd.of0 (s := { s₁ with heap := h₂, toks := tk0 + 1 }) hk3
          have V4 : Upd [L, aA, aK] { s₁ with heap := h₃, toks := tk3 + 1 } s₄ := U4.mono fun b hb => .tail _ (sub1 b hb)
          have V5 : Upd [L, aA, aK] s₄ { s₄ with heap := h₅, toks := s₄.toks + 1 } := (Upd.same hs5).mono sub1
          exact ((((U.trans V1).trans V2).trans V3).trans V4).trans V5
        · rw [Array.size_append]
          simp only [List.size_toArray, List.length_map]
          have : ch.length - p + 1 = (ch.length - (p + 1) + 1) + 1 := by omega
          omega
end
end Mine

-- part: MjLaw9
namespace Mine

theorem SeAt.keeps {g h : Heap} {fS aA aS aH : Addr} (x : SeAt g fS aA aS aH) (k : ∀ b o, g.get? b = some o → h.get? b = some o) : SeAt h fS aA aS aH := by
  obtain ⟨q, cA, cH, cS, dT, doc, pm, c', ct, dd, sl, f1, f2, ⟨o, n, f3, f4⟩, f5, f6, f7⟩ := x.ex
  exact ⟨q, cA, cH, cS, dT, doc, pm, c', ct, dd, sl, k _ _ f1, f2.keeps k, ⟨o, n, k _ _ f3, f4⟩, f5.keeps k, f6.keeps k, f7.keeps k⟩
theorem Bed.grow {g h : Heap} {spans : List (Int × Int)} {hitA : List Addr} {fS aA : Addr} (B : Bed g spans hitA fS aA) (k : ∀ b o, g.get? b = some o → h.get? b = some o) (hA : h.get? aA = Option.none) : Bed h spans hitA fS aA := by
  obtain ⟨mg, mb, a1, a2, a3, a4, a5, a6⟩ := B.glob
  obtain ⟨aS, aH, tups, b1, b2, b3, b4, b5⟩ := B.se
  refine ⟨B.lim.keeps k, ⟨mg, mb, a1.keeps k, a2, a3, a4.keeps k, a5, a6⟩, ⟨aS, aH, tups, b1.keeps k, isList_keeps b2 k, isList_keeps b3 k, b4, fun i hi => ?_⟩, fun i hi => ?_, B.fewA, B.few, hA⟩
  · obtain ⟨T, tf, tb, e, r⟩ := b5 i hi
    exact ⟨T, tf, tb, e, r.keeps k⟩
  · obtain ⟨a, e, r⟩ := B.hit i hi
    exact ⟨a, e, r.keeps k⟩
theorem ProgAt.keeps {g h : Heap} {pg fS : Addr} (x : ProgAt g pg fS) (k : ∀ b o, g.get? b = some o → h.get? b = some o) : ProgAt h pg fS := let ⟨D, md, a, b⟩ := x; ⟨D, md, a.keeps k, b⟩

section
variable {L : Addr} {g g' : Heap} {mg mb : Str → Option Value} {spans : List (Int × Int)} {hitA : List Addr} {fS aA aK pg fR aS : Addr} {rowV : Value} {tups : Array Value}
theorem Frz.grow (Z : Frz g L spans hitA fS aA pg fR aS rowV tups mg mb) (k : ∀ b o, g.get? b = some o → g'.get? b = some o) (hA : g'.get? aA = none) : Frz g' L spans hitA fS aA pg fR aS rowV tups mg mb :=
  ⟨Z.bed.grow k hA, Z.prog.keeps k, Z.sr.keeps k, Z.gr.keeps k, Z.msr, Z.isRow, Z.row.keeps k, Z.ask.keeps k, Z.sp.keeps k, isList_keeps Z.lst k, Z.tsz, Z.tup.keeps k⟩
variable {h : Heap} {m m' : Str → Option Value} {c : Nat → Option Value} {xs ys : Array Value}
theorem FS.updL {s s' : Shared} (x : FS L aA aK g s.heap m c xs ys) (U : Upd [L] s s') (hn : s'.heap.Ns L m') : FS L aA aK g s'.heap m' c xs ys := by
  obtain ⟨p1, e1⟩ := x.t1
  obtain ⟨p2, e2⟩ := x.t2
  exact ⟨hn, fun i hi => cell_at (x.cell i hi) fun o e => U.keep (not_one (cell_ne_ns (x.cell i hi) x.ns)) e, ⟨p1, U.keep (not_one (ns_ne_tab x.ns e1).symm) e1⟩, ⟨p2, U.keep (not_one (ns_ne_tab x.ns e2).symm) e2⟩,
    x.pa.at fun o e => U.keep (not_one (pl_ne_ns x.pa.isList x.ns)) e, x.pk.at fun o e => U.keep (not_one (pl_ne_ns x.pk.isList x.ns)) e, x.ne, U.ghost (one_none (x.out _ X1_L)) x.sub, x.out⟩
/-- the ghost is laid anew: all that is not told to change -/
theorem FS.fresh (x : FS L aA aK g h m c xs ys) : FS L aA aK (hideAll h (X1 L aA aK)) h m c xs ys := ⟨x.ns, x.cell, x.t1, x.t2, x.pa, x.pk, x.ne, fun _ _ e => of_hideAll _ e, fun _ hb => hideAll_none _ hb⟩
theorem FS.freshSub (x : FS L aA aK g h m c xs ys) : ∀ b o, g.get? b = some o → (hideAll h (X1 L aA aK)).get? b = some o := ghost_hide x.sub x.out
end

/-- the ends told -/
def EndsAre (spans : List (Int × Int)) (ch : List Nat) (es : Array Value) (i : Nat) : Prop := es.size = i ∧ ∀ k, k < i → ∃ t, es[k]? = some (.int (endOf spans (ch.getD k 0)) t)
theorem EndsAre.push {spans : List (Int × Int)} {ch : List Nat} {es : Array Value} {i : Nat} {t : Tok} (x : EndsAre spans ch es i) : EndsAre spans ch (es.push (.int (endOf spans (ch.getD i 0)) t)) (i + 1) := by
  obtain ⟨hs, x⟩ := x
  refine ⟨by rw [Array.size_push, hs], fun k hk => ?_⟩
  by_cases h : k = i
  · subst h
    exact ⟨t, by rw [Array.getElem?_push, if_pos hs.symm]⟩
  · obtain ⟨t', e⟩ := x k (by omega)
    exact ⟨t', by rw [Array.getElem?_push, if_neg (by omega)]; exact e⟩

section
variable {prog : Program} {w : World} {A : Around} {E : Value → Shared → Prop} {s : Shared} {L fa : Addr} {m : Str → Option Value} {c : Nat → Option Value} {g : Heap} {mg mb : Str → Option Value}
  {spans : List (Int × Int)} {hitA : List Addr} {fS aA aK pg fR aS : Addr} {rowV : Value} {tups : Array Value} {xs ys : Array Value} {ch : List Nat}

theorem ch_mem (hc : Chain spans none ch) {i : Nat} (hi : i < ch.length) : ch.getD i 0 < spans.length := hc.mem _ (by
  have : ch.getD i 0 = ch[i] := by simp [List.getD, List.getElem?_eq_getElem hi]
  rw [this]; exact List.getElem_mem hi)

/-- ends = [hit.span()[1] for hit in kept] -/
theorem law_s11 {Q : Flow → Shared → Prop} (F : FS L aA aK g s.heap m c xs (keptV hitA ch)) (Z : Frz g L spans hitA fS aA pg fR aS rowV tups mg mb) (hc : Chain spans none ch) (hch : ch.length ≤ 24)
    (hh : A.handled = none) (hroom : A.depth < recursionLimit) (hmk : m "kept" = some (.ref aK))
    (hQ : ∀ s' aE es, Upd [L] s s' → FS L aA aK g s'.heap (fun x => if x = "ends" then some (.ref aE) else m x) c xs (keptV hitA ch) → (hideAll s'.heap (X1 L aA aK)).IsList aE es → EndsAre spans ch es ch.length → Q .next s') :
    wpAny (model prog w) A (exec ((stBody lawS).getD 11 default) (lawEnv L fa)) Q E s := by
  refine lcomp_assign (cl := []) hh rfl rfl rfl rfl (by decide) rfl (by decide) ?_
  refine wpAny_Name (wpAny_loadName_local rfl rfl F.ns hmk ?_)
  refine ⟨[], aK, keptV hitA ch, m, (fun _ _ => True), (fun i ys' _ => EndsAre spans ch ys' i), rfl, F.pk.isList, List.not_mem_nil, fun b hb => (by cases hb), by rw [keptV_size]; omega, F.ns, List.not_mem_nil, fun _ _ _ _ _ => trivial, fun _ _ _ _ x _ => x, trivial, ?_, ?_, ?_⟩
  · intro g'
    exact ⟨rfl, fun k hk => absurd hk (Nat.not_lt_zero _)⟩
  · rintro C Z' i v s₂ m₂ ys' hC hZ1 hZ2 hv hys U _ e hn E'
    have hi : i < ch.length := by
      have := (Array.getElem?_eq_some_iff.mp hv).1
      rw [keptV_size] at this
      exact this
    rw [keptV_get hi] at hv
    cases hv
    have k2 : ∀ b o, g.get? b = some o → s₂.heap.get? b = some o := fun b o e => U.nil_keep b o (F.sub b o e)
    have gC : g.get? C = none := none_of_ge F.sub hC
    refine wpAny_assign_Name (wpAny_storeName_local rfl hn fun h₃ hn₃ hs₃ => ?_)
    have U3 : Upd [C] s₂ { s₂ with heap := h₃, toks := s₂.toks + 1 } := Upd.same hs₃
    have k3 : ∀ b o, g.get? b = some o → h₃.get? b = some o := U3.ghost (one_none gC) k2
    refine wpAny_tests_nil ?_
    rw [if_pos rfl]
    refine Subscript_ ?_
    refine methodCall_KW (pl := ?_) ?_
    rotate_left
    · refine wpAny_Name (wpAny_loadName_local (s := { s₂ with heap := h₃, toks := s₂.toks + 1 }) rfl rfl hn₃ rfl ?_)
      refine span_meth (s := { s₂ with heap := h₃, toks := s₂.toks + 1 }) ((Z.bed.hitAt (ch_mem hc hi)).keeps k3) (Z.bed.lim.keeps k3) hroom fun T h₄ tk4 tf tb hk4 hn4 ht4 => ?_
      refine wpAny_Constant_int ?_
      refine item_tupleT (l := [.int _ tf, .int _ tb]) (j := 1) ht4 (by decide) (by decide) rfl rfl ?_
      refine ⟨?_, ⟨_, hn₃.keeps hk4⟩, trivial, e.push⟩
      exact U3.trans (Upd.of0 (s := { s₂ with heap := h₃, toks := s₂.toks + 1 }) hk4)
  · rintro D s' ys' U hD hn hp hys _ e
    rw [keptV_size] at e
    have F' := F.updL U hn
    refine hQ s' D ys' U F' ?_ e
    obtain ⟨n, e'⟩ := hp
    exact ⟨_, hideAll_get _ e' (fun z => absurd (F.lt D z) (Nat.not_lt.mpr hD)), rfl, n, rfl⟩
end
end Mine

-- part: MjLaw10
namespace Mine

/-- the names that are read behind -/
def K3 (m : Str → Option Value) (pg aK aE : Addr) : Prop := m "prog" = some (.ref pg) ∧ m "kept" = some (.ref aK) ∧ m "ends" = some (.ref aE)

section
variable {prog : Program} {w : World} {A : Around} {E : Value → Shared → Prop} {s : Shared} {L fa : Addr} {m : Str → Option Value} {c : Nat → Option Value} {g : Heap} {mg mb : Str → Option Value}
  {spans : List (Int × Int)} {hitA : List Addr} {fS aA aK pg fR aS aE : Addr} {rowV : Value} {tups : Array Value} {xs ys es : Array Value} {ch : List Nat}

theorem chain_next (hf : Fine spans) (hc : Chain spans none ch) {i : Nat} (hi : i + 1 < ch.length) : ¬ firstOf spans (ch.getD (i + 1) 0) < endOf spans (ch.getD i 0) := by
  have hs := getD_split hi
  have hc' := hc
  rw [hs] at hc'
  obtain ⟨_, _, h3, _⟩ := Chain.split hf hc'
  have hm : ch.getD i 0 ∈ ch.take (i + 1) := by
    have h1 : i < ch.length := by omega
    have : ch.getD i 0 = ch[i] := by simp [List.getD, List.getElem?_eq_getElem h1]
    rw [this]
    exact List.mem_take_iff_getElem.mpr ⟨i, by omega, rfl⟩
  have := h3 _ hm
  omega

/-- for k in range(1, len(kept)): if kept[k].span()[0] < ends[k - 1]: return False -/
theorem law_s12 {Q : Flow → Shared → Prop} (F : FS L aA aK g s.heap m c xs (keptV hitA ch)) (Z : Frz g L spans hitA fS aA pg fR aS rowV tups mg mb) (hf : Fine spans) (hc : Chain spans none ch) (hch : ch.length ≤ 24)
    (hE : g.IsList aE es) (hes : EndsAre spans ch es ch.length) (hh : A.handled = none) (hroom : A.depth < recursionLimit) (hm : K3 m pg aK aE)
    (hQ : ∀ s' m', Upd [L] s s' → FS L aA aK g s'.heap m' c xs (keptV hitA ch) → K3 m' pg aK aE → Q .next s') :
    wpAny (model prog w) A (exec ((stBody lawS).getD 12 default) (lawEnv L fa)) Q E s := by
  have hLlt : L < s.heap.objs.size := F.ns.lt
  refine wpAny_For ?_
  refine wpAny_Call_NameR (name_global rfl rfl (Z.gr.ns.keeps F.sub) Z.gr.g1 (Z.gr.nb.keeps F.sub) Z.gr.b1 ?_)
  refine PySem.callWith_type rfl (evalArgs_items ?_)
  refine wpAny_items_cons (wpAny_Constant_int ?_)
  refine wpAny_items_cons ?_
  refine wpAny_Call_NameR (name_global rfl rfl (Z.gr.ns.keeps F.sub) Z.gr.g2 (Z.gr.nb.keeps F.sub) Z.gr.b2 ?_)
  refine Calls.callWith_builtin rfl (evalArgs_items ?_)
  refine wpAny_items_cons ?_
  refine wpAny_Name (wpAny_loadName_local (s := { s with toks := s.toks + 1 }) rfl rfl F.ns hm.2.1 ?_)
  refine wpAny_items_nil ?_
  refine Calls.call_len_list F.pk.isList (by rw [keptV_size]; omega) ?_
  refine wpAny_items_nil ?_
  dsimp only
  refine call_range_2 ?_
  have hk1 : ∀ b o, s.heap.get? b = some o → (s.heap.push { cls := .type "range", data := .fields #[.int 1 s.toks, .int ((keptV hitA ch).size : Int) (s.toks + 1 + 1), .int 1 (s.toks + 1 + 1 + 1)] }).get? b = some o := fun b o e => Heap.get?_push_of_some _ e
  have hks : ((keptV hitA ch).size : Int) = ch.length := by rw [keptV_size]
  refine range_for (X := [L]) (s₁ := s) (n := ch.length - 1) (a := 1) (b := ((keptV hitA ch).size : Int)) hh (IsRange.new ..) ?_ (by decide) (by decide) (by omega) (by omega) ?_
    (fun i h => ∃ m', h.Ns L m' ∧ K3 m' pg aK aE) ?_ ?_ ?_ ?_ ?_ ?_
  · rw [hks]; split <;> omega
  · exact Upd.of0 hk1
  · rintro i h h' ⟨m', h1, h2⟩ k
    exact ⟨m', h1.at' (k L (.head _)), h2⟩
  · intro b hb
    rcases List.mem_cons.mp hb with rfl | hb
    · simp only [Heap.size_push]; exact Nat.lt_succ_of_lt hLlt
    · cases hb
  · intro b o e
    simp only [Heap.size_push]; exact Nat.lt_succ_of_lt (Heap.lt_size e)
  · rintro i tk s₂ hi U ⟨m₂, h1, h2⟩ E'
    have F2 := F.updL U h1
    refine wpAny_assign_Name (wpAny_storeName_local rfl h1 fun h₃ hn₃ hs₃ => ?_)
    have F3 : FS L aA aK g h₃ _ c xs (keptV hitA ch) := F2.setL hs₃ hn₃
    have U3 : Upd [L] s₂ { s₂ with heap := h₃, toks := s₂.toks + 1 } := Upd.same hs₃
    have hi1 : i + 1 < ch.length := by omega
    refine wpAny_execs_cons (wpAny_If ?_)
    refine wpAny_isTrue_Compare1 ?_
    refine Subscript_ ?_
    refine methodCall_KW (pl := ?_) ?_
    rotate_left
    · refine list_item (s := { s₂ with heap := h₃, toks := s₂.toks + 1 }) (a := aK) (items := keptV hitA ch) (k := 1 + (i : Int)) (t := tk) (x := .ref (hitA.getD (ch.getD (i + 1) 0) 0)) ?_ (by omega) (by omega) ?_
      · refine wpAny_Name (wpAny_loadName_local rfl rfl hn₃ h2.2.1 ?_)
        refine wpAny_Name (wpAny_loadName_local rfl rfl hn₃ rfl ?_)
        refine ⟨rfl, rfl, F3.pk.isList, ?_⟩
        refine span_meth (s := { s₂ with heap := h₃, toks := s₂.toks + 1 }) ((Z.bed.hitAt (ch_mem hc hi1)).keeps F3.sub) (Z.bed.lim.keeps F3.sub) hroom fun T h₄ tk4 tf tb hk4 hn4 ht4 => ?_
        refine wpAny_Constant_int ?_
        refine item_tupleT (l := [.int _ tf, .int _ tb]) (j := 0) ht4 (by decide) (by decide) rfl rfl ?_
        have F4 : FS L aA aK g h₄ _ c xs (keptV hitA ch) := F3.keep hk4
        obtain ⟨te, ee⟩ := hes.2 i (by omega)
        refine list_item (s := { s₂ with heap := h₄, toks := tk4 + 1 }) (a := aE) (items := es) (k := 1 + (i : Int) - 1) (t := tk4 + 1 + 1) (x := .int (endOf spans (ch.getD i 0)) te) ?_ (by omega) (by omega) ?_
        · refine wpAny_Name (wpAny_loadName_local (s := { s₂ with heap := h₄, toks := tk4 + 1 }) rfl rfl F4.ns h2.2.2 ?_)
          refine wpAny_BinOp ?_
          refine wpAny_Name (wpAny_loadName_local (s := { s₂ with heap := h₄, toks := tk4 + 1 }) rfl rfl F4.ns rfl ?_)
          refine wpAny_Constant_int ?_
          refine PyProof.Rows.sub_int ?_
          refine ⟨rfl, rfl, isList_keeps hE F4.sub, ?_⟩
          refine PyProof.Rows.lt_int ?_
          refine wpAny_truthy_bool ?_
          rw [decide_eq_false (chain_next hf hc hi1), if_neg Bool.false_ne_true]
          refine wpAny_execs_nil ?_
          refine wpAny_execs_nil ?_
          exact ⟨U3.trans (Upd.of0 (s := { s₂ with heap := h₃, toks := s₂.toks + 1 }) hk4), _, F4.ns, h2⟩
        · rw [show (1 + (i : Int) - 1).toNat = i by omega]; exact ee
      · rw [show (1 + (i : Int)).toNat = i + 1 by omega]; exact keptV_get hi1
  · rintro s₂ U ⟨m₂, h1, h2⟩
    exact hQ s₂ m₂ U (F.updL U h1) h2
  · exact ⟨m, F.ns.push _, hm⟩
end
end Mine

-- part: MjLaw11
namespace Mine

section
variable {prog : Program} {w : World} {A : Around} {E : Value → Shared → Prop}

/-- a for loop over a list -/
theorem list_for {R : Result → Shared → Prop} {target : Expr} {body : List Stmt} {env : Env} {X : List Addr} {ax : Addr} {items : Array Value} {s : Shared} (hh : A.handled = none)
    (hl : s.heap.IsList ax items) (hax : ax ∉ X) (M : Nat → Heap → Prop) (hM : ∀ i h h', M i h → (∀ b ∈ X, ∀ o, h.get? b = some o → h'.get? b = some o) → M i h') (hX : ∀ b ∈ X, b < s.heap.objs.size)
    (turn : ∀ (i : Nat) v s₂, items[i]? = some v → Upd X s s₂ → M i s₂.heap → ∀ E', wpAny (model prog w) A (assign target env v) (fun _ s₃ => wpAny (model prog w) A (execs body env) (fun f s₄ => match f with
        | .next | .cont => Upd X s₂ s₄ ∧ M (i + 1) s₄.heap
        | .brk => R (.ok .next) s₄
        | .ret v => R (.ok (.ret v)) s₄) E' s₃) E' s₂)
    (done : ∀ s₂, Upd X s s₂ → M items.size s₂.heap → R (.ok .next) s₂) (hM0 : M 0 s.heap) :
    wpAny (model prog w) A (pyIter (.ref ax)) (fun it s₂ => codeAny (model prog w) A (.forLoop target it body [] env) R s₂) E s := by
  refine wpAny_pyIter_list hl ?_
  have haxlt : ax < s.heap.objs.size := by obtain ⟨o, e, _⟩ := hl; exact Heap.lt_size e
  have W : Walks prog w A s.heap.objs.size [s.heap.objs.size, ax] [s.heap.objs.size] items.size (fun i v => items[i]? = some v) (fun i h => h.IsListIter s.heap.objs.size ax i ∧ h.IsList ax items) :=
    Walks.list hh s.heap.objs.size ax (Nat.ne_of_lt haxlt) items
  refine for_walk (X := X) (s₁ := s) W M (fun i h h' x kk => hM i h h' x fun b hb o e => kk b o (not_one (Nat.ne_of_lt (hX b hb))) e) ?_ (one_none (Heap.get?_none_of_le (Nat.le_refl _))) (fun i v s₂ _ hv U Mi E' => turn i v s₂ hv U Mi E') done ?_ ?_ ?_ (fun _ _ _ _ _ st hq => letGo_listiter st.1 hq)
  · intro b hb hbX
    rcases List.mem_cons.mp hb with rfl | hb
    · exact absurd (hX _ hbX) (Nat.lt_irrefl _)
    · rcases List.mem_cons.mp hb with rfl | hb
      · exact hax hbX
      · cases hb
  · exact Upd.of0 (tk := s.toks) fun b o e => Heap.get?_push_of_some _ e
  · exact hM 0 _ _ hM0 fun b _ o e => Heap.get?_push_of_some _ e
  · exact ⟨⟨_, Heap.get?_push_size _ rfl, rfl, rfl⟩, hl.push _⟩

variable {s : Shared} {L fa : Addr} {m : Str → Option Value} {c : Nat → Option Value} {g : Heap} {mg mb : Str → Option Value}
  {spans : List (Int × Int)} {hitA : List Addr} {fS aA aK pg fR aS aE : Addr} {rowV : Value} {tups : Array Value} {xs ys es : Array Value} {ch : List Nat}

/-- first, behind = the tuple's two, into the law's cells -/
theorem unpack_fb {p1 p2 pos : Pos} {k : Nat} {T : Addr} {v1 v2 : Value} {Q : Unit → Shared → Prop} (hh : A.handled = none) (hT : IsTup s.heap T #[v1, v2]) (F : FS L aA aK g s.heap m c xs ys)
    (hQ : ∀ s', Upd [L + 1, L + 2] s s' → FS L aA aK g s'.heap m (fun j => if j = 2 then some v2 else if j = 1 then some v1 else c j) xs ys → Q () s') :
    wpAny (model prog w) A (assign (.Tuple [.Name "first" p1, .Name "behind" p2] k pos) (lawEnv L fa) (.ref T)) Q E s := by
  refine assign_Tuple_tuple hh hT rfl rfl fun h' hx' => ?_
  have k' : ∀ b o, s.heap.get? b = some o → h'.get? b = some o := fun b o e => hx' b o (Nat.ne_of_lt (Heap.lt_size e)) e
  have F' : FS L aA aK g h' m c xs ys := F.keep k'
  show wpAny _ _ (assignInOrder [assign (.Name "first" p1) (lawEnv L fa), assign (.Name "behind" p2) (lawEnv L fa)] [v1, v2]) _ _ _
  unfold assignInOrder
  refine wpAny_bind (wpAny_holding (wpAny_assign_Name (wpAny_storeName_cell (s := { s with heap := h' }) rfl rfl (c := L + 1) rfl (F'.cell 1 (.inl rfl)) fun h₁ hc₁ hs₁ => ?_)))
  have F1 := F'.setC (.inl rfl) hs₁ hc₁
  unfold assignInOrder
  refine wpAny_bind (wpAny_holding (wpAny_assign_Name (wpAny_storeName_cell (s := { s with heap := h₁ }) rfl rfl (c := L + 2) rfl (F1.cell 2 (.inr (.inl rfl))) fun h₂ hc₂ hs₂ => ?_)))
  have F2 := F1.setC (.inr (.inl rfl)) hs₂ hc₂
  unfold assignInOrder
  refine wpAny_pure (hQ _ ?_ F2)
  refine Upd.of (tk := s.toks) fun b o hb e => ?_
  have hb1 : b ≠ L + 1 := fun z => hb (by rw [z]; exact .head _)
  have hb2 : b ≠ L + 2 := fun z => hb (by rw [z]; exact .tail _ (.head _))
  exact (hs₂.2 b hb2).trans ((hs₁.2 b hb1).trans (k' b o e))

theorem FS.updC {s s' : Shared} {v1 v2 : Option Value} (x : FS L aA aK g s.heap m c xs ys) (U : Upd [L + 1, L + 2] s s') (h1 : s'.heap.IsCell (L + 1) v1) (h2 : s'.heap.IsCell (L + 2) v2) : FS L aA aK g s'.heap m (fun j => if j = 2 then v2 else if j = 1 then v1 else c j) xs ys := by
  obtain ⟨p1, e1⟩ := x.t1
  obtain ⟨p2, e2⟩ := x.t2
  have C1 := x.cell 1 (.inl rfl)
  have C2 := x.cell 2 (.inr (.inl rfl))
  have n2 : ∀ {b : Addr}, b ≠ L + 1 → b ≠ L + 2 → b ∉ [L + 1, L + 2] := fun a b z => by
    rcases List.mem_cons.mp z with z | z
    · exact a z
    · rcases List.mem_cons.mp z with z | z
      · exact b z
      · cases z
  refine ⟨x.ns.at' fun o e => U.keep (n2 (cell_ne_ns C1 x.ns).symm (cell_ne_ns C2 x.ns).symm) e, fun i hi => ?_, ⟨p1, U.keep (n2 (cell_ne_tab C1 e1).symm (cell_ne_tab C2 e1).symm) e1⟩, ⟨p2, U.keep (n2 (cell_ne_tab C1 e2).symm (cell_ne_tab C2 e2).symm) e2⟩,
    x.pa.at fun o e => U.keep (n2 (pl_ne_cell x.pa.isList C1) (pl_ne_cell x.pa.isList C2)) e, x.pk.at fun o e => U.keep (n2 (pl_ne_cell x.pk.isList C1) (pl_ne_cell x.pk.isList C2)) e, x.ne,
    U.ghost (two_none (x.out _ (X1_c (.inl rfl))) (x.out _ (X1_c (.inr (.inl rfl))))) x.sub, x.out⟩
  rcases hi with rfl | rfl | rfl
  · exact h1
  · exact h2
  · exact cell_at (x.cell 4 (.inr (.inr rfl))) fun o e => U.keep (n2 (fun z => absurd (Nat.add_left_cancel z) (by decide)) (fun z => absurd (Nat.add_left_cancel z) (by decide))) e

def AllInts' (ys : Array Value) : Prop := ∃ ns, IntsAre ys.toList ns
theorem IntsAre_snoc {vs : List Value} {ns : List Int} (h : IntsAre vs ns) (n : Int) (t : Tok) : IntsAre (vs ++ [.int n t]) (ns ++ [n]) := IntsAre_append h (.cons n t .nil)

/-- [end for end in ends if first < end <= behind] -/
theorem law_mid {Q : Value → Shared → Prop} {f b : Int} {tf tb : Tok} (F : FS L aA aK g s.heap m c xs ys) (hm : m "ends" = some (.ref aE)) (hE : g.IsList aE es) (hes : EndsAre spans ch es ch.length) (hch : ch.length ≤ 24) (hh : A.handled = none)
    (h1 : c 1 = some (.int f tf)) (h2 : c 2 = some (.int b tb)) (hex : ∃ k, k < ch.length ∧ f < endOf spans (ch.getD k 0) ∧ endOf spans (ch.getD k 0) ≤ b)
    (hQ : ∀ s' D vs ns, Upd [] s s' → s'.heap.PlainList D vs → IntsAre vs.toList ns → ns ≠ [] → Q (.ref D) s') :
    ∀ e : Expr, e = (match stVal ((stBody ((stBody lawS).getD 13 default)).getD 0 default) with | .Compare l _ _ _ => l | _ => default) →
    wpAny (model prog w) A (eval e (lawEnv L fa)) Q E s := by
  rintro e rfl
  have C1 := F.cell 1 (.inl rfl)
  have C2 := F.cell 2 (.inr (.inl rfl))
  rw [h1] at C1
  rw [h2] at C2
  refine lcomp_eval (cl := [("first", L + 1), ("behind", L + 2)]) hh rfl (by decide) rfl (by decide) ?_
  refine wpAny_Name (wpAny_loadName_local rfl rfl F.ns hm ?_)
  have hE' := isList_keeps hE F.sub
  refine ⟨[], aE, es, (fun _ _ => True), (fun i ys' _ => ∃ ns, IntsAre ys'.toList ns ∧ ((∃ k, k < i ∧ f < endOf spans (ch.getD k 0) ∧ endOf spans (ch.getD k 0) ≤ b) → ns ≠ [])), rfl, hE', List.not_mem_nil, fun b hb => (by cases hb), by rw [hes.1]; omega, fun _ _ _ _ _ => trivial, fun _ _ _ _ x _ => x, trivial, ?_, ?_, ?_⟩
  · intro g'
    exact ⟨[], .nil, fun ⟨k, hk, _⟩ => absurd hk (Nat.not_lt_zero _)⟩
  · rintro C Z' i v s₂ m₂ ys' hC hZ1 hZ2 hv hys U _ ⟨ns, e1, e2⟩ hn E'
    have hi : i < ch.length := by
      have := (Array.getElem?_eq_some_iff.mp hv).1
      rw [hes.1] at this
      exact this
    obtain ⟨te, ee⟩ := hes.2 i hi
    rw [hv] at ee
    cases ee
    have cC1 : C ≠ L + 1 := fun z => by
      obtain ⟨o, eo, _⟩ := C1
      exact absurd (Heap.lt_size eo) (by rw [← z]; exact Nat.not_lt.mpr hC)
    have cC2 : C ≠ L + 2 := fun z => by
      obtain ⟨o, eo, _⟩ := C2
      exact absurd (Heap.lt_size eo) (by rw [← z]; exact Nat.not_lt.mpr hC)
    refine wpAny_assign_Name (wpAny_storeName_local rfl hn fun h₃ hn₃ hs₃ => ?_)
    have U3 : Upd [C] s₂ { s₂ with heap := h₃, toks := s₂.toks + 1 } := Upd.same hs₃
    have D1 : h₃.IsCell (L + 1) (some (.int f tf)) := cell_at C1 fun o e => U3.keep (not_one cC1.symm) (U.nil_keep _ _ e)
    have D2 : h₃.IsCell (L + 2) (some (.int b tb)) := cell_at C2 fun o e => U3.keep (not_one cC2.symm) (U.nil_keep _ _ e)
    have skip : (¬ (f < endOf spans (ch.getD i 0) ∧ endOf spans (ch.getD i 0) ≤ b)) → ∃ ns, IntsAre ys'.toList ns ∧ ((∃ k, k < i + 1 ∧ f < endOf spans (ch.getD k 0) ∧ endOf spans (ch.getD k 0) ≤ b) → ns ≠ []) := fun hno =>
      ⟨ns, e1, fun ⟨k, hk, r⟩ => e2 ⟨k, by
        rcases Nat.lt_or_eq_of_le (Nat.le_of_lt_succ hk) with h | h
        · exact h
        · rw [h] at r; exact absurd r hno, r⟩⟩
    refine wpAny_tests_one ?_
    refine isTrue_chain ?_
    refine wpAny_Name (wpAny_loadName_cell (s := { s₂ with heap := h₃, toks := s₂.toks + 1 }) rfl rfl (c := L + 1) rfl D1 ?_)
    refine test_link ?_
    refine wpAny_Name (wpAny_loadName_local (s := { s₂ with heap := h₃, toks := s₂.toks + 1 }) rfl rfl hn₃ rfl ?_)
    refine PyProof.Rows.lt_int ?_
    refine wpAny_truthy_bool ?_
    by_cases q1 : f < endOf spans (ch.getD i 0)
    · rw [decide_eq_true q1, if_pos rfl]
      refine test_last ?_
      refine wpAny_Name (wpAny_loadName_cell (s := { s₂ with heap := h₃, toks := s₂.toks + 1 }) rfl rfl (c := L + 2) rfl D2 ?_)
      refine PyProof.Rows.le_int ?_
      refine wpAny_truthy_bool ?_
      by_cases q2 : endOf spans (ch.getD i 0) ≤ b
      · rw [decide_eq_true q2, if_pos rfl]
        refine wpAny_Name (wpAny_loadName_local (s := { s₂ with heap := h₃, toks := s₂.toks + 1 }) rfl rfl hn₃ rfl ?_)
        refine ⟨U3, ⟨_, hn₃⟩, trivial, ns ++ [endOf spans (ch.getD i 0)], ?_, fun _ => by simp⟩
        rw [Array.toList_push]
        exact IntsAre_snoc e1 _ _
      · rw [decide_eq_false q2, if_neg Bool.false_ne_true]
        exact ⟨U3, ⟨_, hn₃⟩, trivial, skip fun r => q2 r.2⟩
    · rw [decide_eq_false q1, if_neg Bool.false_ne_true, if_neg Bool.false_ne_true]
      exact ⟨U3, ⟨_, hn₃⟩, trivial, skip fun r => q1 r.1⟩
  · rintro D s' ys' U hD hp hys _ ⟨ns, e1, e2⟩
    rw [hes.1] at e2
    exact hQ s' D ys' ns U hp e1 (e2 hex)
end
end Mine

-- part: MjLaw12
namespace Mine

section
variable {prog : Program} {w : World} {A : Around} {E : Value → Shared → Prop} {s : Shared} {L fa : Addr} {m : Str → Option Value} {c : Nat → Option Value} {g : Heap} {mg mb : Str → Option Value}
  {spans : List (Int × Int)} {hitA : List Addr} {fS aA aK pg fR aS aE : Addr} {rowV : Value} {tups : Array Value} {xs ys es : Array Value} {ch : List Nat}

theorem covers_idx (hc : Chain spans none ch) {i : Nat} (hi : i < spans.length) : ∃ k, k < ch.length ∧ firstOf spans i < endOf spans (ch.getD k 0) ∧ endOf spans (ch.getD k 0) ≤ endOf spans i := by
  obtain ⟨b, hb, r⟩ := hc.covers i hi rfl
  obtain ⟨k, hk, e⟩ := List.getElem_of_mem hb
  refine ⟨k, hk, ?_⟩
  have : ch.getD k 0 = b := by simp [List.getD, List.getElem?_eq_getElem hk, e]
  rw [this]; exact r

/-- for first, behind in spans: if [..] == []: return False -/
theorem law_s13 {Q : Flow → Shared → Prop} (F : FS L aA aK g s.heap m c xs ys) (Z : Frz g L spans hitA fS aA pg fR aS rowV tups mg mb) (hc : Chain spans none ch) (hch : ch.length ≤ 24)
    (hE : g.IsList aE es) (hes : EndsAre spans ch es ch.length) (hh : A.handled = none) (hu : A.units + 64 < cLine) (hm : m "ends" = some (.ref aE))
    (hQ : ∀ s' c', Upd [L + 1, L + 2] s s' → FS L aA aK g s'.heap m c' xs ys → Q .next s') :
    wpAny (model prog w) A (exec ((stBody lawS).getD 13 default) (lawEnv L fa)) Q E s := by
  refine wpAny_For ?_
  refine wpAny_Name (wpAny_loadName_cell rfl rfl (c := L + 7) rfl (Z.sp.keeps F.sub) ?_)
  have hl := isList_keeps Z.lst F.sub
  have C1 := F.cell 1 (.inl rfl)
  have C2 := F.cell 2 (.inr (.inl rfl))
  refine list_for (X := [L + 1, L + 2]) hh hl ?_ (fun _ h => ∃ v1 v2, h.IsCell (L + 1) v1 ∧ h.IsCell (L + 2) v2) ?_ ?_ ?_ ?_ ⟨_, _, C1, C2⟩
  · intro z
    rcases List.mem_cons.mp z with z | z
    · exact pl_ne_cell hl C1 z
    · rcases List.mem_cons.mp z with z | z
      · exact pl_ne_cell hl C2 z
      · cases z
  · rintro i h h' ⟨v1, v2, a1, a2⟩ k
    exact ⟨v1, v2, cell_at a1 (k _ (.head _)), cell_at a2 (k _ (.tail _ (.head _)))⟩
  · intro b hb
    rcases List.mem_cons.mp hb with rfl | hb
    · exact F.lt _ (X1_c (.inl rfl))
    · rcases List.mem_cons.mp hb with rfl | hb
      · exact F.lt _ (X1_c (.inr (.inl rfl)))
      · cases hb
  · rintro i v s₂ hv U ⟨v1, v2, a1, a2⟩ E'
    have hi : i < spans.length := by
      have := (Array.getElem?_eq_some_iff.mp hv).1
      rw [Z.tsz] at this
      exact this
    obtain ⟨T, tf, tb, e1, e2⟩ := Z.tup i hi
    rw [hv] at e1
    cases e1
    have F2 := F.updC U a1 a2
    refine unpack_fb hh (e2.keeps F2.sub) F2 fun s₃ U3 F3 => ?_
    refine wpAny_execs_cons (wpAny_If ?_)
    refine wpAny_isTrue_Compare1 ?_
    refine law_mid (f := firstOf spans i) (b := endOf spans i) F3 hm hE hes hch hh rfl rfl (covers_idx hc hi) (fun s₄ D vs ns U4 p4 i4 n4 => ?_) _ rfl
    refine wpAny_List ?_
    refine wpAny_items_nil ?_
    refine ⟨by size_fits, ?_⟩
    have k5 : ∀ b o, s₄.heap.get? b = some o → (s₄.heap.push { cls := .type "list", data := .seq ([] : List Value).toArray }).get? b = some o := fun b o e => Heap.get?_push_of_some _ e
    have lD : (s₄.heap.push { cls := .type "list", data := .seq ([] : List Value).toArray }).IsList D vs.toList.toArray := isList_keeps p4.isList k5
    refine ke_eq_ints (s := { s₄ with heap := s₄.heap.push _ }) (ys := []) lD ⟨_, Heap.get?_push_size _ rfl, rfl, 0, rfl⟩ i4 .nil hu ?_
    refine wpAny_truthy_bool ?_
    rw [decide_eq_false n4, if_neg Bool.false_ne_true]
    refine wpAny_execs_nil ?_
    refine wpAny_execs_nil ?_
    have F5 : FS L aA aK g (s₄.heap.push { cls := .type "list", data := .seq ([] : List Value).toArray }) m _ xs ys := (F3.upd0 U4).keep k5
    refine ⟨?_, _, _, F5.cell 1 (.inl rfl), F5.cell 2 (.inr (.inl rfl))⟩
    exact (U3.trans (U4.mono fun b hb => by cases hb)).trans (Upd.of0 (tk := s₄.toks) k5)
  · rintro s₂ U ⟨v1, v2, a1, a2⟩
    exact hQ s₂ _ U (F.updC U a1 a2)
end
end Mine

-- part: MjLaw13
namespace Mine

abbrev colS : Stmt := (stBody lawS).getD 14 default

section
variable {prog : Program} {w : World} {A : Around} {E : Value → Shared → Prop} {s : Shared} {L fa : Addr} {m : Str → Option Value} {c : Nat → Option Value} {g : Heap} {mg mb : Str → Option Value}
  {spans : List (Int × Int)} {hitA : List Addr} {fS aA aK pg fR aS aE : Addr} {rowV : Value} {tups : Array Value} {xs ys es : Array Value} {ch : List Nat}

/-- asked.clear() -/
theorem law_clear {Q : Flow → Shared → Prop} (F : FS L aA aK g s.heap m c xs ys) (Z : Frz g L spans hitA fS aA pg fR aS rowV tups mg mb) (hsz : xs.size ≤ 100000)
    (hQ : ∀ s', Upd [aA] s s' → FS L aA aK g s'.heap m c #[] ys → Q .next s') :
    wpAny (model prog w) A (exec ((stBody colS).getD 0 default) (lawEnv L fa)) Q E s := by
  obtain ⟨n, hn⟩ := id F.pa
  refine wpAny_Expr ?_
  refine methodCall_KW (pl := ?_) ?_
  rotate_left
  · refine wpAny_Name (wpAny_loadName_cell rfl rfl (c := L + 5) rfl (Z.ask.keeps F.sub) ?_)
    refine getMethod_list_of PySem.F.slot_list_clear PySem.F.type_list_clear F.pa.isList ⟨_, hn, rfl⟩ ?_
    refine PySem.P.clear_list (l := aA) hn ?_ (by rw [sizeLine_eq]; omega)
    have hs : Heap.SameBut aA s.heap (s.heap.update aA (Obj.mapSeq fun _ => #[])) := Heap.SameBut.update ..
    have U : Upd [aA] s { s with heap := s.heap.update aA (Obj.mapSeq fun _ => #[]) } := Upd.same (tk := s.toks) hs
    exact hQ _ U (F.updA U ⟨_, Heap.get?_update_self _ hn rfl⟩)

theorem filter_snoc {col : Int} {i : Nat} (hi : i < ch.length) : ((ch.take (i + 1)).map (endOf spans)).filter (fun e => decide (e ≤ col)) = ((ch.take i).map (endOf spans)).filter (fun e => decide (e ≤ col)) ++ (if endOf spans (ch.getD i 0) ≤ col then [endOf spans (ch.getD i 0)] else []) := by
  have : ch.take (i + 1) = ch.take i ++ [ch.getD i 0] := by
    have e : ch.getD i 0 = ch[i] := by simp [List.getD, List.getElem?_eq_getElem hi]
    rw [e, List.take_append_getElem hi]
  rw [this, List.map_append, List.filter_append]
  congr 1
  generalize ch.getD i 0 = b
  by_cases h : endOf spans b ≤ col
  · simp [h]
  · simp [h]

/-- over = [end for end in ends if end <= col] -/
theorem law_over {Q : Flow → Shared → Prop} {col : Int} {tc : Tok} (F : FS L aA aK g s.heap m c xs ys) (hm : m "ends" = some (.ref aE)) (hE : g.IsList aE es) (hes : EndsAre spans ch es ch.length) (hch : ch.length ≤ 24) (hh : A.handled = none)
    (h4 : c 4 = some (.int col tc))
    (hQ : ∀ s' D vs, Upd [L] s s' → FS L aA aK g s'.heap (fun x => if x = "over" then some (.ref D) else m x) c xs ys → (hideAll s'.heap (X1 L aA aK)).PlainList D vs.toArray → IntsAre vs (over spans ch col) → Q .next s') :
    wpAny (model prog w) A (exec ((stBody colS).getD 1 default) (lawEnv L fa)) Q E s := by
  have C4 := F.cell 4 (.inr (.inr rfl))
  rw [h4] at C4
  refine lcomp_assign (cl := [("col", L + 4)]) hh rfl rfl rfl rfl (by decide) rfl (by decide) ?_
  refine wpAny_Name (wpAny_loadName_local rfl rfl F.ns hm ?_)
  have hE' := isList_keeps hE F.sub
  refine ⟨[], aE, es, m, (fun _ _ => True), (fun i ys' _ => IntsAre ys'.toList (((ch.take i).map (endOf spans)).filter (fun e => decide (e ≤ col)))), rfl, hE', List.not_mem_nil, fun b hb => (by cases hb), by rw [hes.1]; omega, F.ns, List.not_mem_nil, fun _ _ _ _ _ => trivial, fun _ _ _ _ x _ => x, trivial, fun _ => .nil, ?_, ?_⟩
  · rintro C Z' i v s₂ m₂ ys' hC hZ1 hZ2 hv hys U _ e1 hn E'
    have hi : i < ch.length := by
      have := (Array.getElem?_eq_some_iff.mp hv).1
      rw [hes.1] at this
      exact this
    obtain ⟨te, ee⟩ := hes.2 i hi
    rw [hv] at ee
    cases ee
    have cC : C ≠ L + 4 := fun z => by
      obtain ⟨o, eo, _⟩ := C4
      exact absurd (Heap.lt_size eo) (by rw [← z]; exact Nat.not_lt.mpr hC)
    refine wpAny_assign_Name (wpAny_storeName_local rfl hn fun h₃ hn₃ hs₃ => ?_)
    have U3 : Upd [C] s₂ { s₂ with heap := h₃, toks := s₂.toks + 1 } := Upd.same hs₃
    have D4 : h₃.IsCell (L + 4) (some (.int col tc)) := cell_at C4 fun o e => U3.keep (not_one cC.symm) (U.nil_keep _ _ e)
    refine wpAny_tests_one ?_
    refine wpAny_isTrue_Compare1 ?_
    refine wpAny_Name (wpAny_loadName_local (s := { s₂ with heap := h₃, toks := s₂.toks + 1 }) rfl rfl hn₃ rfl ?_)
    refine wpAny_Name (wpAny_loadName_cell (s := { s₂ with heap := h₃, toks := s₂.toks + 1 }) rfl rfl (c := L + 4) rfl D4 ?_)
    refine PyProof.Rows.le_int ?_
    refine wpAny_truthy_bool ?_
    by_cases q : endOf spans (ch.getD i 0) ≤ col
    · rw [decide_eq_true q, if_pos rfl]
      refine wpAny_Name (wpAny_loadName_local (s := { s₂ with heap := h₃, toks := s₂.toks + 1 }) rfl rfl hn₃ rfl ?_)
      refine ⟨U3, ⟨_, hn₃⟩, trivial, ?_⟩
      dsimp only
      rw [Array.toList_push, filter_snoc hi, if_pos q]
      exact IntsAre_snoc e1 _ _
    · rw [decide_eq_false q, if_neg Bool.false_ne_true]
      refine ⟨U3, ⟨_, hn₃⟩, trivial, ?_⟩
      dsimp only
      rw [filter_snoc hi, if_neg q, List.append_nil]
      exact e1
  · rintro D s' ys' U hD hn hp hys _ e1
    rw [hes.1, List.take_length] at e1
    refine hQ s' D ys'.toList U (F.updL U hn) ?_ e1
    obtain ⟨n, e'⟩ := hp
    exact ⟨n, hideAll_get _ e' (fun z => absurd (F.lt D z) (Nat.not_lt.mpr hD))⟩

theorem isNot_self {v : Value} {Q : Value → Shared → Prop} (hv : v = .none ∨ ∃ a, v = .ref a) (h : Q (.bool false) s) : wpAny (model prog w) A (compareOp .IsNot v v) Q E s := by
  show wpAny _ A (do return .bool (!(← isSame v v))) Q E s
  rcases hv with rfl | ⟨a, rfl⟩
  · rw [isSame_none]; exact wpAny_bind (wpAny_pure (wpAny_pure h))
  · refine wpAny_bind ?_
    unfold isSame
    show wpAny _ A (if (a == a) = true then pure true else _) _ _ _
    rw [if_pos (by simp)]
    exact wpAny_pure (wpAny_pure h)

theorem told_get {n : Nat} (hn : n ≤ ch.length) : (#[Value.none] ++ keptV hitA ch)[n]? = some (told hitA ch n) := by
  cases n with
  | zero => rw [Array.getElem?_append_left (by simp)]; rfl
  | succ n =>
    rw [Array.getElem?_append_right (by simp)]
    simp only [List.size_toArray, List.length_cons, List.length_nil]
    rw [show n + 1 - (0 + 1) = n by omega, keptV_get (by omega)]
    rfl

/-- search_reverse(prog, row, col) is not ([None] + kept)[len(over)] -/
theorem law_is {Q : Bool → Shared → Prop} {col : Int} {tc : Tok} {D : Addr} {vs : List Value} (F : FS L aA aK g s.heap m c #[] (keptV hitA ch)) (Z : Frz g L spans hitA fS aA pg fR aS rowV tups mg mb) (hf : Fine spans) (hc : Chain spans none ch) (hch : ch.length ≤ 24)
    (hh : A.handled = none) (hroom : A.depth + 1 < recursionLimit) (h4 : c 4 = some (.int col tc)) (m1 : m "prog" = some (.ref pg)) (m2 : m "kept" = some (.ref aK)) (m3 : m "over" = some (.ref D)) (hD : g.IsList D vs.toArray) (hi : IntsAre vs (over spans ch col))
    (hQ : ∀ s' ts, Upd [aA] s s' → FS L aA aK g s'.heap m c (ts.map Value.ref).toArray (keptV hitA ch) → AskedAre s'.heap rowV ts (none :: (over spans ch col).map some) → Q false s') :
    wpAny (model prog w) A (isTrue (stVal ((stBody colS).getD 2 default)) (lawEnv L fa) (eval (stVal ((stBody colS).getD 2 default)) (lawEnv L fa))) Q E s := by
  have C4 := F.cell 4 (.inr (.inr rfl))
  rw [h4] at C4
  refine wpAny_isTrue_Compare1 ?_
  refine wpAny_Call_NameR (Calls.Name_function_global rfl rfl (Calls.loadGlobal_global (Z.gr.ns.keeps F.sub) Z.msr ?_))
  refine callWith_F (first := []) (sr_fn Z F.sub) ?_
  refine wpAny_items_cons ?_
  refine wpAny_Name (wpAny_loadName_local rfl rfl F.ns m1 ?_)
  refine wpAny_items_cons ?_
  refine wpAny_Name (wpAny_loadName_cell rfl rfl (c := L + 3) rfl (Z.row.keeps F.sub) ?_)
  refine wpAny_items_cons ?_
  refine wpAny_Name (wpAny_loadName_cell rfl rfl (c := L + 4) rfl C4 ?_)
  refine wpAny_items_nil ?_
  refine ⟨sr_fn Z F.sub, ?_⟩
  refine law_sr F Z hf hc hch (by decide) hh hroom fun s₁ ts U1 F1 a1 => ?_
  have hon : (over spans ch col).length ≤ ch.length := over_len_le
  have hvl : vs.length = (over spans ch col).length := IntsAre_len hi
  rw [Array.empty_append] at F1
  -- ([None] + kept)[len(over)]
  obtain ⟨nk, ek⟩ := id F1.pk
  have kp : ∀ b o, s₁.heap.get? b = some o → (s₁.heap.push { cls := .type "list", data := .seq [Value.none].toArray }).get? b = some o := fun b o e => Heap.get?_push_of_some _ e
  refine list_item (a := s₁.heap.objs.size + 1) (items := [Value.none].toArray ++ keptV hitA ch) (k := (vs.toArray.size : Int)) (t := s₁.toks + 1) (x := told hitA ch (over spans ch col).length) ?_ (by omega) (by simp; omega) ?_
  · refine wpAny_BinOp ?_
    refine wpAny_List ?_
    refine wpAny_items_cons (wpAny_Constant_none ?_)
    refine wpAny_items_nil ?_
    refine ⟨by size_fits, ?_⟩
    have F2 : FS L aA aK g (s₁.heap.push { cls := .type "list", data := .seq [Value.none].toArray }) m c _ (keptV hitA ch) := F1.keep kp
    refine wpAny_Name (wpAny_loadName_local (s := { s₁ with heap := s₁.heap.push _ }) rfl rfl F2.ns m2 ?_)
    refine PySem.P.add_list (s := { s₁ with heap := s₁.heap.push _ }) (Heap.get?_push_size _ rfl) (kp _ _ ek) ?_ (by rw [keptV_size, sizeLine_eq]; simp; omega)
    dsimp only
    simp only [Heap.size_push]
    have F3 : FS L aA aK g ((s₁.heap.push { cls := .type "list", data := .seq [Value.none].toArray }).push { cls := .type "list", data := .seq ([Value.none].toArray ++ keptV hitA ch) }) m c _ (keptV hitA ch) := F2.keep fun b o e => Heap.get?_push_of_some _ e
    have l3 : ((s₁.heap.push { cls := .type "list", data := .seq [Value.none].toArray }).push { cls := .type "list", data := .seq ([Value.none].toArray ++ keptV hitA ch) }).IsList (s₁.heap.objs.size + 1) ([Value.none].toArray ++ keptV hitA ch) :=
      ⟨_, Heap.get?_push_at (by rw [Heap.size_push]) rfl, rfl, 0, rfl⟩
    generalize hH : ((s₁.heap.push { cls := .type "list", data := .seq [Value.none].toArray }).push { cls := .type "list", data := .seq ([Value.none].toArray ++ keptV hitA ch) }) = H at F3 l3 ⊢
    have UH : Upd [aA] s { s₁ with heap := H } := U1.trans (Upd.of0 (tk := s₁.toks) fun b o e => by rw [← hH]; exact Heap.get?_push_of_some _ (kp b o e))
    have aH : AskedAre H rowV ts (none :: (over spans ch col).map some) := a1.keeps fun b o _ e => by rw [← hH]; exact Heap.get?_push_of_some _ (kp b o e)
    refine wpAny_Call_NameR (name_global (s := { s₁ with heap := H }) rfl rfl (Z.gr.ns.keeps F3.sub) Z.gr.g2 (Z.gr.nb.keeps F3.sub) Z.gr.b2 ?_)
    refine Calls.callWith_builtin rfl (evalArgs_items ?_)
    refine wpAny_items_cons ?_
    refine wpAny_Name (wpAny_loadName_local (s := { s₁ with heap := H }) rfl rfl F3.ns m3 ?_)
    refine wpAny_items_nil ?_
    refine Calls.call_len_list (s := { s₁ with heap := H }) (isList_keeps hD F3.sub) (by simp; omega) ?_
    refine ⟨trivial, rfl, l3, ?_⟩
    refine isNot_self ?_ ?_
    · cases (over spans ch col).length with
      | zero => exact .inl rfl
      | succ n => exact .inr ⟨_, rfl⟩
    · refine wpAny_truthy_bool ?_
      exact hQ _ ts (UH.trans (Upd.toks _ _ _)) F3 aH
  · have : ((vs.toArray.size : Int)).toNat = (over spans ch col).length := by simp [hvl]
    rw [this]
    exact told_get hon
end
end Mine

-- part: MjLaw14
namespace Mine

/-! what was asked, as plain data -/
def stPy : Option Int → PyData
  | none => .none
  | some j => .int j
def toPy (st : Option Int) : PyData := .tuple [.str rowS, stPy st]
theorem reads_st {h : Heap} {v : Value} : ∀ {st : Option Int}, StIs v st → Reads h v (stPy st) []
  | none, hs => by have : v = .none := hs; subst this; exact .none
  | some j, hs => by obtain ⟨u, rfl⟩ := hs; exact .int j u
theorem reads_asked {h : Heap} {t : Tok} : ∀ {ts : List Addr} {sts : List (Option Int)}, AskedAre h (.str rowS t) ts sts → ∃ as, ReadsAll h (ts.map Value.ref) (sts.map toPy) as
  | [], [], _ => ⟨[], .nil⟩
  | [], _ :: _, x => x.elim
  | _ :: _, [], x => x.elim
  | T :: ts, st :: sts, ⟨⟨v, ⟨o, e, c, n, d⟩, hs⟩, r⟩ => by
    obtain ⟨as, hr⟩ := reads_asked r
    have h1 : ReadsAll h [.str rowS t, v] [.str rowS, stPy st] ([] ++ ([] ++ [])) := .cons (.str rowS t) (.cons (reads_st hs) .nil)
    exact ⟨_, .cons (.tuple e c d h1) hr⟩
theorem canLay_asked : ∀ sts : List (Option Int), PyData.canLayAll0 (sts.map toPy) = true
  | [] => rfl
  | st :: sts => by
    have h1 : PyData.canLay0 (toPy st) = true := by
      unfold toPy
      cases st <;> simp [stPy, PyData.canLay0, PyData.canLayAll0, rowS_ok]
    simp only [List.map_cons, PyData.canLayAll0, h1, canLay_asked sts, Bool.and_self]
theorem depth_asked : ∀ sts : List (Option Int), PyData.depthAll (sts.map toPy) ≤ 1
  | [] => Nat.zero_le _
  | st :: sts => by
    have h1 : PyData.depth (toPy st) ≤ 1 := by
      unfold toPy
      cases st <;> simp [stPy, PyData.depth, PyData.depthAll]
    have h2 := depth_asked sts
    simp only [List.map_cons, PyData.depthAll]
    omega
theorem shaped_asked (sts : List (Option Int)) : SeqAt.shaped (.list (sts.map toPy)) = true := by
  unfold SeqAt.shaped
  have h := depth_asked sts
  rw [Bool.and_eq_true]
  refine ⟨by simp only [PyData.canLay0]; exact canLay_asked sts, decide_eq_true ?_⟩
  simp only [PyData.depth]
  omega
theorem eqv_asked1 (st : Option Int) : PyData.eqv (toPy st) (toPy st) = true := by
  unfold toPy
  cases st <;> simp [stPy, PyData.eqv, PyData.eqvAll]
theorem eqv_asked : ∀ sts : List (Option Int), PyData.eqvAll (sts.map toPy) (sts.map toPy) = true
  | [] => by simp [PyData.eqvAll]
  | st :: sts => by simp only [List.map_cons, PyData.eqvAll, eqv_asked1, eqv_asked sts, Bool.and_self]

section
variable {prog : Program} {w : World} {A : Around} {E : Value → Shared → Prop} {s : Shared} {L fa : Addr} {m : Str → Option Value} {c : Nat → Option Value} {g : Heap} {mg mb : Str → Option Value}
  {spans : List (Int × Int)} {hitA : List Addr} {fS aA aK pg fR aS aE : Addr} {rowV : Value} {tups : Array Value} {xs ys es : Array Value} {ch : List Nat}

theorem sts_get {vs : List Value} {ov : List Int} (hi : IntsAre vs ov) {i : Nat} {v : Value} (hv : ([Value.none].toArray ++ vs.toArray)[i]? = some v) :
    ∃ st, (none :: ov.map some)[i]? = some st ∧ StIs v st := by
  cases i with
  | zero =>
    rw [Array.getElem?_append_left (by simp)] at hv
    have : some Value.none = some v := hv
    cases this
    exact ⟨none, rfl, rfl⟩
  | succ i =>
    rw [Array.getElem?_append_right (by simp)] at hv
    simp only [List.size_toArray, List.length_cons, List.length_nil, List.getElem?_toArray] at hv
    rw [show i + 1 - (0 + 1) = i by omega] at hv
    obtain ⟨n, t, e1, rfl⟩ := IntsAre_get hi i v hv
    exact ⟨some n, by simp [e1], t, rfl⟩

theorem take_snoc {α : Type} {l : List α} {i : Nat} {x : α} (h : l[i]? = some x) : l.take (i + 1) = l.take i ++ [x] := by
  obtain ⟨hi, e⟩ := List.getElem?_eq_some_iff.mp h
  rw [← e, List.take_append_getElem hi]

/-- asked != [(row, start) for start in [None] + over] -/
theorem law_ne {Q : Bool → Shared → Prop} {ov : List Int} {D : Addr} {vs : List Value} {ts : List Addr} (F : FS L aA aK g s.heap m c (ts.map Value.ref).toArray ys) (Z : Frz g L spans hitA fS aA pg fR aS rowV tups mg mb)
    (hh : A.handled = none) (hu : A.units + 64 < cLine) (m3 : m "over" = some (.ref D)) (hD : g.PlainList D vs.toArray) (hi : IntsAre vs ov) (hov : ov.length ≤ 24) (ha : AskedAre s.heap rowV ts (none :: ov.map some))
    (hQ : ∀ s', Upd [] s s' → Q false s') :
    wpAny (model prog w) A (isTrue (stVal ((stBody colS).getD 3 default)) (lawEnv L fa) (eval (stVal ((stBody colS).getD 3 default)) (lawEnv L fa))) Q E s := by
  obtain ⟨tr, hrow⟩ := Z.isRow
  have hvl : vs.length = ov.length := IntsAre_len hi
  refine wpAny_isTrue_Compare1 ?_
  refine wpAny_Name (wpAny_loadName_cell rfl rfl (c := L + 5) rfl (Z.ask.keeps F.sub) ?_)
  refine lcomp_eval (cl := [("row", L + 3)]) hh rfl (by decide) rfl (by decide) ?_
  refine wpAny_BinOp ?_
  refine wpAny_List ?_
  refine wpAny_items_cons (wpAny_Constant_none ?_)
  refine wpAny_items_nil ?_
  refine ⟨by size_fits, ?_⟩
  have kp : ∀ b o, s.heap.get? b = some o → (s.heap.push { cls := .type "list", data := .seq [Value.none].toArray }).get? b = some o := fun b o e => Heap.get?_push_of_some _ e
  have F2 : FS L aA aK g (s.heap.push { cls := .type "list", data := .seq [Value.none].toArray }) m c _ ys := F.keep kp
  refine wpAny_Name (wpAny_loadName_local (s := { s with heap := s.heap.push _ }) rfl rfl F2.ns m3 ?_)
  obtain ⟨nD, eD⟩ := hD
  refine PySem.P.add_list (s := { s with heap := s.heap.push _ }) (Heap.get?_push_size _ rfl) (F2.sub _ _ eD) ?_ (by rw [sizeLine_eq]; simp; omega)
  dsimp only
  have F3 : FS L aA aK g ((s.heap.push { cls := .type "list", data := .seq [Value.none].toArray }).push { cls := .type "list", data := .seq ([Value.none].toArray ++ vs.toArray) }) m c _ ys := F2.keep fun b o e => Heap.get?_push_of_some _ e
  have l3 : ((s.heap.push { cls := .type "list", data := .seq [Value.none].toArray }).push { cls := .type "list", data := .seq ([Value.none].toArray ++ vs.toArray) }).IsList (s.heap.push { cls := .type "list", data := .seq [Value.none].toArray }).objs.size ([Value.none].toArray ++ vs.toArray) :=
    ⟨_, Heap.get?_push_size _ rfl, rfl, 0, rfl⟩
  have kH : ∀ b o, s.heap.get? b = some o → ((s.heap.push { cls := .type "list", data := .seq [Value.none].toArray }).push { cls := .type "list", data := .seq ([Value.none].toArray ++ vs.toArray) }).get? b = some o := fun b o e => Heap.get?_push_of_some _ (kp b o e)
  generalize ((s.heap.push { cls := .type "list", data := .seq [Value.none].toArray }).push { cls := .type "list", data := .seq ([Value.none].toArray ++ vs.toArray) }) = H at F3 l3 kH ⊢
  have hsz : ([Value.none].toArray ++ vs.toArray).size = ov.length + 1 := by simp; omega
  have hstl : (none :: ov.map some : List (Option Int)).length = ov.length + 1 := by simp
  refine ⟨[], _, [Value.none].toArray ++ vs.toArray, (fun _ _ => True), (fun i ys' g' => ∃ ts', ys' = (ts'.map Value.ref).toArray ∧ AskedAre g' rowV ts' ((none :: ov.map some).take i)), rfl, l3, List.not_mem_nil, fun b hb => (by cases hb), by rw [hsz]; omega, fun _ _ _ _ _ => trivial, ?_, trivial, ?_, ?_, ?_⟩
  · rintro i ys' g1 g2 ⟨ts', e1, e2⟩ k
    exact ⟨ts', e1, e2.keeps fun b o _ e => k b o e⟩
  · intro g'
    exact ⟨[], rfl, trivial⟩
  · rintro C Z' i v s₂ m₂ ys' hC hZ1 hZ2 hv hys U _ ⟨ts', e1, e2⟩ hn E'
    obtain ⟨st, hst, hsv⟩ := sts_get hi hv
    have k2 : ∀ b o, g.get? b = some o → s₂.heap.get? b = some o := fun b o e => U.nil_keep b o (F3.sub b o e)
    have gC : g.get? C = none := none_of_ge F3.sub hC
    refine wpAny_assign_Name (wpAny_storeName_local rfl hn fun h₃ hn₃ hs₃ => ?_)
    have U3 : Upd [C] s₂ { s₂ with heap := h₃, toks := s₂.toks + 1 } := Upd.same hs₃
    have k3 : ∀ b o, g.get? b = some o → h₃.get? b = some o := U3.ghost (one_none gC) k2
    refine wpAny_tests_nil ?_
    rw [if_pos rfl]
    refine wpAny_Tuple (k := 0) ?_
    refine wpAny_items_cons ?_
    refine wpAny_Name (wpAny_loadName_cell (s := { s₂ with heap := h₃, toks := s₂.toks + 1 }) rfl rfl (c := L + 3) rfl (Z.row.keeps k3) ?_)
    refine wpAny_items_cons ?_
    refine wpAny_Name (wpAny_loadName_local (s := { s₂ with heap := h₃, toks := s₂.toks + 1 }) rfl rfl hn₃ rfl ?_)
    refine wpAny_items_nil ?_
    refine ⟨by size_fits, ?_⟩
    have U4 : Upd [C] s₂ { s₂ with heap := h₃.push { cls := .type "tuple", data := .seq [rowV, v].toArray }, toks := s₂.toks + 1 } := U3.trans (Upd.of0 (s := { s₂ with heap := h₃, toks := s₂.toks + 1 }) fun b o e => Heap.get?_push_of_some _ e)
    have hTZ : h₃.objs.size ∉ Z' := fun z => absurd (hZ2 _ z) (Nat.not_le.mpr hn₃.lt)
    refine ⟨U4, ⟨_, hn₃.push _⟩, trivial, ts' ++ [h₃.objs.size], ?_, ?_⟩
    · rw [e1]
      apply Array.ext'
      simp
    · rw [take_snoc hst]
      exact AskedAre.snoc (v := v) ⟨_, hideAll_get Z' (Heap.get?_push_size _ rfl) hTZ, rfl, 0, rfl⟩ hsv (e2.keeps fun b o _ e => U4.hide hZ1 b o e)
  · rintro D2 s' ys' U hD2 hp hys _ ⟨ts', e1, e2⟩
    rw [hsz, ← hstl, List.take_length] at e2
    have a2 : AskedAre s'.heap rowV ts' (none :: ov.map some) := e2.keeps fun b o _ e => of_hideAll _ e
    have UH : Upd [] s s' := (Upd.of0 (tk := s.toks) kH).trans U
    have a1 : AskedAre s'.heap rowV ts (none :: ov.map some) := ha.keeps fun b o _ e => UH.nil_keep b o e
    subst e1
    have F4 : FS L aA aK g s'.heap m c _ ys := F.upd0 UH
    rw [hrow] at a1 a2
    obtain ⟨as1, r1⟩ := reads_asked a1
    obtain ⟨as2, r2⟩ := reads_asked a2
    obtain ⟨n1, p1⟩ := F4.pa
    obtain ⟨n2, p2⟩ := hp
    refine SeqAt.compareNe_shaped (.list p1 rfl rfl r1) (.list p2 rfl rfl r2) (shaped_asked _) (shaped_asked _) hu ?_
    refine wpAny_truthy_bool ?_
    have : PyData.eqv (.list ((none :: ov.map some).map toPy)) (.list ((none :: ov.map some).map toPy)) = true := by
      simp only [PyData.eqv]
      exact eqv_asked _
    rw [this]
    exact hQ s' UH
end
end Mine

-- part: MjLaw15
namespace Mine

section
variable {prog : Program} {w : World} {A : Around} {E : Value → Shared → Prop} {s : Shared} {L fa : Addr} {m m' : Str → Option Value} {c : Nat → Option Value} {g : Heap} {mg mb : Str → Option Value}
  {spans : List (Int × Int)} {hitA : List Addr} {fS aA aK pg fR aS aE : Addr} {rowV : Value} {tups : Array Value} {xs xs' ys es : Array Value} {ch : List Nat}

theorem FS.updM {s s' : Shared} {v : Option Value} (x : FS L aA aK g s.heap m c xs ys) (U : Upd [L, L + 4, aA] s s') (h1 : s'.heap.Ns L m') (h2 : s'.heap.IsCell (L + 4) v) (h3 : s'.heap.PlainList aA xs') : FS L aA aK g s'.heap m' (fun j => if j = 4 then v else c j) xs' ys := by
  obtain ⟨p1, e1⟩ := x.t1
  obtain ⟨p2, e2⟩ := x.t2
  have C4 := x.cell 4 (.inr (.inr rfl))
  have n3 : ∀ {b : Addr}, b ≠ L → b ≠ L + 4 → b ≠ aA → b ∉ [L, L + 4, aA] := fun a b d z => by
    rcases List.mem_cons.mp z with z | z
    · exact a z
    · rcases List.mem_cons.mp z with z | z
      · exact b z
      · rcases List.mem_cons.mp z with z | z
        · exact d z
        · cases z
  refine ⟨h1, fun i hi => ?_, ⟨p1, U.keep (n3 (ns_ne_tab x.ns e1).symm (cell_ne_tab C4 e1).symm (pl_ne_tab x.pa.isList e1).symm) e1⟩, ⟨p2, U.keep (n3 (ns_ne_tab x.ns e2).symm (cell_ne_tab C4 e2).symm (pl_ne_tab x.pa.isList e2).symm) e2⟩, h3,
    x.pk.at fun o e => U.keep (n3 (pl_ne_ns x.pk.isList x.ns) (pl_ne_cell x.pk.isList C4) x.ne.symm) e, x.ne, U.ghost (fun b hb => ?_) x.sub, x.out⟩
  · by_cases h4 : i = 4
    · subst h4; exact h2
    · rw [if_neg h4]
      have Ci := x.cell i hi
      exact cell_at Ci fun o e => U.keep (n3 (cell_ne_ns Ci x.ns) (fun z => h4 (Nat.add_left_cancel z)) (pl_ne_cell x.pa.isList Ci).symm) e
  · rcases List.mem_cons.mp hb with rfl | hb
    · exact x.out _ X1_L
    · rcases List.mem_cons.mp hb with rfl | hb
      · exact x.out _ (X1_c (.inr (.inr rfl)))
      · rcases List.mem_cons.mp hb with rfl | hb
        · exact x.out _ X1_A
        · cases hb

/-- for col in range(-1, 26): .. -/
theorem law_s14 {Q : Flow → Shared → Prop} (F : FS L aA aK g s.heap m c xs (keptV hitA ch)) (Z : Frz g L spans hitA fS aA pg fR aS rowV tups mg mb) (hf : Fine spans) (hc : Chain spans none ch) (hch : ch.length ≤ 24) (hsz : xs.size ≤ 1000)
    (hE : g.IsList aE es) (hes : EndsAre spans ch es ch.length) (hh : A.handled = none) (hroom : A.depth + 1 < recursionLimit) (hu : A.units + 64 < cLine) (hm : K3 m pg aK aE)
    (hQ : ∀ s' m' c' xs', Upd [L, L + 4, aA] s s' → FS L aA aK g s'.heap m' c' xs' (keptV hitA ch) → Q .next s') :
    wpAny (model prog w) A (exec colS (lawEnv L fa)) Q E s := by
  refine wpAny_For ?_
  refine wpAny_Call_NameR (name_global rfl rfl (Z.gr.ns.keeps F.sub) Z.gr.g1 (Z.gr.nb.keeps F.sub) Z.gr.b1 ?_)
  refine PySem.callWith_type rfl (evalArgs_items ?_)
  refine wpAny_items_cons ?_
  refine wpAny_UnaryOp ?_
  refine wpAny_Constant_int ?_
  refine PyProof.Rows.neg_int ?_
  refine wpAny_items_cons (wpAny_Constant_int ?_)
  refine wpAny_items_nil ?_
  dsimp only
  refine call_range_2 ?_
  have hk1 : ∀ b o, s.heap.get? b = some o → (s.heap.push { cls := .type "range", data := .fields #[.int (-1) (s.toks + 1), .int 26 (s.toks + 1 + 1), .int 1 (s.toks + 1 + 1 + 1)] }).get? b = some o := fun b o e => Heap.get?_push_of_some _ e
  refine range_for (X := [L, L + 4, aA]) (s₁ := s) (n := 27) (a := -1) (b := 26) hh (IsRange.new ..) (by decide) (by decide) (by decide) (by decide) (by decide) ?_
    (fun i h => ∃ m' v xs', h.Ns L m' ∧ K3 m' pg aK aE ∧ h.IsCell (L + 4) v ∧ h.PlainList aA xs' ∧ xs'.size ≤ 1000) ?_ ?_ ?_ ?_ ?_ ?_
  · exact Upd.of0 hk1
  · rintro i h h' ⟨m', v, xs', h1, h2, h3, h4, h5⟩ k
    exact ⟨m', v, xs', h1.at' (k L (.head _)), h2, cell_at h3 (k _ (.tail _ (.head _))), h4.at (k _ (.tail _ (.tail _ (.head _)))), h5⟩
  · intro b hb
    simp only [Heap.size_push]
    refine Nat.lt_succ_of_lt (F.lt b ?_)
    rcases List.mem_cons.mp hb with rfl | hb
    · exact X1_L
    · rcases List.mem_cons.mp hb with rfl | hb
      · exact X1_c (.inr (.inr rfl))
      · rcases List.mem_cons.mp hb with rfl | hb
        · exact X1_A
        · cases hb
  · intro b o e
    simp only [Heap.size_push]; exact Nat.lt_succ_of_lt (Heap.lt_size e)
  · rintro i tk s₂ hi U ⟨m₂, v₂, xs₂, h1, h2, h3, h4, h5⟩ E'
    have F2 := F.updM U h1 h3 h4
    refine wpAny_assign_Name (wpAny_storeName_cell rfl rfl (c := L + 4) rfl h3 fun h₃ hc₃ hs₃ => ?_)
    have F3 : FS L aA aK g h₃ m₂ _ xs₂ (keptV hitA ch) := F2.setC (.inr (.inr rfl)) hs₃ hc₃
    have U3 : Upd [L + 4] s₂ { s₂ with heap := h₃ } := Upd.same (tk := s₂.toks) hs₃
    -- asked.clear()
    refine wpAny_execs_cons ?_
    refine law_clear (s := { s₂ with heap := h₃ }) F3 Z (by omega) fun s₄ U4 F4 => ?_
    -- over
    refine wpAny_execs_cons ?_
    refine law_over (col := -1 + (i : Int)) (tc := tk) F4 h2.2.2 hE hes hch hh rfl fun s₅ D vs U5 F5 p5 i5 => ?_
    have F5' := F5.fresh
    have Z5 := Z.grow F5.freshSub (hideAll_none _ X1_A)
    have hov : (over spans ch (-1 + (i : Int))).length ≤ ch.length := over_len_le
    -- is not
    refine wpAny_execs_cons (wpAny_If ?_)
    refine law_is (col := -1 + (i : Int)) (tc := tk) (D := D) (vs := vs) F5' Z5 hf hc hch hh hroom rfl h2.1 h2.2.1 rfl p5.isList i5 fun s₆ ts U6 F6 a6 => ?_
    rw [if_neg Bool.false_ne_true]
    refine wpAny_execs_nil ?_
    -- asked !=
    refine wpAny_execs_cons (wpAny_If ?_)
    refine law_ne (D := D) (vs := vs) (ts := ts) F6 Z5 hh hu rfl p5 i5 (by omega) a6 fun s₇ U7 => ?_
    rw [if_neg Bool.false_ne_true]
    refine wpAny_execs_nil ?_
    refine wpAny_execs_nil ?_
    have F7 := F6.upd0 U7
    have hts : ts.length ≤ 25 := by rw [a6.length]; simp; omega
    refine ⟨?_, _, _, _, F7.ns, ⟨h2.1, h2.2.1, h2.2.2⟩, F7.cell 4 (.inr (.inr rfl)), F7.pa, by simp; omega⟩
    have s1 : ∀ b ∈ [L + 4], b ∈ [L, L + 4, aA] := fun b hb => .tail _ (sub1 b hb)
    have s2 : ∀ b ∈ [aA], b ∈ [L, L + 4, aA] := fun b hb => .tail _ (.tail _ hb)
    exact ((((U3.mono s1).trans (U4.mono s2)).trans (U5.mono sub1)).trans (U6.mono s2)).trans (U7.mono fun b hb => by cases hb)
  · rintro s₂ U ⟨m₂, v₂, xs₂, h1, h2, h3, h4, h5⟩
    exact hQ s₂ m₂ _ xs₂ U (F.updM U h1 h3 h4)
  · exact ⟨m, _, xs, F.ns.push _, hm, (F.cell 4 (.inr (.inr rfl))).keeps hk1, F.pa.at fun o e => hk1 _ o e, hsz⟩
end
end Mine

-- part: MjLaw16
namespace Mine

theorem Upd.same' {X : List Addr} {s s' : Shared} (U : Upd X s s') : ∃ h tk, s' = { s with heap := h, toks := tk } := let ⟨h, tk, e, _⟩ := U; ⟨h, tk, e⟩
theorem same_trans {s s' s'' : Shared} (x : ∃ h tk, s' = { s with heap := h, toks := tk }) (y : ∃ h tk, s'' = { s' with heap := h, toks := tk }) : ∃ h tk, s'' = { s with heap := h, toks := tk } := by
  obtain ⟨h, tk, rfl⟩ := x
  obtain ⟨h', tk', rfl⟩ := y
  exact ⟨h', tk', rfl⟩

section
variable {prog : Program} {w : World} {A : Around} {E : Value → Shared → Prop} {s : Shared} {L fa : Addr} {m : Str → Option Value} {c : Nat → Option Value} {g : Heap} {mg mb : Str → Option Value}

/-- the law's body: it ends and returns True -/
theorem law_body {Q : Flow → Shared → Prop} {a fH fR : Addr} {q : Str} {vs : List Value} {ns : List Int} (hh : A.handled = none) (hroom : A.depth + 1 < recursionLimit) (hu : A.units + 64 < cLine) (S : LS L s.heap m c #[] #[]) (G : Gr g mg mb) (H : HitFnAt g fH q) (R : SrAt g fR)
    (hmH : mg "_law_hit" = some (.ref fH)) (hmR : mg "search_reverse" = some (.ref fR)) (k : ∀ b o, g.get? b = some o → s.heap.get? b = some o) (out : ∀ b ∈ X0 L, g.get? b = none)
    (hl : g.IsList a vs.toArray) (hi : IntsAre vs ns) (hn : ns.length ≤ 63) (hm : m "script" = some (.ref a))
    (hQ : ∀ s' m', (∃ h tk, s' = { s with heap := h, toks := tk }) → (∀ b o, g.get? b = some o → s'.heap.get? b = some o) → s'.heap.Ns L m' → (∃ ps, s'.heap.get? 23 = some (tabObj ps)) → (∃ ps, s'.heap.get? 30 = some (tabObj ps)) → Q (.ret (.bool true)) s') :
    wpAny (model prog w) A (execs (stBody lawS) (lawEnv L fa)) Q E s := by
  have hroom' : A.depth < recursionLimit := by omega
  have hf := fine_spansOf ns
  obtain ⟨ch, hc, hch⟩ := chain_exists hf
  show wpAny _ _ (execs ((stBody lawS).take 9 ++ (stBody lawS).drop 9) (lawEnv L fa)) _ _ _
  refine law_build hh hroom' S G H R hmH hmR k out hl hi hn hm fun s1 g1 hitA fS aA aK pg aS rowV tups m1 c1 U1 Z1 F1 k1 mp mk => ?_
  -- told
  refine wpAny_execs_cons ?_
  refine law_s9 F1 Z1 hf hc hch hh hroom mp fun s2 xs2 U2 F2 hx2 => ?_
  -- while
  refine wpAny_execs_cons ?_
  refine law_s10 F2 Z1 hf hc hch hx2 hh hroom mp mk rfl fun s3 m3 xs3 U3 F3 mp3 mk3 hx3 => ?_
  -- ends
  refine wpAny_execs_cons ?_
  refine law_s11 F3 Z1 hc hch hh hroom' mk3 fun s4 aE es U4 F4 lE he => ?_
  have F4' := F4.fresh
  have Z4 := Z1.grow F4.freshSub (hideAll_none _ X1_A)
  have k4 : ∀ b o, g.get? b = some o → (hideAll s4.heap (X1 L aA aK)).get? b = some o := fun b o e => F4.freshSub b o (k1 b o e)
  -- the first check
  refine wpAny_execs_cons ?_
  refine law_s12 F4' Z4 hf hc hch lE he hh hroom' ⟨mp3, mk3, rfl⟩ fun s5 m5 U5 F5 K5 => ?_
  -- the second check
  refine wpAny_execs_cons ?_
  refine law_s13 F5 Z4 hc hch lE he hh hu K5.2.2 fun s6 c6 U6 F6 => ?_
  -- the third check
  refine wpAny_execs_cons ?_
  refine law_s14 F6 Z4 hf hc hch hx3 lE he hh hroom hu K5 fun s7 m7 c7 xs7 U7 F7 => ?_
  -- return True
  refine wpAny_execs_cons (wpAny_Return_some (wpAny_Constant_bool ?_))
  refine hQ s7 m7 ?_ (fun b o e => F7.sub b o (k4 b o e)) F7.ns F7.t1 F7.t2
  exact same_trans (same_trans (same_trans (same_trans (same_trans (same_trans U1.same' U2.same') U3.same') U4.same') U5.same') U6.same') U7.same'
end
end Mine

-- part: MjTop
namespace Mine
set_option maxRecDepth 100000 in
set_option maxHeartbeats 8000000 in
open_top hd for PySem.Challenge.rw_mj0023_01
end Mine

-- part: MjFin
namespace Mine

theorem ground {P : Params} {p : Program} {loose : List Str} {mean : ExcName → Option Value} {g : Heap} {mg mb : Str → Option Value} (X : (hd.heap_39 P).In g) (T : Top p loose mean mg mb g) (c1 : CodeHd g 27 23) (c2 : CodeHd g 32 30) (n1 : g.get? 23 = none) (n2 : g.get? 30 = none) : Gr g mg mb := by
  have bat : ∀ Pt : Addr, g.get? Pt = none → g.BuiltinsAt mg Pt := fun Pt hn => by
    obtain ⟨bm, ob, b1, b2, b3, b4, b5, b6⟩ := T.bmain
    have hbP : bm ≠ Pt := fun q => by rw [q, hn] at b3; cases b3
    have hbG : bm ≠ mainGlobals := fun q => by
      obtain ⟨o, es, ep, e, hd, _⟩ := T.g
      rw [q, e] at b3; cases b3; rw [hd] at b6; cases b6
    exact ⟨bm, ob, b1, b2, hbG, hbP, b3, b4, b5, b6⟩
  exact {
    lim := T.nolimit
    ns := T.g
    nb := T.b
    b23 := bat _ n1
    b30 := bat _ n2
    c27 := c1
    c32 := c2
    g1 := mg_none_of X T.g (by kernel_rfl)
    g2 := mg_none_of X T.g (by kernel_rfl)
    b1 := (T.builtins _ (by decide)).trans (by boot_fast)
    b2 := (T.builtins _ (by decide)).trans (by boot_fast) }

theorem hit_at {P : Params} {g : Heap} (X : (hd.heap_39 P).In g) : HitFnAt g 28 "_law_hit" :=
  ⟨_, _, _, _, _, _, _, X _ _ (by rfl), codeRec_of X (by kernel_rfl)⟩
theorem sr_at {P : Params} {g : Heap} (X : (hd.heap_39 P).In g) : SrAt g 21 :=
  ⟨"search_reverse", _, _, _, _, _, _, _, _, X _ _ (by rfl), codeRec_of X (by kernel_rfl)⟩
end Mine

-- part: MjFin2
namespace Mine
set_option maxHeartbeats 8000000 in
theorem whole : PySem.Challenge.rw_mj0023_01.Holds := hd (by
  k_go0
  all_goals (try k_fold)
  rename Frag.In _ _ => X'
  rename Top topProg _ _ _ _ _ => T'
  rename Fr _ _ _ _ => F'
  rename News _ _ _ _ => N'
  rename CodeHd _ (27, 23).1 _ => C1
  rename CodeHd _ (32, 30).1 _ => C2
  rename Heap.IsList (ghostOf _ _) _ _ => hl
  rename IntsAre _ _ => hI
  rename ¬ _ < _ => hlen
  rename _ = (#[] : Array GenState) => hgens
  rename _ ∧ _ => l0
  have G := ground X' T' C1 C2 (N' (23, tabObj #[]) (by k_mem)).2.2 (N' (30, tabObj #[]) (by k_mem)).2.2
  have hc : ∀ (x : Addr) (o : Obj) (v : Option Value), o.data = .cell v → (x, o) ∈ _ → Heap.IsCell _ x v := fun x o v hd hm => ⟨o, (N' (x, o) hm).1, hd⟩
  refine law_body (q := "_law_hit") (fH := 28) (fR := 21) (c := fun _ => none) (m := _) rfl ?_ ?_ ⟨F'.ns, ?cells, (N' (23, tabObj #[]) (by k_mem)).1, (N' (30, tabObj #[]) (by k_mem)).1⟩ G (hit_at X') (sr_at X') (mg_of X' T'.g (by kernel_rfl)) (mg_of X' T'.g (by kernel_rfl)) F'.keep ?out hl hI ?_ ?_ ?_
  case cells =>
    intro i i1 i7
    match i, i1, i7 with
    | 1, _, _ => exact hc _ _ _ ‹Obj.data _ = .cell (bindC _ _ _ "first")› (by k_mem)
    | 2, _, _ => exact hc _ _ _ ‹Obj.data _ = .cell (bindC _ _ _ "behind")› (by k_mem)
    | 3, _, _ => exact hc _ _ _ ‹Obj.data _ = .cell (bindC _ _ _ "row")› (by k_mem)
    | 4, _, _ => exact hc _ _ _ ‹Obj.data _ = .cell (bindC _ _ _ "col")› (by k_mem)
    | 5, _, _ => exact hc _ _ _ ‹Obj.data _ = .cell (bindC _ _ _ "asked")› (by k_mem)
    | 6, _, _ => exact hc _ _ _ ‹Obj.data _ = .cell (bindC _ _ _ "hits")› (by k_mem)
    | 7, _, _ => exact hc _ _ _ ‹Obj.data _ = .cell (bindC _ _ _ "spans")› (by k_mem)
  case out =>
    intro b hb
    rcases mem_X0.mp hb with rfl | ⟨i, _, _, rfl⟩ | rfl | rfl
    · exact Heap.get?_none_of_le F'.above
    · exact Heap.get?_none_of_le (Nat.le_trans F'.above (Nat.le_add_right _ _))
    · exact (N' (23, tabObj #[]) (by k_mem)).2.2
    · exact (N' (30, tabObj #[]) (by k_mem)).2.2
  · exact (by decide +kernel : 301 + 1 + 1 < recursionLimit)
  · exact (by decide +kernel : 4 + 3 + 64 < cLine)
  · omega
  · rfl
  · rintro s' m' ⟨h, tk, rfl⟩ k n ⟨ps, e1⟩ ⟨qs, e2⟩
    refine ⟨goodW_bool ⟨n, k, F'.above⟩ hgens ?_ ?_, ⟨ps, e1⟩, ⟨qs, e2⟩, trivial⟩
    · exact fun _ => rfl
    · wrow_post)
end Mine

theorem PySem.Challenge.cw_mj0023_01_holds : PySem.Challenge.rw_mj0023_01.Holds :=
  Mine.whole
