import PyProof.Rows.All
import Wide.All
import OpenK.AllK
import Wide.FinOn
import KE.KItem
import PyProof.ExcClass
import KE.KDictIter
import PyProof.RulesRaise
import PyProof.ExcFactsAll.TypeError
import PyProof.ExcBaseAll.ValueError
import KE.KLam
import PyProof.RulesFinally
import PyProof.Draws
import PyProof.ZipIter
import KE.KNest
import PyProof.ListCopy
import PyProof.ListRange
import PyProof.CompUse
import Lean
import PySem.Challenge.RW_mq0331_03
set_option Elab.async false
noncomputable section
open PySem PySem.W PyProof.Rows
set_option Elab.async false
namespace Mine
set_option maxRecDepth 100000
set_option maxHeartbeats 8000000
noncomputable def view3 : Program :=
  { PySem.Challenge.pw_mq0331_03 with main := { PySem.Challenge.pw_mq0331_03.main with body := PySem.Challenge.pw_mq0331_03.main.body.take 1 ++ ((PySem.Challenge.pw_mq0331_03.main.body.drop 2).take 5 ++ ((PySem.Challenge.pw_mq0331_03.main.body.drop 8).take 1 ++ PySem.Challenge.pw_mq0331_03.main.body.drop 11)) } }
local macro_rules
  | `(tactic| o_law) => `(tactic| (refine holds_law (by decide +kernel) fun said => ?_))
local macro_rules
  | `(tactic| o_head $H) => `(tactic| (refine holds_open (q := view3) (loose := [Str.ofString "_NodeInfo", Str.ofString "_initial_missing", Str.ofString "reduce"]) (Xt := fun s => xlAt view3 [] s && recOk (RowW.records (OpenRow.toRowW (OpenLaw.row PySem.Challenge.rw_mq0331_03))) s) (XP := XL view3 []) (Yf := Hook.obs $H) (Ya := Hook.val $H) (YP := Hook.says $H) (N := 2684) ?hl (Hook.of $H) (Hook.keeps $H) (fun s e => xl_of s (Bool.and_eq_true_iff.mp e).1) XL.keeps (by rfl) (by rfl) (by rfl) (fun s e => recFacts_of (Bool.and_eq_true_iff.mp e).2) (by rfl) (by first | assumption | decide +kernel) (by decide +kernel) ⟨rfl, rfl, rfl, rfl, rfl, by decide +kernel⟩ ?hw ?hc; (case hl => (intro w; kernel_rfl))))
open_top hd03 for PySem.Challenge.rw_mq0331_03
end Mine
end
noncomputable section
open PySem PySem.W PyProof.Rows
set_option Elab.async false
namespace Mine

noncomputable abbrev Reg := Addr → Option Obj
noncomputable def Reg.le (R R' : Reg) : Prop := ∀ a o, R a = some o → R' a = some o
noncomputable def Reg.on (R : Reg) (h : Heap) : Prop := ∀ a o, R a = some o → h.get? a = some o
noncomputable def hle (h h' : Heap) : Prop := ∀ b o, h.get? b = some o → h'.get? b = some o
noncomputable def Reg.ext (R : Reg) (h h' : Heap) : Reg := fun a => match h.get? a with | some _ => R a | none => h'.get? a
theorem Reg.le.refl (R : Reg) : R.le R := fun _ _ e => e
theorem Reg.le.trans {R R' R'' : Reg} (x : R.le R') (y : R'.le R'') : R.le R'' := fun a o e => y a o (x a o e)
theorem hle.refl (h : Heap) : hle h h := fun _ _ e => e
theorem Reg.on.hle {R : Reg} {h h' : Heap} (x : R.on h) (y : hle h h') : R.on h' := fun a o e => y a o (x a o e)
theorem Reg.on.le {R R' : Reg} {h : Heap} (x : R'.on h) (y : R.le R') : R.on h := fun a o e => x a o (y a o e)
theorem Reg.ext_le {R : Reg} {h h' : Heap} (x : R.on h) : R.le (R.ext h h') := fun a o e => by
  simp only [Reg.ext, x a o e]; exact e
theorem Reg.ext_on {R : Reg} {h h' : Heap} (x : R.on h) (y : hle h h') : (R.ext h h').on h' := fun a o e => by
  simp only [Reg.ext] at e
  split at e
  · exact y a o (x a o e)
  · exact e
theorem Reg.ext_ext {R : Reg} {h h' h'' : Heap} (x : hle h h') (y : hle h' h'') : ((R.ext h h').ext h' h'').le (R.ext h h'') := fun a o e => by
  simp only [Reg.ext] at e ⊢
  cases e1 : h.get? a with
  | some o1 => rw [x a o1 e1] at e; simpa [e1] using e
  | none =>
    simp only [e1] at e
    split at e
    · exact y a o e
    · exact e
theorem Reg.ext_step {R : Reg} {h h' h'' : Heap} (x : hle h h') (y : hle h' h'') : (R.ext h h').le (R.ext h h'') := fun a o e => by
  simp only [Reg.ext] at e ⊢
  cases e1 : h.get? a with
  | some o1 => simpa [e1] using e
  | none => simp only [e1] at e; exact y a o e
theorem Reg.new_ext {R : Reg} {h h' : Heap} {a : Addr} {o : Obj} (e : h.get? a = none) (e' : h'.get? a = some o) : R.ext h h' a = some o := by
  simp only [Reg.ext, e]; exact e'

inductive Dat where
  | none
  | bool (b : Bool)
  | int (i : Int)
  | str (x : Str)
  | val (v : Value)
  | tup (ds : List Dat)
  | lst (ds : List Dat)
  | box (a : Addr) (vs : List Value) (ds : List Dat)
mutual
inductive Rd (R : Reg) : Value → Dat → Prop
  | none : Rd R .none .none
  | bool (b : Bool) : Rd R (.bool b) (.bool b)
  | int (i : Int) (t : Tok) : Rd R (.int i t) (.int i)
  | str (x : Str) (t : Tok) : Rd R (.str x t) (.str x)
  | val (v : Value) : Rd R v (.val v)
  | tup {a : Addr} {o : Obj} {vs : List Value} {n : Nat} {ds : List Dat} : R a = some o → o.cls = .type "tuple" → o.data = .seq vs.toArray n → RdAll R vs ds → Rd R (.ref a) (.tup ds)
  | lst {a : Addr} {o : Obj} {vs : List Value} {n : Nat} {ds : List Dat} : R a = some o → (o.cls = .type "list" ∧ o.dict = none) → o.data = .seq vs.toArray n → RdAll R vs ds → Rd R (.ref a) (.lst ds)
  | box {a : Addr} {vs : List Value} {ds : List Dat} : RdAll R vs ds → Rd R (.ref a) (.box a vs ds)
inductive RdAll (R : Reg) : List Value → List Dat → Prop
  | nil : RdAll R [] []
  | cons {v : Value} {vs : List Value} {d : Dat} {ds : List Dat} : Rd R v d → RdAll R vs ds → RdAll R (v :: vs) (d :: ds)
end
theorem Rd.mono {R R' : Reg} (hs : R.le R') {v : Value} {d : Dat} (h : Rd R v d) : Rd R' v d :=
  Rd.rec (motive_1 := fun v d _ => Rd R' v d) (motive_2 := fun vs ds _ => RdAll R' vs ds) .none .bool .int .str .val (fun h c e _ r => .tup (hs _ _ h) c e r) (fun h c e _ r => .lst (hs _ _ h) c e r) (fun _ r => .box r) .nil (fun _ _ h r => .cons h r) h
theorem RdAll.mono {R R' : Reg} (hs : R.le R') {vs : List Value} {ds : List Dat} (h : RdAll R vs ds) : RdAll R' vs ds := by
  induction vs generalizing ds with
  | nil => cases h; exact .nil
  | cons v vs ih =>
    cases h with
    | cons h r => exact .cons (h.mono hs) (ih r)
theorem oNS {α : Type} {b : α} (h : (none : Option α) = some b) : False := by cases h
theorem oSN {α : Type} {b : α} (h : some b = (none : Option α)) : False := by cases h
theorem oSS {α : Type} {a b : α} (h : some a = some b) : a = b := Option.some.inj h
theorem vRR {a b : Addr} (h : Value.ref a = Value.ref b) : a = b := by cases h; rfl
theorem Rd.valE {R : Reg} {v w : Value} (h : Rd R v (.val w)) : w = v := by cases h; rfl
theorem Rd.noneE {R : Reg} {v : Value} (h : Rd R v .none) : Value.none = v := by cases h; rfl
theorem Rd.boolE {R : Reg} {v : Value} {b : Bool} (h : Rd R v (.bool b)) : Value.bool b = v := by cases h; rfl
theorem Rd.intE {R : Reg} {v : Value} {i : Int} (h : Rd R v (.int i)) : ∃ t, Value.int i t = v := by cases h; exact ⟨_, rfl⟩
theorem Rd.strE {R : Reg} {v : Value} {x : Str} (h : Rd R v (.str x)) : ∃ t, Value.str x t = v := by cases h; exact ⟨_, rfl⟩
theorem RdAll.nilE {R : Reg} {vs : List Value} (h : RdAll R vs []) : [] = vs := by cases h; rfl
theorem RdAll.consE {R : Reg} {vs : List Value} {d : Dat} {ds : List Dat} (h : RdAll R vs (d :: ds)) : ∃ v ws, v :: ws = vs ∧ Rd R v d ∧ RdAll R ws ds := by
  cases h with
  | cons a b => exact ⟨_, _, rfl, a, b⟩
section
variable {R : Reg} {v : Value} {d : Dat} {vs ws : List Value} {ds es : List Dat}
theorem RdAll.length (h : RdAll R vs ds) : vs.length = ds.length := by
  induction vs generalizing ds with
  | nil => cases h; rfl
  | cons v vs ih =>
    cases h with
    | cons _ r => rw [List.length_cons, List.length_cons, ih r]
theorem RdAll.append (h : RdAll R vs ds) (k : RdAll R ws es) : RdAll R (vs ++ ws) (ds ++ es) := by
  induction vs generalizing ds with
  | nil => cases h; exact k
  | cons v vs ih =>
    cases h with
    | cons h r => exact .cons h (ih r)
theorem RdAll.get (h : RdAll R vs ds) {k : Nat} {d : Dat} (hk : ds[k]? = some d) : ∃ v, vs[k]? = some v ∧ Rd R v d := by
  induction vs generalizing ds k with
  | nil => cases h; (have q_ := oNS hk; clear hk; exact q_.elim)
  | cons v vs ih =>
    cases h with
    | cons h r =>
      cases k with
      | zero => (have q_ := oSS hk; clear hk; subst q_); exact ⟨v, rfl, h⟩
      | succ k => exact ih r hk
theorem RdAll.get' (h : RdAll R vs ds) {k : Nat} {v : Value} (hk : vs[k]? = some v) : ∃ d, ds[k]? = some d ∧ Rd R v d := by
  induction vs generalizing ds k with
  | nil => (have q_ := oNS hk; clear hk; exact q_.elim)
  | cons v vs ih =>
    cases h with
    | cons h r =>
      cases k with
      | zero => (have q_ := oSS hk; clear hk; subst q_); exact ⟨_, rfl, h⟩
      | succ k => exact ih r hk
theorem Rd.ints : ∀ {vs : List Value} {ns : List Int}, RdAll R vs (ns.map Dat.int) → IntsAre vs ns
  | _, [], h => by (have q_ := RdAll.nilE h; clear h; subst q_); exact .nil
  | _, n :: ns, h => by
    cases h with
    | cons h r => (have q_ := Rd.intE h; clear h; obtain ⟨_, rfl⟩ := q_); exact .cons _ _ (Rd.ints r)
theorem Rd.of_ints : ∀ {vs : List Value} {ns : List Int}, IntsAre vs ns → RdAll R vs (ns.map Dat.int)
  | _, _, .nil => .nil
  | _, _, .cons _ _ r => .cons (.int _ _) (Rd.of_ints r)
theorem Rd.isList {h : Heap} {a : Addr} (hR : R.on h) (x : Rd R (.ref a) (.lst ds)) : ∃ vs : List Value, h.IsList a vs.toArray ∧ RdAll R vs ds := by
  cases x with
  | lst e c hd r => exact ⟨_, ⟨_, hR _ _ e, c.1, _, hd⟩, r⟩
theorem Rd.isTuple {h : Heap} {a : Addr} (hR : R.on h) (x : Rd R (.ref a) (.tup ds)) : ∃ vs : List Value, h.IsTuple a vs.toArray ∧ RdAll R vs ds := by
  cases x with
  | tup e c hd r => exact ⟨_, ⟨_, hR _ _ e, c, _, hd⟩, r⟩
theorem Rd.lst_ref (x : Rd R v (.lst ds)) : ∃ a, v = .ref a := by cases x; exact ⟨_, rfl⟩
theorem Rd.tup_ref (x : Rd R v (.tup ds)) : ∃ a, v = .ref a := by cases x; exact ⟨_, rfl⟩
end

end Mine
end
noncomputable section
open PySem PySem.W PyProof.Rows
set_option Elab.async false
set_option autoImplicit false
namespace Mine

theorem Keeps.hle {s s' : Shared} (k : Keeps s s') : hle s.heap s'.heap := by
  obtain ⟨h', tk, rfl, e⟩ := k; exact e
theorem Keeps.rfl' (s : Shared) : Keeps s s := ⟨s.heap, s.toks, rfl, fun _ _ e => e⟩
theorem Keeps.tr {s s' s'' : Shared} (k : Keeps s s') (k' : Keeps s' s'') : Keeps s s'' := by
  obtain ⟨h', tk, rfl, e⟩ := k
  obtain ⟨h'', tk', rfl, e'⟩ := k'
  exact ⟨h'', tk', rfl, fun b o x => e' b o (e b o x)⟩
theorem Keeps.toks (s : Shared) (t : Nat) : Keeps s { s with toks := t } := ⟨s.heap, t, rfl, fun _ _ e => e⟩
theorem Keeps.push (s : Shared) (o : Obj) : Keeps s { s with heap := s.heap.push o } := ⟨_, s.toks, rfl, fun _ _ e => Heap.get?_push_of_some _ e⟩
theorem fresh_none {h : Heap} : h.get? h.objs.size = none := by
  cases e : h.get? h.objs.size with
  | none => rfl
  | some o => exact absurd (Heap.lt_size e) (Nat.lt_irrefl _)

noncomputable abbrev noM : Reg := fun _ => none
structure Cx where
  prog : Program
  w : World
  h₀ : Heap
  mu : Reg
noncomputable abbrev Cx.at (C : Cx) (mu : Reg) : Cx := { C with mu := mu }
noncomputable abbrev Cx.M (C : Cx) : Model := model C.prog C.w

structure Rok (C : Cx) (R : Reg) (h : Heap) : Prop where
  base : Reg.le C.h₀.get? R
  on : R.on h
  mu : C.mu.on h
theorem Rok.ext {C : Cx} {R : Reg} {h h' : Heap} (x : Rok C R h) (y : hle h h') : Rok C (R.ext h h') h' :=
  ⟨x.base.trans (Reg.ext_le x.on), Reg.ext_on x.on y, x.mu.hle y⟩
theorem Rok.nomu {C : Cx} {R : Reg} {h : Heap} (x : Rok C R h) : Rok (C.at noM) R h := ⟨x.base, x.on, fun _ _ e => nomatch e⟩
theorem Rok.hle0 {C : Cx} {R : Reg} {h : Heap} (x : Rok C R h) : hle C.h₀ h := fun a o e => x.on a o (x.base a o e)

structure Room (n : Nat) (A : Around) : Prop where
  handled : A.handled = none
  depth : A.depth + n ≤ 900
  units : A.units + 10 * n ≤ 9000
theorem Room.le {n k : Nat} {A : Around} (r : Room n A) (h : k ≤ n) : Room k A := ⟨r.handled, by have := r.depth; omega, by have := r.units; omega⟩
theorem Room.deeper {n : Nat} {A : Around} {env : Env} (r : Room (n + 1) A) : Room n (A.deeper env) :=
  ⟨r.handled, by have := r.depth; simp only [Around.deeper]; omega, by have := r.units; simp only [Around.deeper_units]; omega⟩
theorem Room.lt {n : Nat} {A : Around} (r : Room n A) : A.depth < recursionLimit := by have := r.depth; simp only [recursionLimit]; omega
theorem Room.ult {n : Nat} {A : Around} (r : Room n A) : A.units < cLine := by have := r.units; simp only [cLine]; omega
noncomputable def Post (s : Shared) (R : Reg) (d : Dat) : Value → Shared → Prop := fun v s' => Keeps s s' ∧ Rd (R.ext s.heap s'.heap) v d
theorem Post.step {s s₁ s₂ : Shared} {R : Reg} {d : Dat} {v : Value} (k : Keeps s s₁) (p : Post s₁ (R.ext s.heap s₁.heap) d v s₂) : Post s R d v s₂ :=
  ⟨Keeps.tr k p.1, p.2.mono (Reg.ext_ext (Keeps.hle k) (Keeps.hle p.1))⟩
theorem Post.pure {C : Cx} {s : Shared} {R : Reg} {d : Dat} {v : Value} (x : Rok C R s.heap) (h : Rd R v d) : Post s R d v s := ⟨Keeps.rfl' s, h.mono (Reg.ext_le x.on)⟩

noncomputable abbrev NoE : Value → Shared → Prop := fun _ _ => False
theorem noE {α : Type} {M : Model} {A : Around} {t : Sem α} {Q Q' : α → Shared → Prop} {E : Value → Shared → Prop} {s : Shared} (h : wpAny M A t Q NoE s) (hQ : ∀ a s', Q a s' → Q' a s') : wpAny M A t Q' E s :=
  wpAny_mono h hQ fun _ _ f => f.elim

noncomputable def Var (env : Env) (h : Heap) (x : Str) (v : Value) : Prop :=
  (env.kindOf x = some .local ∧ ∃ m, h.Ns env.locals m ∧ m x = some v) ∨
  (env.kindOf x = some .cell ∧ ∃ c, env.cells.lookup x = some c ∧ h.IsCell c (some v)) ∨
  (env.kindOf x = some .free ∧ ∃ c, env.cells.lookup x = some c ∧ h.IsCell c (some v))
theorem Var.keeps {env : Env} {h h' : Heap} {x : Str} {v : Value} (y : Var env h x v) (k : hle h h') : Var env h' x v := by
  rcases y with ⟨a, m, b, c⟩ | ⟨a, c, b, d⟩ | ⟨a, c, b, d⟩
  · exact .inl ⟨a, m, b.keeps k, c⟩
  · exact .inr (.inl ⟨a, c, b, d.keeps k⟩)
  · exact .inr (.inr ⟨a, c, b, d.keeps k⟩)

noncomputable abbrev Vars := Str → Option Dat
structure EnvOk (sc : Scope) (env : Env) (h : Heap) (R : Reg) (Δ : Vars) : Prop where
  hsc : env.scope = sc
  fn : sc.kind = .function
  gl : env.globals = mainGlobals
  bl : env.builtins = builtinsNs
  vars : ∀ x d, Δ x = some d → ∃ v, Var env h x v ∧ Rd R v d
theorem EnvOk.keeps {sc : Scope} {env : Env} {h h' : Heap} {R R' : Reg} {Δ : Vars} (x : EnvOk sc env h R Δ) (k : hle h h') (l : R.le R') : EnvOk sc env h' R' Δ :=
  ⟨x.hsc, x.fn, x.gl, x.bl, fun y d e => let ⟨v, a, b⟩ := x.vars y d e; ⟨v, a.keeps k, b.mono l⟩⟩
theorem EnvOk.ext {C : Cx} {sc : Scope} {env : Env} {h h' : Heap} {R : Reg} {Δ : Vars} (x : EnvOk sc env h R Δ) (r : Rok C R h) (k : hle h h') : EnvOk sc env h' (R.ext h h') Δ := x.keeps k (Reg.ext_le r.on)

noncomputable def Ev (C : Cx) (n : Nat) (sc : Scope) (Δ : Vars) (e : Expr) (d : Dat) : Prop :=
  ∀ A env s R, Room n A → Rok C R s.heap → EnvOk sc env s.heap R Δ → wpAny C.M A (eval e env) (Post s R d) NoE s
noncomputable def EvT (C : Cx) (n : Nat) (sc : Scope) (Δ : Vars) (e : Expr) (b : Bool) : Prop :=
  ∀ A env s R, Room n A → Rok C R s.heap → EnvOk sc env s.heap R Δ → wpAny C.M A (isTrue e env (eval e env)) (fun c s' => Keeps s s' ∧ c = b) NoE s
noncomputable def Op2 (C : Cx) (n : Nat) (t : Value → Value → Sem Value) (d₁ d₂ d : Dat) : Prop :=
  ∀ A s R v₁ v₂, Room n A → Rok C R s.heap → Rd R v₁ d₁ → Rd R v₂ d₂ → wpAny C.M A (t v₁ v₂) (Post s R d) NoE s
noncomputable def Op1 (C : Cx) (n : Nat) (t : Value → Sem Value) (d₁ d : Dat) : Prop :=
  ∀ A s R v₁, Room n A → Rok C R s.heap → Rd R v₁ d₁ → wpAny C.M A (t v₁) (Post s R d) NoE s

section
variable {C : Cx} {n : Nat} {sc : Scope} {Δ : Vars}

theorem wpAny_var {A : Around} {E : Value → Shared → Prop} {s : Shared} {env : Env} {x : Str} {v : Value} {Q : Value → Shared → Prop} (hk : env.scope.kind = .function) (h : Var env s.heap x v) (hQ : Q v s) (hn : (x == ("__classdict__" : Str)) = false) :
    wpAny C.M A (loadName env x) Q E s := by
  rcases h with ⟨a, m, b, c⟩ | ⟨a, c, b, d⟩ | ⟨a, c, b, d⟩
  · exact wpAny_loadName_local hk a b c hQ
  · exact wpAny_loadName_cell hk a b d hQ
  · exact wpAny_loadName_free hk a b d hQ hn

theorem ev_name {x : Str} {p : Pos} {d : Dat} (h : Δ x = some d) (hx : ((x == ("__debug__" : Str)) || (x == ("__classdict__" : Str))) = false := by decide +kernel) : Ev C n sc Δ (.Name x p) d := by
  intro A env s R r ro eo
  obtain ⟨v, hv, hd⟩ := eo.vars x d h
  obtain ⟨h1, h2⟩ := Bool.or_eq_false_iff.mp hx
  exact wpAny_Name (wpAny_var (eo.hsc ▸ eo.fn) hv (Post.pure ro hd) h2) h1

noncomputable def GlobIs (C : Cx) (x : Str) (v : Value) : Prop :=
  ∀ A env s (Q : Value → Shared → Prop) E, env.scope.kind = .function → env.kindOf x = some .globalImplicit → env.globals = mainGlobals → env.builtins = builtinsNs → hle C.h₀ s.heap → Q v s → wpAny C.M A (loadName env x) Q E s
theorem ev_glob {x : Str} {p : Pos} {v : Value} (g : GlobIs C x v) (hk : sc.names.lookup x = some .globalImplicit) (hx : (x == ("__debug__" : Str)) = false := by decide +kernel) : Ev C n sc Δ (.Name x p) (.val v) := by
  intro A env s R r ro eo
  exact wpAny_Name (g A env s _ _ (eo.hsc ▸ eo.fn) (by rw [← eo.hsc] at hk; exact hk) eo.gl eo.bl ro.hle0 (Post.pure ro (.val v))) hx

theorem ev_int {i : Int} {k : Nat} {p : Pos} : Ev C n sc Δ (.Constant (.int i) k p) (.int i) := by
  intro A env s R r ro eo
  exact wpAny_Constant_int ⟨Keeps.toks _ _, .int _ _⟩
theorem ev_none {k : Nat} {p : Pos} : Ev C n sc Δ (.Constant .none k p) .none := by
  intro A env s R r ro eo
  exact wpAny_Constant_none ⟨Keeps.rfl' _, .none⟩
theorem ev_bool {b : Bool} {k : Nat} {p : Pos} : Ev C n sc Δ (.Constant (.bool b) k p) (.bool b) := by
  intro A env s R r ro eo
  exact wpAny_Constant_bool ⟨Keeps.rfl' _, .bool _⟩
theorem ev_str {x : Str} {k : Nat} {p : Pos} : Ev C n sc Δ (.Constant (.str x) k p) (.str x) := by
  intro A env s R r ro eo
  exact wpAny_Constant_str ⟨Keeps.toks _ _, .str _ _⟩

theorem ev2 {l r : Expr} {d₁ d₂ d : Dat} {t : Value → Value → Sem Value} {A : Around} {env : Env} {s : Shared} {R : Reg} (h₁ : Ev C n sc Δ l d₁) (h₂ : Ev C n sc Δ r d₂) (ho : Op2 C n t d₁ d₂ d)
    (rm : Room n A) (ro : Rok C R s.heap) (eo : EnvOk sc env s.heap R Δ) :
    wpAny C.M A (eval l env) (fun a s₁ => wpAny C.M A (eval r env) (fun b s₂ => wpAny C.M A (t a b) (Post s R d) NoE s₂) NoE s₁) NoE s := by
  refine noE (h₁ A env s R rm ro eo) fun a s₁ p₁ => ?_
  have k₁ := Keeps.hle p₁.1
  refine noE (h₂ A env s₁ _ rm (ro.ext k₁) (eo.ext ro k₁)) fun b s₂ p₂ => ?_
  have p₂' := Post.step p₁.1 p₂
  have k₂ := Keeps.hle p₂'.1
  refine noE (ho A s₂ _ a b rm (ro.ext k₂) (p₁.2.mono (Reg.ext_step k₁ (Keeps.hle p₂.1))) p₂'.2) fun v s₃ p₃ => Post.step p₂'.1 p₃

theorem ev_bin {l r : Expr} {op : Operator} {p : Pos} {d₁ d₂ d : Dat} (h₁ : Ev C n sc Δ l d₁) (h₂ : Ev C n sc Δ r d₂) (ho : Op2 C n (binaryOp op) d₁ d₂ d) : Ev C n sc Δ (.BinOp l op r p) d := by
  intro A env s R rm ro eo
  exact wpAny_BinOp (ev2 h₁ h₂ ho rm ro eo)
theorem ev_cmp {l r : Expr} {op : CmpOp} {p : Pos} {d₁ d₂ d : Dat} (h₁ : Ev C n sc Δ l d₁) (h₂ : Ev C n sc Δ r d₂) (ho : Op2 C n (compareOp op) d₁ d₂ d) (hm : behindInMarks op r = false := by rfl) : Ev C n sc Δ (.Compare l [op] [r] p) d := by
  intro A env s R rm ro eo
  exact wpAny_Compare1 (ev2 h₁ h₂ ho rm ro eo) hm
theorem evT_cmp {l r : Expr} {op : CmpOp} {p : Pos} {d₁ d₂ : Dat} {b : Bool} (h₁ : Ev C n sc Δ l d₁) (h₂ : Ev C n sc Δ r d₂) (ho : Op2 C n (compareOp op) d₁ d₂ (.bool b)) (hm : behindInMarks op r = false := by rfl) : EvT C n sc Δ (.Compare l [op] [r] p) b := by
  intro A env s R rm ro eo
  refine wpAny_isTrue_Compare1 (wpAny_mono (ev2 h₁ h₂ ho rm ro eo) (fun a s₁ q => wpAny_mono q (fun a₂ s₂ q₂ => wpAny_mono q₂ (fun v s₃ q₃ => ?_) fun _ _ f => f) fun _ _ f => f) fun _ _ f => f) hm
  obtain ⟨k, hr⟩ := q₃
  (have q_ := Rd.boolE hr; clear hr; subst q_)
  exact wpAny_truthy_bool ⟨k, rfl⟩
theorem ev_un {x : Expr} {op : UnaryOp} {p : Pos} {d₁ d : Dat} (h₁ : Ev C n sc Δ x d₁) (ho : Op1 C n (unaryOp op) d₁ d) : Ev C n sc Δ (.UnaryOp op x p) d := by
  intro A env s R rm ro eo
  refine wpAny_UnaryOp (noE (h₁ A env s R rm ro eo) fun a s₁ p₁ => ?_)
  have k₁ := Keeps.hle p₁.1
  exact noE (ho A s₁ _ a rm (ro.ext k₁) p₁.2) fun v s₃ p₃ => Post.step p₁.1 p₃
theorem evT_plain {e : Expr} {d : Dat} {b : Bool} (h : Ev C n sc Δ e d) (ht : ∀ A s R v, Room n A → Rok C R s.heap → Rd R v d → wpAny C.M A (truthy v) (fun c s' => Keeps s s' ∧ c = b) NoE s)
    (he : ∀ env whole, isTrue e env whole = (do let v ← whole; standAt e.pos; holding [v] (truthy v)) := by intro _ _; rfl) : EvT C n sc Δ e b := by
  intro A env s R rm ro eo
  refine wpAny_isTrue_value (noE (h A env s R rm ro eo) fun a s₁ p₁ => ?_) (he _ _)
  have k₁ := Keeps.hle p₁.1
  exact noE (ht A s₁ _ a rm (ro.ext k₁) p₁.2) fun v s₃ p₃ => ⟨Keeps.tr p₁.1 p₃.1, p₃.2⟩
theorem ev_ifexp {t a b : Expr} {p : Pos} {c : Bool} {d : Dat} (ht : EvT C n sc Δ t c) (ha : c = true → Ev C n sc Δ a d) (hb : c = false → Ev C n sc Δ b d) : Ev C n sc Δ (.IfExp t a b p) d := by
  intro A env s R rm ro eo
  refine wpAny_IfExp (noE (ht A env s R rm ro eo) fun c' s₁ p₁ => ?_)
  have k₁ := Keeps.hle p₁.1
  have e := p₁.2
  subst e
  cases c' with
  | true => exact noE (ha rfl A env s₁ _ rm (ro.ext k₁) (eo.ext ro k₁)) fun v s₃ p₃ => Post.step p₁.1 p₃
  | false => exact noE (hb rfl A env s₁ _ rm (ro.ext k₁) (eo.ext ro k₁)) fun v s₃ p₃ => Post.step p₁.1 p₃
end

section
variable {C : Cx} {n : Nat} {a b : Int}
theorem Op2.ofInt {t : Value → Value → Sem Value} {c : Int} (h : ∀ A s t₁ t₂ Q, Room n A → hle C.h₀ s.heap → Q (.int c s.toks) { s with toks := s.toks + 1 } → wpAny C.M A (t (.int a t₁) (.int b t₂)) Q NoE s) : Op2 C n t (.int a) (.int b) (.int c) := by
  intro A s R v₁ v₂ rm ro h₁ h₂
  (have q_ := Rd.intE h₁; clear h₁; obtain ⟨_, rfl⟩ := q_); (have q_ := Rd.intE h₂; clear h₂; obtain ⟨_, rfl⟩ := q_)
  exact h A s _ _ _ rm ro.hle0 ⟨Keeps.toks _ _, .int _ _⟩
theorem Op2.ofBool {t : Value → Value → Sem Value} {c : Bool} (h : ∀ A s t₁ t₂ Q, Q (.bool c) s → wpAny C.M A (t (.int a t₁) (.int b t₂)) Q NoE s) : Op2 C n t (.int a) (.int b) (.bool c) := by
  intro A s R v₁ v₂ rm ro h₁ h₂
  (have q_ := Rd.intE h₁; clear h₁; obtain ⟨_, rfl⟩ := q_); (have q_ := Rd.intE h₂; clear h₂; obtain ⟨_, rfl⟩ := q_)
  exact h A s _ _ _ ⟨Keeps.rfl' _, .bool _⟩
theorem op_add : Op2 C n (binaryOp .Add) (.int a) (.int b) (.int (a + b)) := Op2.ofInt fun _ _ _ _ _ _ _ q => add_int q
theorem op_sub : Op2 C n (binaryOp .Sub) (.int a) (.int b) (.int (a - b)) := Op2.ofInt fun _ _ _ _ _ _ _ q => sub_int q
theorem op_mod (h : b ≠ 0) : Op2 C n (binaryOp .Mod) (.int a) (.int b) (.int (a.fmod b)) := Op2.ofInt fun _ _ _ _ _ _ _ q => mod_int' h q
theorem op_div (h : b ≠ 0) (hs : b.natAbs < 1073741824) : Op2 C n (binaryOp .FloorDiv) (.int a) (.int b) (.int (a.fdiv b)) := Op2.ofInt fun _ _ _ _ _ _ _ q => floordiv_int h q (Or.inl (PyProof.noPylong_small hs))
theorem op_iadd : Op2 C n (inplaceOp .Add) (.int a) (.int b) (.int (a + b)) := Op2.ofInt fun _ _ _ _ _ _ _ q => iadd_int q
theorem op_isub : Op2 C n (inplaceOp .Sub) (.int a) (.int b) (.int (a - b)) := Op2.ofInt fun _ _ _ _ _ _ _ q => isub_int q
theorem op_neg : Op1 C n (unaryOp .USub) (.int a) (.int (-a)) := by
  intro A s R v₁ rm ro h₁
  (have q_ := Rd.intE h₁; clear h₁; obtain ⟨_, rfl⟩ := q_)
  exact neg_int ⟨Keeps.toks _ _, .int _ _⟩
end
end Mine
end
noncomputable section
open PySem PySem.W PyProof.Rows PySem.SeqAt PySem.MeetsSeq
set_option Elab.async false
set_option autoImplicit false
namespace Mine

noncomputable def Plain : Nat → Dat → Prop
  | _, .none => True
  | _, .bool _ => True
  | _, .int _ => True
  | _, .str _ => True
  | k + 1, .tup ds => ∀ d ∈ ds, Plain k d
  | k + 1, .lst ds => ∀ d ∈ ds, Plain k d
  | _, _ => False
theorem RdAll.mem {R : Reg} {vs : List Value} {ds : List Dat} (h : RdAll R vs ds) {v : Value} (hv : v ∈ vs) : ∃ d ∈ ds, Rd R v d := by
  obtain ⟨k, hk⟩ := List.mem_iff_getElem?.mp hv
  obtain ⟨d, hd, hr⟩ := h.get' hk
  exact ⟨d, List.mem_of_getElem? hd, hr⟩
theorem all_range_true (n : Nat) : (List.range n).all (fun _ => true) = true := by simp
section
variable {R : Reg} {s : Shared}
theorem eq_same : ∀ (k : Nat) (d : Dat), Plain k d → R.on s.heap → ∀ (A : Around) (v v' : Value), A.units + k < cLine → Rd R v d → Rd R v' d → EqAt A s v v' true
  | _, .none, _, _, _, _, _, _, h, h' => by (have q_ := Rd.noneE h; clear h; subst q_); (have q_ := Rd.noneE h'; clear h'; subst q_); exact EqAt.same _
  | _, .bool b, _, _, _, _, _, _, h, h' => by (have q_ := Rd.boolE h; clear h; subst q_); (have q_ := Rd.boolE h'; clear h'; subst q_); exact EqAt.same _
  | _, .int i, _, _, _, _, _, _, h, h' => by
    (have q_ := Rd.intE h; clear h; obtain ⟨_, rfl⟩ := q_); (have q_ := Rd.intE h'; clear h'; obtain ⟨_, rfl⟩ := q_)
    have := EqAt.int_int (A := ‹Around›) (s := s) i ‹Tok› i ‹Tok›
    simpa using EqAt.int_int (s := s) i _ i _
  | _, .str x, _, _, _, _, _, _, h, h' => by
    (have q_ := Rd.strE h; clear h; obtain ⟨_, rfl⟩ := q_); (have q_ := Rd.strE h'; clear h'; obtain ⟨_, rfl⟩ := q_)
    simpa using EqAt.str_str (s := s) x _ x _
  | _, .val _, p, _, _, _, _, _, _, _ => by simp [Plain] at p
  | _, .box _ _ _, p, _, _, _, _, _, _, _ => by simp [Plain] at p
  | 0, .tup ds, p, _, _, _, _, _, _, _ => by simp [Plain] at p
  | 0, .lst ds, p, _, _, _, _, _, _, _ => by simp [Plain] at p
  | k + 1, .tup ds, p, ro, A, _, _, hu, h, h' => by
    simp only [Plain] at p
    obtain ⟨a, rfl⟩ := h.tup_ref
    obtain ⟨b, rfl⟩ := h'.tup_ref
    by_cases e : a = b
    · subst e; exact EqAt.same _
    · obtain ⟨vs, t, r⟩ := h.isTuple ro
      obtain ⟨ws, t', r'⟩ := h'.isTuple ro
      have hl : vs.length = ws.length := r.length.trans r'.length.symm
      have := RcAt.tuples (A := A) (e := fun _ => true) t t' (by omega) (fun j h1 h2 => by
        have hv : vs[j]? = some (vs.toArray[j]) := by simp at h1; simp [h1]
        have hw : ws[j]? = some (ws.toArray[j]) := by simp at h2; simp [h2]
        obtain ⟨d, hd, x⟩ := r.get' hv
        obtain ⟨d', hd', x'⟩ := r'.get' hw
        rw [hd] at hd'; (have q_ := oSS hd'; clear hd'; subst q_)
        exact eq_same k d (p d (List.mem_of_getElem? hd)) ro A.in1 _ _ (by simp only [Around.in1_units]; omega) x x')
      refine EqAt.of_refs e ?_
      rw [all_range_true] at this
      simpa [hl] using this
  | k + 1, .lst ds, p, ro, A, _, _, hu, h, h' => by
    simp only [Plain] at p
    obtain ⟨a, rfl⟩ := h.lst_ref
    obtain ⟨b, rfl⟩ := h'.lst_ref
    by_cases e : a = b
    · subst e; exact EqAt.same _
    · obtain ⟨vs, t, r⟩ := h.isList ro
      obtain ⟨ws, t', r'⟩ := h'.isList ro
      have hl : vs.length = ws.length := r.length.trans r'.length.symm
      have := RcAt.lists (A := A) (e := fun _ => true) t t' (by simpa using hl) (by omega) (fun j h1 h2 => by
        have hv : vs[j]? = some (vs.toArray[j]) := by simp at h1; simp [h1]
        have hw : ws[j]? = some (ws.toArray[j]) := by simp at h2; simp [h2]
        obtain ⟨d, hd, x⟩ := r.get' hv
        obtain ⟨d', hd', x'⟩ := r'.get' hw
        rw [hd] at hd'; (have q_ := oSS hd'; clear hd'; subst q_)
        exact eq_same k d (p d (List.mem_of_getElem? hd)) ro A.in1 _ _ (by simp only [Around.in1_units]; omega) x x')
      refine EqAt.of_refs e ?_
      rw [all_range_true] at this
      exact this
end

section
variable {C : Cx} {n : Nat}
theorem Room.k {n : Nat} {A : Around} (r : Room n A) {k : Nat} (hk : k ≤ 100) : A.units + k < cLine := by have := r.units; simp only [cLine]; omega

theorem op_eq_tup {k : Nat} {ds : List Dat} (p : Plain (k + 1) (.tup ds)) (hk : k ≤ 90) : Op2 C n (compareOp .Eq) (.tup ds) (.tup ds) (.bool true) := by
  intro A s R v₁ v₂ rm ro h₁ h₂
  obtain ⟨a, rfl⟩ := h₁.tup_ref
  obtain ⟨b, rfl⟩ := h₂.tup_ref
  obtain ⟨vs, t, r⟩ := h₁.isTuple ro.on
  obtain ⟨ws, t', r'⟩ := h₂.isTuple ro.on
  simp only [Plain] at p
  refine eq_tupleAt (e := fun _ => true) t t' rm.ult (fun j h1 h2 => ?_) ?_
  · have hv : vs[j]? = some (vs.toArray[j]) := by simp at h1; simp [h1]
    have hw : ws[j]? = some (ws.toArray[j]) := by simp at h2; simp [h2]
    obtain ⟨d, hd, x⟩ := r.get' hv
    obtain ⟨d', hd', x'⟩ := r'.get' hw
    rw [hd] at hd'; (have q_ := oSS hd'; clear hd'; subst q_)
    exact eq_same k d (p d (List.mem_of_getElem? hd)) ro.on A.in1 _ _ (by have := rm.k (k := k + 1) (by omega); simp only [Around.in1_units]; omega) x x'
  · rw [all_range_true]
    have : vs.toArray.size = ws.toArray.size := by simpa using r.length.trans r'.length.symm
    rw [this]; simp only [beq_self_eq_true, Bool.and_self]; exact ⟨Keeps.rfl' _, .bool _⟩
theorem op_ne_nil {ds : List Dat} : Op2 C n (compareOp .NotEq) (.lst ds) (.lst []) (.bool (!ds.isEmpty)) := by
  intro A s R v₁ v₂ rm ro h₁ h₂
  obtain ⟨a, rfl⟩ := h₁.lst_ref
  obtain ⟨b, rfl⟩ := h₂.lst_ref
  obtain ⟨vs, t, r⟩ := h₁.isList ro.on
  obtain ⟨ws, t', r'⟩ := h₂.isList ro.on
  (have q_ := RdAll.nilE r'; clear r'; subst q_)
  cases r with
  | nil => exact RcNeAt.lists (e := fun _ => true) t t' rfl rm.ult (fun j h1 _ => absurd h1 (Nat.not_lt_zero _)) _ _ _ _ ⟨Keeps.rfl' _, .bool _⟩
  | cons x r => exact RcNeAt.lists_lengths t t' (by simp) rm.ult _ _ _ _ ⟨Keeps.rfl' _, .bool _⟩
theorem op_eq_int {a b : Int} : Op2 C n (compareOp .Eq) (.int a) (.int b) (.bool (a == b)) := Op2.ofBool fun _ _ _ _ _ q => eq_int q
theorem op_ne_int {a b : Int} : Op2 C n (compareOp .NotEq) (.int a) (.int b) (.bool (a != b)) := Op2.ofBool fun _ _ _ _ _ q => ne_int q

theorem any_ints {R : Reg} {vs : List Value} {ns : List Int} (x : Int) (h : RdAll R vs (ns.map Dat.int)) : vs.any (fun v => match v with | .int i _ => i == x | _ => false) = ns.contains x := by
  induction ns generalizing vs with
  | nil => (have q_ := RdAll.nilE h; clear h; subst q_); rfl
  | cons m ms ih =>
    cases h with
    | cons h r =>
      (have q_ := Rd.intE h; clear h; obtain ⟨_, rfl⟩ := q_)
      rw [List.any_cons, ih r, List.contains_cons]
      simp only [Bool.beq_comm]
theorem op_in_ints {x : Int} {ns : List Int} : Op2 C n (compareOp .In) (.int x) (.lst (ns.map Dat.int)) (.bool (ns.contains x)) := by
  intro A s R v₁ v₂ rm ro h₁ h₂
  obtain ⟨b, rfl⟩ := h₂.lst_ref
  obtain ⟨vs, t, r⟩ := h₂.isList ro.on
  cases h₁ with
  | int _ t₁ =>
    refine in_listAt (fun v => match v with | .int i _ => i == x | _ => false) t (fun y hy => ?_) ?_
    · obtain ⟨d, hd, hr⟩ := r.mem (by simpa using hy)
      obtain ⟨i, _, rfl⟩ := List.mem_map.mp hd
      (have q_ := Rd.intE hr; clear hr; obtain ⟨_, rfl⟩ := q_)
      exact EqAt.int_int _ _ _ _
    · have := any_ints x r
      simp only [List.any_toArray, this]; exact ⟨Keeps.rfl' _, .bool _⟩
theorem op_notin_ints {x : Int} {ns : List Int} : Op2 C n (compareOp .NotIn) (.int x) (.lst (ns.map Dat.int)) (.bool (!ns.contains x)) := by
  intro A s R v₁ v₂ rm ro h₁ h₂
  obtain ⟨b, rfl⟩ := h₂.lst_ref
  obtain ⟨vs, t, r⟩ := h₂.isList ro.on
  cases h₁ with
  | int _ t₁ =>
    refine notIn_listAt (fun v => match v with | .int i _ => i == x | _ => false) t (fun y hy => ?_) ?_
    · obtain ⟨d, hd, hr⟩ := r.mem (by simpa using hy)
      obtain ⟨i, _, rfl⟩ := List.mem_map.mp hd
      (have q_ := Rd.intE hr; clear hr; obtain ⟨_, rfl⟩ := q_)
      exact EqAt.int_int _ _ _ _
    · have := any_ints x r
      simp only [List.any_toArray, this]; exact ⟨Keeps.rfl' _, .bool _⟩
end

noncomputable def EvAll (C : Cx) (n : Nat) (sc : Scope) (Δ : Vars) (es : List Expr) (ds : List Dat) : Prop :=
  ∀ A env s R (p : Pos), Room n A → Rok C R s.heap → EnvOk sc env s.heap R Δ → wpAny C.M A (spliced (backTo p (starEach es env))) (fun vs s' => Keeps s s' ∧ RdAll (R.ext s.heap s'.heap) vs ds) NoE s
section
variable {C : Cx} {n : Nat} {sc : Scope} {Δ : Vars}
theorem evAll_nil : EvAll C n sc Δ [] [] := by
  intro A env s R p rm ro eo
  exact wpAny_items_nil ⟨Keeps.rfl' _, .nil⟩
theorem evAll_cons {e : Expr} {es : List Expr} {d : Dat} {ds : List Dat} (h : Ev C n sc Δ e d) (r : EvAll C n sc Δ es ds) (he : ∀ env, starEach (e :: es) env = (false, eval e env) :: starEach es env := by intro _; rfl) : EvAll C n sc Δ (e :: es) (d :: ds) := by
  intro A env s R p rm ro eo
  refine wpAny_items_cons (noE (h A env s R rm ro eo) fun v s₁ p₁ => ?_) (he env)
  have k₁ := Keeps.hle p₁.1
  refine noE (r A env s₁ _ p rm (ro.ext k₁) (eo.ext ro k₁)) fun vs s₂ p₂ => ?_
  have k₂ := Keeps.hle p₂.1
  exact ⟨Keeps.tr p₁.1 p₂.1, .cons (p₁.2.mono (Reg.ext_step k₁ k₂)) (p₂.2.mono (Reg.ext_ext k₁ k₂))⟩
theorem Post.new {C : Cx} {s s₁ : Shared} {R : Reg} {d : Dat} {o : Obj} (k : Keeps s s₁) (ro : Rok C R s.heap) (ho : o.isFreed = false) (h : ∀ R' : Reg, (R.ext s.heap s₁.heap).le R' → R' s₁.heap.objs.size = some o → Rd R' (.ref s₁.heap.objs.size) d) :
    Post s R d (.ref s₁.heap.objs.size) { s₁ with heap := s₁.heap.push o } := by
  have k' := Keeps.push s₁ o
  refine ⟨Keeps.tr k k', h _ (Reg.ext_step (Keeps.hle k) (Keeps.hle k')) ?_⟩
  refine Reg.new_ext ?_ (Heap.get?_push_size _ ho)
  cases e : s.heap.get? s₁.heap.objs.size with
  | none => rfl
  | some o' => have := Keeps.hle k _ _ e; rw [fresh_none] at this; (have q_ := oNS this; clear this; exact q_.elim)
theorem ev_list {es : List Expr} {p : Pos} {ds : List Dat} (h : EvAll C n sc Δ es ds) (hsz : ds.length ≤ sizeLine := by simp [sizeLine]) : Ev C n sc Δ (.List es p) (.lst ds) := by
  intro A env s R rm ro eo
  refine wpAny_List (noE (h A env s R p rm ro eo) fun vs s₁ p₁ => ⟨by rw [p₁.2.length]; exact hsz, ?_⟩)
  exact Post.new p₁.1 ro rfl fun R' hl e => .lst e ⟨rfl, rfl⟩ rfl (p₁.2.mono hl)
theorem ev_tuple {es : List Expr} {k : Nat} {p : Pos} {ds : List Dat} (h : EvAll C n sc Δ es ds) (hsz : ds.length ≤ sizeLine := by simp [sizeLine]) : Ev C n sc Δ (.Tuple es k p) (.tup ds) := by
  intro A env s R rm ro eo
  refine wpAny_Tuple (noE (h A env s R p rm ro eo) fun vs s₁ p₁ => ⟨by rw [p₁.2.length]; exact hsz, ?_⟩)
  exact Post.new p₁.1 ro rfl fun R' hl e => .tup e rfl rfl (p₁.2.mono hl)

theorem ev_sub {v i : Expr} {p : Pos} {d₁ d₂ d : Dat} (h₁ : Ev C n sc Δ v d₁) (h₂ : Ev C n sc Δ i d₂) (ho : Op2 C n (subscriptTail v i) d₁ d₂ d) : Ev C n sc Δ (.Subscript v i p) d := by
  intro A env s R rm ro eo
  exact Subscript_ (ev2 h₁ h₂ ho rm ro eo)
theorem op_item_lst {v i : Expr} {k : Int} {ds : List Dat} {d : Dat} (hx : ds[k.toNat]? = some d) (h0 : 0 ≤ k) (hlen : ds.length ≤ sizeLine)
    (hs : ∀ o u, subscripted i false o (.int k u) = operate [o, .int k u] (getItem o (.int k u)) := by intro _ _; rfl) : Op2 C n (subscriptTail v i) (.lst ds) (.int k) d := by
  intro A s R v₁ v₂ rm ro h₁ h₂
  obtain ⟨b, rfl⟩ := h₁.lst_ref
  obtain ⟨vs, t, r⟩ := h₁.isList ro.on
  (have q_ := Rd.intE h₂; clear h₂; obtain ⟨_, rfl⟩ := q_)
  obtain ⟨w, hw, hd⟩ := r.get hx
  have hk := (List.getElem?_eq_some_iff.mp hx).1
  exact tail_any t.typeIs slot_list_getitem.lookup (wpAny_getItem_list t h0 (by rw [sizeLine_eq] at hlen; omega) (by simpa using hw) (Post.pure ro hd)) (hs _ _)
theorem op_item_lst_neg {v i : Expr} {k : Int} {ds : List Dat} {d : Dat} (hx : ds[(k + ds.length).toNat]? = some d) (h0 : k < 0) (h1 : -(ds.length : Int) ≤ k) (hlen : ds.length ≤ sizeLine)
    (hs : ∀ o u, subscripted i false o (.int k u) = operate [o, .int k u] (getItem o (.int k u)) := by intro _ _; rfl) : Op2 C n (subscriptTail v i) (.lst ds) (.int k) d := by
  intro A s R v₁ v₂ rm ro h₁ h₂
  obtain ⟨b, rfl⟩ := h₁.lst_ref
  obtain ⟨vs, t, r⟩ := h₁.isList ro.on
  (have q_ := Rd.intE h₂; clear h₂; obtain ⟨_, rfl⟩ := q_)
  obtain ⟨w, hw, hd⟩ := r.get hx
  have hl := r.length
  exact tail_any t.typeIs slot_list_getitem.lookup (wpAny_getItem_list_neg t h0 (by simp [hl]; omega) (by rw [sizeLine_eq] at hlen; omega) (by simpa [hl] using hw) (Post.pure ro hd)) (hs _ _)
noncomputable def pick (ds : List Dat) (lo hi st : Option Int) : List Dat :=
  (sliceRange (sliceBounds lo hi st ds.length).1 (sliceBounds lo hi st ds.length).2.1 (sliceBounds lo hi st ds.length).2.2).filterMap (ds[·]?)
theorem RdAll.picks {R : Reg} {vs : List Value} {ds : List Dat} (h : RdAll R vs ds) (is : List Nat) : RdAll R (is.filterMap (vs[·]?)) (is.filterMap (ds[·]?)) := by
  induction is with
  | nil => exact .nil
  | cons i is ih =>
    rw [List.filterMap_cons, List.filterMap_cons]
    cases e : vs[i]? with
    | none =>
      have : ds[i]? = none := by rw [List.getElem?_eq_none_iff] at e ⊢; rw [← h.length]; exact e
      rw [this]; exact ih
    | some v =>
      obtain ⟨d, hd, hr⟩ := h.get' e
      rw [hd]; exact .cons hr ih
theorem RdAll.pick {R : Reg} {vs : List Value} {ds : List Dat} (h : RdAll R vs ds) (lo hi st : Option Int) : ∃ ws : List Value, slicePick vs.toArray lo hi st = ws.toArray ∧ RdAll R ws (pick ds lo hi st) := by
  refine ⟨_, rfl, ?_⟩
  unfold Mine.pick
  rw [show vs.toArray.size = ds.length from by simpa using h.length]
  simpa using h.picks _
noncomputable def EvPart (C : Cx) (n : Nat) (sc : Scope) (Δ : Vars) : Option Expr → Option Int → Prop
  | none, none => True
  | some e, some i => Ev C n sc Δ e (.int i)
  | _, _ => False
theorem evPart {x : Option Expr} {k : Option Int} {A : Around} {env : Env} {s : Shared} {R : Reg} (h : EvPart C n sc Δ x k) (rm : Room n A) (ro : Rok C R s.heap) (eo : EnvOk sc env s.heap R Δ) :
    wpAny C.M A (evalPart x env) (fun v s' => Keeps s s' ∧ IsPart v k) NoE s := by
  cases x with
  | none =>
    cases k with
    | none => rw [evalPart_none]; exact wpAny_pure ⟨Keeps.rfl' _, .none⟩
    | some i => exact h.elim
  | some e =>
    cases k with
    | none => exact h.elim
    | some i =>
      rw [evalPart_some]
      refine noE (h A env s R rm ro eo) fun v s₁ p => ⟨p.1, ?_⟩
      have := p.2
      (have q_ := Rd.intE this; clear this; obtain ⟨_, rfl⟩ := q_); exact .int _ _
theorem ev_cut {v : Expr} {lo hi st : Option Expr} {a b c : Option Int} {p q : Pos} {ds : List Dat} (h : Ev C n sc Δ v (.lst ds)) (ha : EvPart C n sc Δ lo a) (hb : EvPart C n sc Δ hi b) (hc : EvPart C n sc Δ st c) (h0 : c ≠ some 0)
    (hlen : ds.length ≤ sizeLine) : Ev C n sc Δ (.Subscript v (.Slice lo hi st p) q) (.lst (pick ds a b c)) := by
  intro A env s R rm ro eo
  refine Subscript_ (noE (h A env s R rm ro eo) fun o s₁ p₁ => ?_)
  have k₁ := Keeps.hle p₁.1
  refine wpAny_Slice (noE (evPart ha rm (ro.ext k₁) (eo.ext ro k₁)) fun vl s₂ p₂ => ?_)
  have K₂ := Keeps.tr p₁.1 p₂.1
  refine noE (evPart hb rm (ro.ext (Keeps.hle K₂)) (eo.ext ro (Keeps.hle K₂))) fun vu s₃ p₃ => ?_
  have K₃ := Keeps.tr K₂ p₃.1
  refine noE (evPart hc rm (ro.ext (Keeps.hle K₃)) (eo.ext ro (Keeps.hle K₃))) fun vs s₄ p₄ => ?_
  have K₄ := Keeps.tr K₃ p₄.1
  have hd : Rd (R.ext s.heap s₄.heap) o (.lst ds) := p₁.2.mono (Reg.ext_step k₁ (Keeps.hle (Keeps.tr p₂.1 (Keeps.tr p₃.1 p₄.1))))
  obtain ⟨l, rfl⟩ := hd.lst_ref
  obtain ⟨ws, t, r⟩ := hd.isList (ro.ext (Keeps.hle K₄)).on
  have K₅ := Keeps.tr K₄ (Keeps.push s₄ { cls := .type "slice", data := .fields #[vl, vu, vs] })
  have t' := t.push ({ cls := .type "slice", data := .fields #[vl, vu, vs] } : Obj)
  have hg : wpAny C.M A (getItem (.ref l) (.ref s₄.heap.objs.size)) (Post s R (.lst (pick ds a b c))) NoE { s₄ with heap := s₄.heap.push { cls := .type "slice", data := .fields #[vl, vu, vs] } } := by
    refine wpAny_getItem_list_slice t' (Heap.IsSliceOf.new ..) p₂.2 p₃.2 p₄.2 h0 ?_ (by simpa [r.length] using hlen)
    obtain ⟨xs, e, rx⟩ := r.pick a b c
    rw [e]
    exact Post.new K₅ ro rfl fun R' hl e' => .lst e' ⟨rfl, rfl⟩ rfl (rx.mono ((Reg.ext_step (Keeps.hle K₄) (Keeps.hle (Keeps.push s₄ _))).trans hl))
  cases st with
  | none => exact tail_any (s := { s₄ with heap := s₄.heap.push { cls := .type "slice", data := .fields #[vl, vu, vs] } }) t'.typeIs slot_list_getitem.lookup hg rfl
  | some st => exact tail_any (s := { s₄ with heap := s₄.heap.push { cls := .type "slice", data := .fields #[vl, vu, vs] } }) t'.typeIs slot_list_getitem.lookup hg rfl

theorem op_cat {ds es : List Dat} (hlen : ds.length + es.length ≤ sizeLine) : Op2 C n (binaryOp .Add) (.lst ds) (.lst es) (.lst (ds ++ es)) := by
  intro A s R v₁ v₂ rm ro h₁ h₂
  obtain ⟨l, rfl⟩ := h₁.lst_ref
  obtain ⟨b, rfl⟩ := h₂.lst_ref
  obtain ⟨vs, hl, r⟩ := h₁.isList ro.on
  obtain ⟨ws, hb, r'⟩ := h₂.isList ro.on
  obtain ⟨⟨cls, dd, data, sl⟩, ho, hc, n, hd⟩ := id hl
  obtain ⟨⟨cls2, dd2, data2, sl2⟩, ho2, hc2, n2, hd2⟩ := id hb
  simp only at hc hd hc2 hd2
  subst hc hd hc2 hd2
  refine concat_meets ⟨_, ho, rfl⟩ ⟨_, ho2, rfl⟩ noFill_list_add seq_list_add PySem.F.slot_list_add PySem.F.entry_list_add (PySem.F.args_list_add_2 _ _) (list_addW l b vs.toArray ws.toArray n n2 dd dd2 sl sl2 (by simpa [r.length, r'.length] using hlen)) ⟨ho, ho2, ?_⟩
  rw [show vs.toArray ++ ws.toArray = (vs ++ ws).toArray from by simp]
  exact Post.new (Keeps.rfl' _) ro rfl fun R' hl e => .lst e ⟨rfl, rfl⟩ rfl ((r.append r').mono ((Reg.ext_le ro.on).trans hl))
end
end Mine
end
noncomputable section
open PySem PySem.W PyProof.Rows PySem.SeqAt PySem.MeetsSeq
set_option Elab.async false
set_option autoImplicit false
namespace Mine

noncomputable def KeepsBut (W : List Addr) (s s' : Shared) : Prop := ∃ h' tk, s' = { s with heap := h', toks := tk } ∧ ∀ b o, b ∉ W → s.heap.get? b = some o → h'.get? b = some o
theorem KeepsBut.rfl' (W : List Addr) (s : Shared) : KeepsBut W s s := ⟨s.heap, s.toks, rfl, fun _ _ _ e => e⟩
theorem KeepsBut.tr {W : List Addr} {s s' s'' : Shared} (k : KeepsBut W s s') (k' : KeepsBut W s' s'') : KeepsBut W s s'' := by
  obtain ⟨h', tk, rfl, e⟩ := k
  obtain ⟨h'', tk', rfl, e'⟩ := k'
  exact ⟨h'', tk', rfl, fun b o hb x => e' b o hb (e b o hb x)⟩
theorem KeepsBut.of {W : List Addr} {s s' : Shared} (k : Keeps s s') : KeepsBut W s s' := by
  obtain ⟨h', tk, rfl, e⟩ := k
  exact ⟨h', tk, rfl, fun b o _ x => e b o x⟩
theorem KeepsBut.get {W : List Addr} {s s' : Shared} (k : KeepsBut W s s') {b : Addr} {o : Obj} (hb : b ∉ W) (e : s.heap.get? b = some o) : s'.heap.get? b = some o := by
  obtain ⟨h', tk, rfl, f⟩ := k; exact f b o hb e
theorem KeepsBut.sub {W W' : List Addr} {s s' : Shared} (k : KeepsBut W s s') (h : ∀ a ∈ W, a ∈ W') : KeepsBut W' s s' := by
  obtain ⟨h', tk, rfl, f⟩ := k; exact ⟨h', tk, rfl, fun b o hb e => f b o (fun x => hb (h b x)) e⟩
theorem KeepsBut.keeps {W : List Addr} {s₀ s s' : Shared} (k : KeepsBut W s s') (k₀ : Keeps s₀ s) (hn : ∀ a ∈ W, s₀.heap.get? a = none) : Keeps s₀ s' := by
  obtain ⟨h, tk, rfl, e⟩ := k₀
  obtain ⟨h', tk', rfl, f⟩ := k
  refine ⟨h', tk', rfl, fun b o x => f b o (fun hb => ?_) (e b o x)⟩
  rw [hn b hb] at x; (have q_ := oNS x; clear x; exact q_.elim)
theorem KeepsBut.reg {W : List Addr} {s s' : Shared} {R : Reg} (k : KeepsBut W s s') (ro : R.on s.heap) (hW : ∀ a ∈ W, R a = none) : R.on s'.heap := fun a o e =>
  k.get (fun hb => by rw [hW a hb] at e; (have q_ := oNS e; clear e; exact q_.elim)) (ro a o e)

noncomputable def upd (Δ : Vars) (x : Str) (d : Dat) : Vars := fun y => if y = x then some d else Δ y
noncomputable def updAll (Δ : Vars) : List Str → List Dat → Vars
  | x :: xs, d :: ds => updAll (upd Δ x d) xs ds
  | _, _ => Δ

structure EnvW (sc : Scope) (env : Env) (h : Heap) (R : Reg) (Δ : Vars) (W : List Addr) : Prop where
  ok : EnvOk sc env h R Δ
  ns : ∃ m, h.Ns env.locals m
  locW : env.locals ∈ W
  alive : ∀ c ∈ W, c ≠ env.locals → ∃ v, h.IsCell c v
  offR : ∀ a ∈ W, R a = none
  inj : ∀ x y c, c ∈ W → env.cells.lookup x = some c → env.cells.lookup y = some c → x = y
  locne : ∀ x, env.cells.lookup x ≠ some env.locals
  calive : ∀ x c, env.cells.lookup x = some c → ∃ v, h.IsCell c v
noncomputable def Stor (sc : Scope) (env : Env) (W : List Addr) (x : Str) : Prop :=
  sc.names.lookup x = some .local ∨ (sc.names.lookup x = some .cell ∧ ∃ c, env.cells.lookup x = some c ∧ c ∈ W)

section
variable {C : Cx} {sc : Scope} {env : Env} {R R' : Reg} {Δ : Vars} {W : List Addr}
theorem EnvW.keeps {h h' : Heap} (e : EnvW sc env h R Δ W) (k : hle h h') (l : R.le R') (hW : ∀ a ∈ W, R' a = none) : EnvW sc env h' R' Δ W :=
  ⟨e.ok.keeps k l, let ⟨m, x⟩ := e.ns; ⟨m, x.keeps k⟩, e.locW, fun c hc hn => let ⟨v, x⟩ := e.alive c hc hn; ⟨v, x.keeps k⟩, hW, e.inj, e.locne, fun x c h => let ⟨o, z⟩ := e.calive x c h; ⟨o, z.keeps k⟩⟩
theorem EnvW.isW {h : Heap} (e : EnvW sc env h R Δ W) {a : Addr} (ha : a ∈ W) : ∃ o, h.get? a = some o := by
  by_cases hn : a = env.locals
  · subst hn; obtain ⟨m, o, es, ep, x, _⟩ := e.ns; exact ⟨o, x⟩
  · obtain ⟨v, o, x, _⟩ := e.alive a ha hn; exact ⟨o, x⟩
theorem ext_off {h h' : Heap} {a : Addr} {o : Obj} (x : h.get? a = some o) (hR : R a = none) : R.ext h h' a = none := by
  simp only [Reg.ext, x]; exact hR
theorem EnvW.ext {h h' : Heap} (e : EnvW sc env h R Δ W) (ro : Rok C R h) (k : hle h h') : EnvW sc env h' (R.ext h h') Δ W :=
  e.keeps k (Reg.ext_le ro.on) fun a ha => let ⟨_, x⟩ := e.isW ha; ext_off x (e.offR a ha)

theorem EnvW.store {A : Around} {E : Value → Shared → Prop} {s : Shared} {x : Str} {v : Value} {d : Dat} {Q : Unit → Shared → Prop} (e : EnvW sc env s.heap R Δ W) (hx : Stor sc env W x) (hd : Rd R v d)
    (hQ : ∀ s', KeepsBut W s s' → EnvW sc env s'.heap R (upd Δ x d) W → Q () s') : wpAny C.M A (storeName env x v) Q E s := by
  have hk : env.scope.kind = .function := e.ok.hsc ▸ e.ok.fn
  rcases hx with hx | ⟨hx, c, hc, hcW⟩
  · have hl : env.kindOf x = some .local := by rw [← e.ok.hsc] at hx; exact hx
    obtain ⟨m, hm⟩ := e.ns
    refine wpAny_storeName_local hl hm (fun h' hn hs => hQ _ ⟨h', s.toks + 1, rfl, fun b o hb eb => hs.extBut b o (fun h => hb (h ▸ e.locW)) eb⟩ ?_) (by rw [hk]; rfl)
    refine ⟨⟨e.ok.hsc, e.ok.fn, e.ok.gl, e.ok.bl, fun y dy ey => ?_⟩, ⟨_, hn⟩, e.locW, fun c hc hne => let ⟨v, z⟩ := e.alive c hc hne; ⟨v, z.sameBut hs hne⟩, e.offR, e.inj, e.locne, fun x c h => let ⟨o, z⟩ := e.calive x c h; ⟨o, z.sameBut hs (fun q => e.locne x (q ▸ h))⟩⟩
    simp only [upd] at ey
    split at ey
    · rename_i hy; subst hy; (have q_ := oSS ey; clear ey; subst q_)
      exact ⟨v, .inl ⟨hl, _, hn, by simp⟩, hd⟩
    · rename_i hy
      obtain ⟨u, hu, hr⟩ := e.ok.vars y dy ey
      refine ⟨u, ?_, hr⟩
      rcases hu with ⟨a1, m1, a2, a3⟩ | ⟨a1, c1, a2, a3⟩ | ⟨a1, c1, a2, a3⟩
      · have : m1 = m := by rw [a2.eq_nsMap, hm.eq_nsMap]
        subst this
        exact .inl ⟨a1, _, hn, by simp [hy, a3]⟩
      · exact .inr (.inl ⟨a1, c1, a2, a3.sameBut hs fun h => e.locne y (h ▸ a2)⟩)
      · exact .inr (.inr ⟨a1, c1, a2, a3.sameBut hs fun h => e.locne y (h ▸ a2)⟩)
  · have hl : env.kindOf x = some .cell := by rw [← e.ok.hsc] at hx; exact hx
    have hne : c ≠ env.locals := fun h => e.locne x (h ▸ hc)
    obtain ⟨v₀, hv₀⟩ := e.alive c hcW hne
    refine wpAny_storeName_cell hk hl hc hv₀ fun h' hn hs => hQ _ ⟨h', s.toks, rfl, fun b o hb eb => hs.extBut b o (fun h => hb (h ▸ hcW)) eb⟩ ?_
    obtain ⟨m, hm⟩ := e.ns
    refine ⟨⟨e.ok.hsc, e.ok.fn, e.ok.gl, e.ok.bl, fun y dy ey => ?_⟩, ⟨m, hm.sameBut hs (Ne.symm hne)⟩, e.locW, fun c' hc' hne' => ?_, e.offR, e.inj, e.locne, fun y c' h => ?_⟩
    · simp only [upd] at ey
      split at ey
      · rename_i hy; subst hy; (have q_ := oSS ey; clear ey; subst q_)
        exact ⟨v, .inr (.inl ⟨hl, c, hc, hn⟩), hd⟩
      · rename_i hy
        obtain ⟨u, hu, hr⟩ := e.ok.vars y dy ey
        refine ⟨u, ?_, hr⟩
        rcases hu with ⟨a1, m1, a2, a3⟩ | ⟨a1, c1, a2, a3⟩ | ⟨a1, c1, a2, a3⟩
        · exact .inl ⟨a1, m1, a2.sameBut hs (Ne.symm hne), a3⟩
        · exact .inr (.inl ⟨a1, c1, a2, a3.sameBut hs fun h => hy (e.inj _ _ _ hcW (h ▸ a2) hc)⟩)
        · exact .inr (.inr ⟨a1, c1, a2, a3.sameBut hs fun h => hy (e.inj _ _ _ hcW (h ▸ a2) hc)⟩)
    · by_cases hcc : c' = c
      · subst hcc; exact ⟨_, hn⟩
      · obtain ⟨v, z⟩ := e.alive c' hc' hne'; exact ⟨v, z.sameBut hs hcc⟩
    · by_cases hcc : c' = c
      · subst hcc; exact ⟨_, hn⟩
      · obtain ⟨o, z⟩ := e.calive y c' h; exact ⟨o, z.sameBut hs hcc⟩

noncomputable def Tgt : Expr → Dat → List Str → List Dat → Prop
  | .Name x _, d, xs, ds => xs = [x] ∧ ds = [d]
  | .Tuple es _ _, .tup ds', xs, ds => ds = ds' ∧ es.length = ds.length ∧ ∃ ps : List Pos, ps.length = xs.length ∧ es = (xs.zip ps).map (fun x => Expr.Name x.1 x.2)
  | _, _, _, _ => False

theorem assign_names {A : Around} {E : Value → Shared → Prop} : ∀ (xs : List (Str × Pos)) (vs : List Value) (ds : List Dat) (Δ : Vars) (s : Shared) (Q : Unit → Shared → Prop), EnvW sc env s.heap R Δ W → (∀ x ∈ xs, Stor sc env W x.1) → RdAll R vs ds → xs.length = ds.length →
    (∀ s', KeepsBut W s s' → EnvW sc env s'.heap R (updAll Δ (xs.map (·.1)) ds) W → Q () s') → wpAny C.M A (assignInOrder (xs.map fun x => assign (.Name x.1 x.2) env) vs) Q E s
  | [], _, ds, Δ, s, Q, e, _, r, hl, hQ => by
    cases ds with
    | nil => (have q_ := RdAll.nilE r; clear r; subst q_); exact wpAny_pure (hQ s (.rfl' _ _) e)
    | cons d ds => cases hl
  | x :: xs, vs, ds, Δ, s, Q, e, hs, r, hl, hQ => by
    cases r with
    | nil => cases hl
    | cons h r =>
      show wpAny C.M A (do holding _ (assign (.Name x.1 x.2) env _); assignInOrder _ _) Q E s
      refine wpAny_bind (wpAny_holding (wpAny_assign_Name (e.store (hs x List.mem_cons_self) h fun s' k e' => ?_)))
      exact assign_names xs _ _ _ s' Q e' (fun y hy => hs y (List.mem_cons_of_mem _ hy)) r (by simpa using hl) fun s'' k' e'' => hQ s'' (k.tr k') e''

theorem assignEach_names (xs : List (Str × Pos)) (env : Env) : assignEach (xs.map fun x => Expr.Name x.1 x.2) env = xs.map fun x => (false, assign (.Name x.1 x.2) env) := by
  induction xs with
  | nil => rfl
  | cons x xs ih =>
    show (false, assign (.Name x.1 x.2) env) :: assignEach (xs.map fun x => Expr.Name x.1 x.2) env = _
    rw [ih]; rfl

theorem assign_tgt {A : Around} {E : Value → Shared → Prop} {s : Shared} {t : Expr} {d : Dat} {xs : List Str} {ds : List Dat} {v : Value} {Q : Unit → Shared → Prop} (hh : A.handled = none) (hT : Tgt t d xs ds) (ro : Rok C R s.heap) (e : EnvW sc env s.heap R Δ W)
    (hs : ∀ x ∈ xs, Stor sc env W x) (hd : Rd R v d) (hQ : ∀ s', KeepsBut W s s' → EnvW sc env s'.heap R (updAll Δ xs ds) W → Q () s') : wpAny C.M A (assign t env v) Q E s := by
  cases t <;> try exact hT.elim
  case Name x p =>
    obtain ⟨rfl, rfl⟩ := hT
    exact wpAny_assign_Name (e.store (hs x (by simp)) hd hQ)
  case Tuple es k p =>
    cases d <;> try exact hT.elim
    case tup ds' =>
      obtain ⟨rfl, hl, ps, hp, rfl⟩ := hT
      obtain ⟨a, rfl⟩ := hd.tup_ref
      obtain ⟨vs, t, r⟩ := hd.isTuple ro.on
      have hlen : (xs.zip ps).length = ds.length := by simpa using hl
      refine wpAny_assign_Tuple hh t ?_ ?_ fun h' hx => ?_
      · rw [assignEach_names]; simp [hlen, r.length] at hl ⊢
      · rw [assignEach_names, List.findIdx?_map]; simp
      · rw [assignEach_names]
        have k : Keeps s { s with heap := h' } := ⟨h', s.toks, rfl, fun b o eb => hx b o (fun h => by rw [h, fresh_none] at eb; (have q_ := oNS eb; clear eb; exact q_.elim)) eb⟩
        have hzip : (xs.zip ps).map (·.1) = xs := by
          rw [List.map_fst_zip]; omega
        rw [List.map_map]
        refine assign_names (xs.zip ps) vs ds Δ _ Q (e.keeps (Keeps.hle k) (Reg.le.refl R) e.offR) (fun x hx => hs x.1 (List.of_mem_zip hx).1) r (by omega) fun s' k' e' => hQ s' ((KeepsBut.of k).tr k') ?_
        rw [hzip] at e'; exact e'
end
end Mine
end
noncomputable section
open PySem PySem.W PyProof.Rows PySem.SeqAt PySem.MeetsSeq
set_option Elab.async false
set_option autoImplicit false
namespace Mine

noncomputable def Reg.minus (R : Reg) (W : List Addr) : Reg := fun a => if a ∈ W then none else R a
theorem Reg.minus_le {R : Reg} {W : List Addr} : (R.minus W).le R := fun a o e => by
  simp only [Reg.minus] at e; split at e
  · (have q_ := oNS e; clear e; exact q_.elim)
  · exact e
theorem Reg.minus_off {R : Reg} {W : List Addr} {a : Addr} (h : a ∈ W) : R.minus W a = none := by simp [Reg.minus, h]
theorem Reg.minus_some {R : Reg} {W : List Addr} {a : Addr} {o : Obj} (h : a ∉ W) (e : R a = some o) : R.minus W a = some o := by simp [Reg.minus, h, e]

noncomputable def Rl (s : Shared) (R : Reg) (W : List Addr) (h : Heap) : Reg := (R.ext s.heap h).minus W
section
variable {C : Cx} {s s₁ s₂ : Shared} {R : Reg} {W : List Addr}
theorem rl_base {h : Heap} (ro : R.on s.heap) (hW : ∀ a ∈ W, s.heap.get? a = none) : R.le (Rl s R W h) := fun a o e =>
  Reg.minus_some (fun h => by have := ro a o e; rw [hW a h] at this; (have q_ := oNS this; clear this; exact q_.elim)) (Reg.ext_le ro a o e)
theorem rl_on {h : Heap} (ro : R.on s.heap) (k : hle s.heap h) : (Rl s R W h).on h := fun a o e => Reg.ext_on ro k a o (Reg.minus_le a o e)
theorem rl_rok {h : Heap} (ro : Rok C R s.heap) (hW : ∀ a ∈ W, s.heap.get? a = none) (k : hle s.heap h) : Rok C (Rl s R W h) h := ⟨ro.base.trans (rl_base ro.on hW), rl_on ro.on k, ro.mu.hle k⟩
theorem rl_step (k₁ : Keeps s s₁) (k₂ : Keeps s s₂) (k : KeepsBut W s₁ s₂) (al : ∀ a ∈ W, ∃ o, s₁.heap.get? a = some o) : ((Rl s R W s₁.heap).ext s₁.heap s₂.heap).le (Rl s R W s₂.heap) := fun a o e => by
  simp only [Reg.ext] at e
  split at e
  · rename_i o' e'
    simp only [Rl, Reg.minus] at e ⊢
    split at e
    · (have q_ := oNS e; clear e; exact q_.elim)
    · rename_i hn
      simp only [hn, if_false]
      simp only [Reg.ext] at e ⊢
      split at e
      · exact e
      · exact k.get hn e
  · rename_i e'
    have hn : a ∉ W := fun h => by obtain ⟨o', x⟩ := al a h; rw [x] at e'; (have q_ := oSN e'; clear e'; exact q_.elim)
    have hs : s.heap.get? a = none := by
      cases x : s.heap.get? a with
      | none => rfl
      | some o' => rw [Keeps.hle k₁ a o' x] at e'; (have q_ := oSN e'; clear e'; exact q_.elim)
    refine Reg.minus_some hn ?_
    simp only [Reg.ext, hs]; exact e
theorem rl_le (k₁ : Keeps s s₁) (k : KeepsBut W s₁ s₂) : (Rl s R W s₁.heap).le (Rl s R W s₂.heap) := fun a o e => by
  simp only [Rl, Reg.minus] at e ⊢
  split at e
  · (have q_ := oNS e; clear e; exact q_.elim)
  · rename_i hn
    simp only [hn, if_false]
    simp only [Reg.ext] at e ⊢
    split at e
    · exact e
    · exact k.get hn e
end

structure IterM (C : Cx) (it : Value) (wr : List Addr) (ds : List Dat) (R₀ : Reg) (St : Nat → Heap → Prop) (Md : Nat → Value → Heap → Prop) (TO : Expr → Prop) : Prop where
  frame : ∀ i h h', St i h → (∀ b ∈ wr, ∀ o, h.get? b = some o → h'.get? b = some o) → R₀.on h' → C.mu.on h' → St i h'
  alive : ∀ i h, St i h → ∀ b ∈ wr, ∃ o, h.get? b = some o
  next : ∀ A i s R d, A.handled = none → ds[i]? = some d → St i s.heap → R₀.le R → R.on s.heap → (∀ a ∈ wr, R a = none) →
    wpAny C.M A (pyNext it) (fun r s' => ∃ v, r = some v ∧ Md (i + 1) v s'.heap ∧ KeepsBut wr s s' ∧ Rd (R.ext s.heap s'.heap) v d) NoE s
  done : ∀ A s, A.handled = none → St ds.length s.heap → wpAny C.M A (pyNext it) (fun r s' => r = none ∧ KeepsBut wr s s') NoE s
  self : ∀ A i s (Q : Value → Shared → Prop) E, St i s.heap → Q it s → wpAny C.M A (pyIter it) Q E s
  letgo : ∀ A i s t v (Q : Unit → Shared → Prop) E, TO t → Md i v s.heap → (∀ s', St i s'.heap → KeepsBut wr s s' → Q () s') → wpAny C.M A (letOwnedTupleGo t it v) Q E s
noncomputable abbrev Iter (C : Cx) (it : Value) (wr : List Addr) (ds : List Dat) (R₀ : Reg) (St : Nat → Heap → Prop) : Prop := IterM C it wr ds R₀ St (fun i _ => St i) (fun _ => True)

theorem letgo_plain {M : Model} {A : Around} {E : Value → Shared → Prop} {s : Shared} {t : Expr} {I : Addr} {o : Obj} {n : String} {v : Value} {Q : Unit → Shared → Prop} (ho : s.heap.get? I = some o) (hc : o.cls = .type n)
    (hn : ["enumerate", "zip", "dict_itemiterator", "dict_reverseitemiterator", "odict_iterator", "itertools.zip_longest", "itertools.pairwise"].contains n = false) (hQ : Q () s) : wpAny M A (letOwnedTupleGo t (.ref I) v) Q E s := by
  have key : ∀ a, wpAny M A (do
      let o ← load I
      match o.cls, o.data with
      | .type n, .fields vs =>
        if ["enumerate", "zip", "dict_itemiterator", "dict_reverseitemiterator", "odict_iterator", "itertools.zip_longest", "itertools.pairwise"].contains n && vs[0]? == some (rawInt a) then
          rule "for.unpacks-the-owned-tuple"
          updateField I 0 .none
      | _, _ => pure ()) Q E s := by
    intro a
    refine wpAny_bind (wpAny_load ho ?_)
    rw [hc]
    cases o.data <;> try exact wpAny_pure hQ
    rename_i vs
    show wpAny M A (if (["enumerate", "zip", "dict_itemiterator", "dict_reverseitemiterator", "odict_iterator", "itertools.zip_longest", "itertools.pairwise"].contains n && vs[0]? == some (rawInt a)) = true then _ else _) Q E s
    rw [if_neg (by rw [hn]; simp)]
    exact wpAny_pure hQ
  cases t <;> first | exact wpAny_pure hQ | (cases v <;> first | exact wpAny_pure hQ | exact key _)

theorem iter_list {C : Cx} {I l : Addr} {vs : List Value} {ds : List Dat} {R₀ : Reg} {o : Obj} {n : Nat} (hl : R₀ l = some o) (hc : o.cls = .type "list") (hd : o.data = .seq vs.toArray n) (hr : RdAll R₀ vs ds) (hI : R₀ I = none) :
    Iter C (.ref I) [I] ds R₀ (fun i h => h.IsListIter I l i ∧ h.IsList l vs.toArray) where
  frame := fun i h h' st hk ho _ => ⟨st.1.at fun o e => hk I (by simp) o e, ⟨_, ho _ _ hl, hc, _, hd⟩⟩
  alive := fun i h st b hb => by
    obtain ⟨o, x, _⟩ := st.1
    rw [List.mem_singleton.mp hb]; exact ⟨o, x⟩
  next := fun A i s R d hh hi st hle ho hW => by
    obtain ⟨v, hv, hdv⟩ := hr.get hi
    have hne : l ≠ I := fun h => by rw [h, hI] at hl; (have q_ := oNS hl; clear hl; exact q_.elim)
    refine wpAny_pyNext_list_item st.1 st.2 (x := v) (by simpa using hv) fun h' hit' hs' => ?_
    refine ⟨v, rfl, ⟨hit', st.2.extBut hs'.extBut hne⟩, ⟨h', s.toks, rfl, fun b o hb e => hs'.extBut b o (fun h => hb (by simp [h])) e⟩, hdv.mono (hle.trans (Reg.ext_le ho))⟩
  done := fun A s hh st => by
    refine wpAny_pyNext_list_end hh st.1 st.2 (by simp [hr.length]) fun h' he' => ⟨rfl, h', s.toks, rfl, fun b o hb e => he' b o (fun h => hb (by simp [h])) e⟩
  self := fun A i s Q E st hQ => wpAny_pyIter_listiter st.1 hQ
  letgo := fun A i s t v Q E _ st hQ => by
    obtain ⟨o, ho, hc, _⟩ := st.1
    exact letgo_plain ho hc (by decide) (hQ s st (.rfl' _ _))

noncomputable def EvIt (C : Cx) (n : Nat) (sc : Scope) (Δ : Vars) (e : Expr) (ds : List Dat) : Prop :=
  ∀ A env s R, Room n A → Rok C R s.heap → EnvOk sc env s.heap R Δ → wpAny C.M A (eval e env) (fun x s₁ => wpAny C.M A (pyIter x) (fun it s₂ =>
    Keeps s s₂ ∧ ∃ wr St, Iter C it wr ds ((R.ext s.heap s₂.heap).minus wr) St ∧ St 0 s₂.heap ∧ (∀ a ∈ wr, s.heap.get? a = none)) NoE s₁) NoE s
noncomputable def EvItT (C : Cx) (n : Nat) (sc : Scope) (Δ : Vars) (TO : Expr → Prop) (e : Expr) (ds : List Dat) : Prop :=
  ∀ A env s R, Room n A → Rok C R s.heap → EnvOk sc env s.heap R Δ → wpAny C.M A (eval e env) (fun x s₁ => wpAny C.M A (pyIter x) (fun it s₂ =>
    Keeps s s₂ ∧ ∃ wr St Md, IterM C it wr ds ((R.ext s.heap s₂.heap).minus wr) St Md TO ∧ St 0 s₂.heap ∧ (∀ a ∈ wr, s.heap.get? a = none)) NoE s₁) NoE s
theorem EvIt.toT {C : Cx} {n : Nat} {sc : Scope} {Δ : Vars} {e : Expr} {ds : List Dat} (h : EvIt C n sc Δ e ds) : EvItT C n sc Δ (fun _ => True) e ds := fun A env s R rm ro eo =>
  wpAny_mono (h A env s R rm ro eo) (fun _ _ q => wpAny_mono q (fun _ _ q => let ⟨k, wr, St, a, b, c⟩ := q; ⟨k, wr, St, fun i _ => St i, a, b, c⟩) fun _ _ f => f) fun _ _ f => f
section
variable {C : Cx} {n : Nat} {sc : Scope} {Δ : Vars}
theorem evIt_lst {e : Expr} {ds : List Dat} (h : Ev C n sc Δ e (.lst ds)) : EvIt C n sc Δ e ds := by
  intro A env s R rm ro eo
  refine noE (h A env s R rm ro eo) fun x s₁ p₁ => ?_
  have k₁ := Keeps.hle p₁.1
  obtain ⟨l, rfl⟩ := p₁.2.lst_ref
  have hx := p₁.2
  cases hx with
  | lst hl hc hd hr =>
    rename_i o vs n
    have hlh := (ro.ext k₁).on _ _ hl
    have hL : s₁.heap.IsList l vs.toArray := ⟨o, hlh, hc.1, n, hd⟩
    refine wpAny_pyIter_list hL ?_
    have kp := Keeps.push s₁ { cls := .type "list_iterator", data := .fields #[.ref l, .int 0 0] }
    have hsn : s.heap.get? s₁.heap.objs.size = none := by
      cases e : s.heap.get? s₁.heap.objs.size with
      | none => rfl
      | some o' => have := k₁ _ _ e; rw [fresh_none] at this; (have q_ := oNS this; clear this; exact q_.elim)
    have hne : l ≠ s₁.heap.objs.size := fun h => by rw [h, fresh_none] at hlh; (have q_ := oNS hlh; clear hlh; exact q_.elim)
    have up : (R.ext s.heap s₁.heap).le ((R.ext s.heap (s₁.heap.push { cls := .type "list_iterator", data := .fields #[.ref l, .int 0 0] })).minus [s₁.heap.objs.size]) := fun a o e =>
      Reg.minus_some (fun h => by
        have := (ro.ext k₁).on a o e
        rw [List.mem_singleton.mp h, fresh_none] at this; (have q_ := oNS this; clear this; exact q_.elim)) (Reg.ext_step k₁ (Keeps.hle kp) a o e)
    refine ⟨Keeps.tr p₁.1 kp, [s₁.heap.objs.size], _, iter_list (up _ _ hl) hc.1 hd (hr.mono up) (Reg.minus_off (by simp)), ⟨⟨_, Heap.get?_push_size _ rfl, rfl, rfl⟩, hL.push _⟩, fun a ha => by rw [List.mem_singleton.mp ha]; exact hsn⟩
end
end Mine
end
noncomputable section
open PySem PySem.W PyProof.Rows PySem.SeqAt PySem.MeetsSeq
set_option Elab.async false
set_option autoImplicit false
namespace Mine

noncomputable def clFrom (env : Env) : List (Str × NameKind) → List (Str × Addr) → List (Str × Addr)
  | [], acc => acc
  | (n, k) :: r, acc => if k == .free then clFrom env r ((n, (env.cells.lookup n).getD 0) :: acc) else clFrom env r acc
theorem forIn_cl (env : Env) (f : Str × NameKind → List (Str × Addr) → Sem (ForInStep (List (Str × Addr))))
    (hf : ∀ n k cs, f (n, k) cs = if k == .free then (do let a ← cellOf env n; pure (.yield ((n, a) :: cs))) else pure (.yield cs)) :
    ∀ (names : List (Str × NameKind)) (acc : List (Str × Addr)), (∀ p ∈ names, p.2 = .free → (env.cells.lookup p.1).isSome = true) → forIn names acc f = pure (clFrom env names acc)
  | [], acc, _ => by rw [List.forIn_nil]; rfl
  | (n, k) :: r, acc, h => by
    rw [List.forIn_cons, hf]
    unfold clFrom
    by_cases hk : (k == NameKind.free) = true
    · rw [if_pos hk, if_pos hk]
      obtain ⟨c, hc⟩ := Option.isSome_iff_exists.mp (h (n, k) List.mem_cons_self (by simpa using hk))
      have e : cellOf env n = pure c := by unfold cellOf; rw [hc]
      rw [e, hc]
      exact forIn_cl env f hf r _ fun p hp => h p (List.mem_cons_of_mem _ hp)
    · rw [if_neg hk, if_neg hk]
      exact forIn_cl env f hf r _ fun p hp => h p (List.mem_cons_of_mem _ hp)
theorem closure_eq {scope : Scope} {env : Env} (h : ∀ p ∈ scope.names, p.2 = .free → (env.cells.lookup p.1).isSome = true) : closureFor scope env = pure (clFrom env scope.names []) := by
  have := forIn_cl env (fun (p : Str × NameKind) (cs : List (Str × Addr)) => if p.2 == NameKind.free then (do let a ← cellOf env p.1; pure (ForInStep.yield ((p.1, a) :: cs))) else pure (ForInStep.yield cs)) (fun n k cs => rfl) scope.names [] h
  show (forIn scope.names [] (fun (p : Str × NameKind) (cs : List (Str × Addr)) => if p.2 == NameKind.free then (do let a ← cellOf env p.1; pure (ForInStep.yield ((p.1, a) :: cs))) else pure (ForInStep.yield cs)) >>= fun cs => pure cs) = _
  rw [this]; rfl
theorem clFrom_lookup {env : Env} {x : Str} {c : Addr} : ∀ (names : List (Str × NameKind)) (acc : List (Str × Addr)), (∀ p ∈ names, p.2 = .free → (env.cells.lookup p.1).isSome = true) → (clFrom env names acc).lookup x = some c →
    ((x, NameKind.free) ∈ names ∧ env.cells.lookup x = some c) ∨ acc.lookup x = some c
  | [], acc, _, e => .inr e
  | (n, k) :: r, acc, h, e => by
    unfold clFrom at e
    by_cases hk : (k == NameKind.free) = true
    · rw [if_pos hk] at e
      obtain ⟨c', hc⟩ := Option.isSome_iff_exists.mp (h (n, k) List.mem_cons_self (by simpa using hk))
      rcases clFrom_lookup r _ (fun p hp => h p (List.mem_cons_of_mem _ hp)) e with q | q
      · exact .inl ⟨List.mem_cons_of_mem _ q.1, q.2⟩
      · rw [List.lookup_cons] at q
        by_cases hx : (x == n) = true
        · simp only [hx, hc, Option.getD_some] at q
          have hxn := eq_of_beq hx
          have hk' : k = .free := by simpa using hk
          subst hxn hk'
          exact .inl ⟨List.mem_cons_self, by rw [hc, ← q]⟩
        · simp only [hx] at q; exact .inr q
    · rw [if_neg hk] at e
      rcases clFrom_lookup r _ (fun p hp => h p (List.mem_cons_of_mem _ hp)) e with q | q
      · exact .inl ⟨List.mem_cons_of_mem _ q.1, q.2⟩
      · exact .inr q
theorem clFrom_some {env : Env} {x : Str} : ∀ (names : List (Str × NameKind)) (acc : List (Str × Addr)), ((x, NameKind.free) ∈ names ∨ (acc.lookup x).isSome = true) → ((clFrom env names acc).lookup x).isSome = true
  | [], acc, h => h.elim (fun h => (nomatch h)) id
  | (n, k) :: r, acc, h => by
    unfold clFrom
    by_cases hk : (k == NameKind.free) = true
    · rw [if_pos hk]
      refine clFrom_some r _ ?_
      rcases h with h | h
      · rcases List.mem_cons.mp h with e | h
        · cases e; exact .inr (by simp [List.lookup_cons])
        · exact .inl h
      · refine .inr ?_
        rw [List.lookup_cons]
        split
        · rfl
        · exact h
    · rw [if_neg hk]
      refine clFrom_some r _ ?_
      rcases h with h | h
      · rcases List.mem_cons.mp h with e | h
        · cases e; exact absurd rfl hk
        · exact .inl h
      · exact .inr h

theorem cellsFrom_acc : ∀ (names : List (Str × NameKind)) (n : Nat) (acc : List (Str × Addr)), cellsFrom n names acc = cellsFrom n names [] ++ acc
  | [], _, _ => rfl
  | (x, k) :: r, n, acc => by
    unfold cellsFrom
    by_cases hk : (k == NameKind.cell) = true
    · rw [if_pos hk, if_pos hk, cellsFrom_acc r (n + 1) ((x, n) :: acc), cellsFrom_acc r (n + 1) [(x, n)], List.append_assoc]; rfl
    · rw [if_neg hk, if_neg hk]; exact cellsFrom_acc r n acc
theorem lookup_append' {x : Str} : ∀ (l l' : List (Str × Addr)), (l ++ l').lookup x = (l.lookup x).or (l'.lookup x)
  | [], l' => by simp
  | (y, c) :: r, l' => by
    rw [List.cons_append, List.lookup_cons, List.lookup_cons]
    split
    · rfl
    · exact lookup_append' r l'

theorem newEnv_comp {M : Model} {A : Around} {E : Value → Shared → Prop} {s : Shared} {scope : Scope} {g : Addr} {cl : List (Str × Addr)} {qual : Str} {env : Env} {Q : Env → Shared → Prop}
    (h : Q (newEnv scope s.heap.objs.size g (cellsFrom (s.heap.objs.size + 1) scope.names cl) qual none .none (some env) builtinsNs) { s with heap := pushCells (s.heap.push { cls := .type "dict", data := .dict #[] }) scope.names }) :
    wpAny M A (newFunctionEnv scope g cl [] qual none .none (some env)) Q E s := by
  simp only [newFunctionEnv, Option.isSome_some, if_true]
  refine wpAny_bind (wpAny_alloc ?_)
  refine wpAny_bind (wpAny_layCells _ (fun name kind cells => by cases hkc : kind == NameKind.cell <;> simp [hkc]) _ _ _ _ ?_)
  rw [show ({ s with heap := s.heap.push { cls := .type "dict", data := .dict #[] } } : Shared).heap.objs.size = s.heap.objs.size + 1 from Heap.size_push ..]
  exact wpAny_pure h

noncomputable def relab (scope sc : Scope) : Scope :=
  { scope with names := scope.names.map fun (n, k) => if (k == .free && sc.kind == .function && sc.names.lookup n == some .cell) then (n, .cell) else (n, k) }
theorem lookup_relab {sc : Scope} {x : Str} : ∀ (names : List (Str × NameKind)), (names.map fun (n, k) => if (k == NameKind.free && sc.kind == .function && sc.names.lookup n == some .cell) then (n, NameKind.cell) else (n, k)).lookup x =
    (names.lookup x).map fun k => if (k == NameKind.free && sc.kind == .function && sc.names.lookup x == some .cell) then .cell else k
  | [] => rfl
  | (n, k) :: r => by
    have ih := @lookup_relab sc x r
    rw [List.map_cons]
    show List.lookup x ((if (k == NameKind.free && sc.kind == .function && sc.names.lookup n == some .cell) = true then (n, NameKind.cell) else (n, k)) :: _) = _
    by_cases hx : (x == n) = true
    · have e := eq_of_beq hx
      subst e
      by_cases hc : (k == NameKind.free && sc.kind == .function && sc.names.lookup x == some .cell) = true
      · rw [if_pos hc]; simp only [List.lookup_cons, beq_self_eq_true, Option.map_some]; rw [if_pos hc]
      · rw [if_neg hc]; simp only [List.lookup_cons, beq_self_eq_true, Option.map_some]; rw [if_neg hc]
    · have hx' : (x == n) = false := by simpa using hx
      by_cases hc : (k == NameKind.free && sc.kind == .function && sc.names.lookup n == some .cell) = true
      · rw [if_pos hc]; simp only [List.lookup_cons, hx']; exact ih
      · rw [if_neg hc]; simp only [List.lookup_cons, hx']; exact ih

noncomputable def inner (scope : Scope) (Δ : Vars) : Vars := fun x => match scope.names.lookup x with | some .free => Δ x | _ => none

structure CompOk (sc scope : Scope) (Δ : Vars) (xs : List Str) : Prop where
  kind : scope.kind = .function
  free : ∀ p ∈ scope.names, p.2 = .free → (Δ p.1).isSome = true ∧ (sc.names.lookup p.1 = some .cell ∨ sc.names.lookup p.1 = some .free)
  names : ∀ p ∈ scope.names, p.2 = .local → scope.names.lookup p.1 = some .local
  tgt : ∀ x ∈ xs, scope.names.lookup x = some .local ∨ scope.names.lookup x = some .cell
  uniq : (scope.names.map (·.1)).Nodup
theorem uniq_kind : ∀ {l : List (Str × NameKind)}, (l.map (·.1)).Nodup → ∀ {x : Str} {k k' : NameKind}, (x, k) ∈ l → (x, k') ∈ l → k = k'
  | p :: r, h, x, k, k', h1, h2 => by
    rw [List.map_cons, List.nodup_cons] at h
    rcases List.mem_cons.mp h1 with e1 | m1 <;> rcases List.mem_cons.mp h2 with e2 | m2
    · rw [← e1] at e2; cases e2; rfl
    · exact absurd (List.mem_map.mpr ⟨_, m2, rfl⟩) (by rw [← e1] at h; exact h.1)
    · exact absurd (List.mem_map.mpr ⟨_, m1, rfl⟩) (by rw [← e2] at h; exact h.1)
    · exact uniq_kind h.2 m1 m2
theorem mem_kind {x : Str} {k : NameKind} : ∀ {l : List (Str × NameKind)}, l.lookup x = some k → (x, k) ∈ l
  | [], h => by (have q_ := oNS h; clear h; exact q_.elim)
  | (n, k') :: r, h => by
    rw [List.lookup_cons] at h
    split at h
    · rename_i hb; (have q_ := oSS h; clear h; subst q_); rw [eq_of_beq hb]; exact List.mem_cons_self
    · exact List.mem_cons_of_mem _ (mem_kind h)
theorem mem_cells {x : Str} {c : Addr} : ∀ {l : List (Str × NameKind)} {n : Nat}, (cellsFrom n l []).lookup x = some c → (x, NameKind.cell) ∈ l
  | [], n, h => by (have q_ := oNS h; clear h; exact q_.elim)
  | (y, k) :: r, n, h => by
    unfold cellsFrom at h
    by_cases hk : (k == NameKind.cell) = true
    · rw [if_pos hk, cellsFrom_acc, lookup_append'] at h
      cases h2 : (cellsFrom (n + 1) r []).lookup x with
      | some c2 => exact List.mem_cons_of_mem _ (mem_cells h2)
      | none =>
        rw [h2] at h
        simp only [Option.none_or, List.lookup_cons] at h
        split at h
        · rename_i hb; rw [eq_of_beq hb, show k = NameKind.cell from by simpa using hk]; exact List.mem_cons_self
        · (have q_ := oNS h; clear h; exact q_.elim)
    · rw [if_neg hk] at h; exact List.mem_cons_of_mem _ (mem_cells h)

theorem cells_some {x : Str} : ∀ (names : List (Str × NameKind)) (n : Nat), names.lookup x = some .cell → ∃ c, (cellsFrom n names []).lookup x = some c := by
  intro names n h
  exact Option.isSome_iff_exists.mp (cellsFrom_some names n [] (.inl h))

noncomputable def FrameAt (W : List Addr) (L : Addr) (h : Heap) : Prop := (∃ m, h.Ns L m) ∧ ∀ c ∈ W, c ≠ L → ∃ v, h.IsCell c v
theorem comp_frame {C : Cx} {sc scope : Scope} {env : Env} {s₀ s : Shared} {R : Reg} {Δ : Vars} {xs : List Str} {qual : Str} (hc : CompOk sc scope Δ xs) (k₀ : hle s₀.heap s.heap) (eo : EnvOk sc env s₀.heap R Δ) :
    ∃ cl W h', closureFor scope env = pure cl ∧ (∀ A E Q, (∀ cenv, cenv.locals = s.heap.objs.size → cenv.locals ∈ W → FrameAt W cenv.locals h' → (∀ h'' R', hle s₀.heap h'' → FrameAt W cenv.locals h'' → R.le R' → (∀ a ∈ W, R' a = none) → EnvW (relab scope sc) { cenv with scope := relabel scope env } h'' R' (inner scope Δ) W) →
        (∀ x ∈ xs, Stor (relab scope sc) { cenv with scope := relabel scope env } W x) → Q cenv { s with heap := h' }) → wpAny C.M A (newFunctionEnv scope env.globals cl [] qual none .none (some env)) Q E s) ∧
      hle s.heap h' ∧ (∀ a ∈ W, s.heap.get? a = none) := by
  have hcells : ∀ p ∈ scope.names, p.2 = .free → ∃ c v, env.cells.lookup p.1 = some c ∧ s₀.heap.IsCell c (some v) := fun p hp hf => by
    obtain ⟨h1, h2⟩ := hc.free p hp hf
    obtain ⟨d, hd⟩ := Option.isSome_iff_exists.mp h1
    obtain ⟨v, hv, _⟩ := eo.vars _ _ hd
    rcases hv with ⟨a, _⟩ | ⟨a, c, b, e⟩ | ⟨a, c, b, e⟩
    · have a' : sc.names.lookup p.1 = some .local := by rw [← eo.hsc]; exact a
      rcases h2 with h2 | h2 <;> rw [a'] at h2 <;> cases h2
    · exact ⟨c, v, b, e⟩
    · exact ⟨c, v, b, e⟩
  have hsome : ∀ p ∈ scope.names, p.2 = .free → (env.cells.lookup p.1).isSome = true := fun p hp hf => by
    obtain ⟨c, _, e, _⟩ := hcells p hp hf; rw [e]; rfl
  generalize hcl : clFrom env scope.names [] = cl
  have clok : ∀ x c, cl.lookup x = some c → (x, NameKind.free) ∈ scope.names ∧ env.cells.lookup x = some c := fun x c e => by
    rw [← hcl] at e
    rcases clFrom_lookup _ _ hsome e with q | q
    · exact q
    · (have q_ := oNS q; clear q; exact q_.elim)
  have clold : ∀ x c, cl.lookup x = some c → ∃ v, s.heap.IsCell c (some v) := fun x c e => by
    obtain ⟨a, b⟩ := clok x c e
    obtain ⟨c', v, e', z⟩ := hcells _ a rfl
    rw [b] at e'; (have q_ := oSS e'; clear e'; subst q_); exact ⟨v, z.keeps k₀⟩
  have hsize : (s.heap.push { cls := .type "dict", data := .dict #[] }).objs.size = s.heap.objs.size + 1 := Heap.size_push ..
  have own := cellsFrom_ok scope.names (s.heap.push { cls := .type "dict", data := .dict #[] }) (s.heap.objs.size + 1) [] ⟨fun _ _ hm => (nomatch hm), List.Pairwise.nil⟩ (by rw [hsize]; exact Nat.le_refl _)
  rw [hsize] at own
  generalize hown : cellsFrom (s.heap.objs.size + 1) scope.names [] = ow at own
  have keep : hle s.heap (pushCells (s.heap.push { cls := .type "dict", data := .dict #[] }) scope.names) := fun b o e => pushCells_keeps _ _ b o (Heap.get?_push_of_some _ e)
  have fresh : ∀ a, s.heap.objs.size ≤ a → s.heap.get? a = none := fun a ha => by
    cases e : s.heap.get? a with
    | none => rfl
    | some o' => exact absurd (Heap.lt_size e) (Nat.not_lt.mpr ha)
  refine ⟨cl, s.heap.objs.size :: ow.map (·.2), _, by rw [closure_eq hsome, hcl], fun A E Q hQ => newEnv_comp (hQ _ rfl List.mem_cons_self ?_ ?_ ?_), keep, ?_⟩
  · refine ⟨⟨_, (Heap.Ns.new s.heap (.type "dict")).keeps (pushCells_keeps _ _)⟩, fun c hcW hne => ?_⟩
    rcases List.mem_cons.mp hcW with h | h
    · exact absurd h hne
    · obtain ⟨⟨y, c'⟩, hm, rfl⟩ := List.mem_map.mp h
      exact ⟨none, (own.empty _ _ hm).1⟩
  · intro h'' R' k'' fr hle hoff
    rw [cellsFrom_acc, hown]
    have look : ∀ x c, (ow ++ cl).lookup x = some c → ow.lookup x = some c ∨ cl.lookup x = some c := fun x c e => by
      rw [lookup_append'] at e
      cases h1 : ow.lookup x with
      | none => rw [h1] at e; exact .inr (by simpa using e)
      | some c' => rw [h1] at e; exact .inl (by simpa using e)
    have old : ∀ x c, cl.lookup x = some c → c < s.heap.objs.size := fun x c e => let ⟨_, z⟩ := clold x c e; z.lt
    have new : ∀ x c, ow.lookup x = some c → s.heap.objs.size + 1 ≤ c := fun x c e => (own.empty x c (mem_of_lookup e)).2
    refine ⟨⟨by rw [← eo.hsc]; rfl, hc.kind, eo.gl, eo.bl, fun x d hd => ?_⟩, fr.1, List.mem_cons_self, fr.2, hoff, fun x y c hcW hcx hcy => ?_, fun x hx => ?_, fun x c hx => ?_⟩
    · simp only [inner] at hd
      split at hd <;> try (have q_ := oNS hd; clear hd; exact q_.elim)
      rename_i hlk
      obtain ⟨v, hv, hr⟩ := eo.vars x d hd
      refine ⟨v, ?_, hr.mono hle⟩
      have hmem : (x, NameKind.free) ∈ scope.names := mem_kind hlk
      obtain ⟨c, v', hcx, hcell⟩ := hcells _ hmem rfl
      have hv' : v' = v := by
        rcases hv with ⟨a, _⟩ | ⟨a, c2, b, e⟩ | ⟨a, c2, b, e⟩
        · have a' : sc.names.lookup x = some .local := by rw [← eo.hsc]; exact a
          rcases (hc.free _ hmem rfl).2 with h2 | h2 <;> rw [a'] at h2 <;> cases h2
        · rw [hcx] at b; (have q_ := oSS b; clear b; subst q_)
          obtain ⟨o1, e1, d1⟩ := hcell; obtain ⟨o2, e2, d2⟩ := e
          rw [e1] at e2; (have q_ := oSS e2; clear e2; subst q_); rw [d1] at d2; cases d2; rfl
        · rw [hcx] at b; (have q_ := oSS b; clear b; subst q_)
          obtain ⟨o1, e1, d1⟩ := hcell; obtain ⟨o2, e2, d2⟩ := e
          rw [e1] at e2; (have q_ := oSS e2; clear e2; subst q_); rw [d1] at d2; cases d2; rfl
      subst hv'
      have hncell : ow.lookup x = none := by
        cases h1 : ow.lookup x with
        | none => rfl
        | some c' =>
          exfalso
          rw [← hown] at h1
          have := uniq_kind hc.uniq hmem (mem_cells h1)
          cases this
      have hclx : cl.lookup x = some c := by
        obtain ⟨c', e'⟩ := Option.isSome_iff_exists.mp (clFrom_some (env := env) scope.names [] (.inl hmem))
        rw [hcl] at e'
        have := (clok x c' e').2
        rw [hcx] at this; (have q_ := oSS this; clear this; subst q_); exact e'
      have hlook : (ow ++ cl).lookup x = some c := by rw [lookup_append', hncell, hclx]; rfl
      have hkind : Env.kindOf { newEnv scope s.heap.objs.size env.globals (ow ++ cl) qual none .none (some env) builtinsNs with scope := relabel scope env } x = some .cell ∨
          Env.kindOf { newEnv scope s.heap.objs.size env.globals (ow ++ cl) qual none .none (some env) builtinsNs with scope := relabel scope env } x = some .free := by
        show List.lookup x (scope.names.map _) = _ ∨ List.lookup x (scope.names.map _) = _
        have e := lookup_relab (sc := env.scope) (x := x) scope.names
        rw [hlk, Option.map_some] at e
        by_cases hq : (NameKind.free == NameKind.free && env.scope.kind == .function && env.scope.names.lookup x == some .cell) = true
        · rw [if_pos hq] at e; exact .inl e
        · rw [if_neg hq] at e; exact .inr e
      rcases hkind with q | q
      · exact .inr (.inl ⟨q, c, hlook, hcell.keeps k''⟩)
      · exact .inr (.inr ⟨q, c, hlook, hcell.keeps k''⟩)
    · have big : s.heap.objs.size ≤ c := by
        rcases List.mem_cons.mp hcW with h | h
        · exact Nat.le_of_eq h.symm
        · obtain ⟨⟨y', c'⟩, hm, rfl⟩ := List.mem_map.mp h
          exact Nat.le_of_succ_le (own.empty _ _ hm).2
      rcases look x _ hcx with h1 | h1
      · rcases look y _ hcy with h2 | h2
        · exact name_of_addr own.apart (mem_of_lookup h1) (mem_of_lookup h2)
        · exact absurd (old _ _ h2) (Nat.not_lt.mpr big)
      · exact absurd (old _ _ h1) (Nat.not_lt.mpr big)
    · rcases look x _ hx with h | h
      · have := new _ _ h
        exact absurd this (Nat.not_le.mpr (Nat.lt_succ_self _))
      · exact absurd (old _ _ h) (Nat.lt_irrefl _)
    · rcases look x _ hx with h | h
      · have hm := mem_of_lookup h
        obtain ⟨v, o, z, zd⟩ := fr.2 c (List.mem_cons_of_mem _ (List.mem_map.mpr ⟨_, hm, rfl⟩)) (fun q => by
          have h9 := new _ _ h
          have q' : c = s.heap.objs.size := q
          rw [q'] at h9
          exact Nat.not_succ_le_self _ h9)
        exact ⟨v, o, z, zd⟩
      · obtain ⟨a, b⟩ := clok x c h
        obtain ⟨c', v, e', o, z, zd⟩ := hcells _ a rfl
        rw [b] at e'; (have q_ := oSS e'; clear e'; subst q_)
        exact ⟨_, o, k'' _ _ z, zd⟩
  · intro x hx
    rw [cellsFrom_acc, hown]
    rcases hc.tgt x hx with h | h
    · left
      show List.lookup x (scope.names.map _) = _
      rw [lookup_relab, h]; rfl
    · right
      refine ⟨?_, ?_⟩
      · show List.lookup x (scope.names.map _) = _
        rw [lookup_relab, h]; rfl
      · obtain ⟨c, hcx⟩ := cells_some scope.names (s.heap.objs.size + 1) h
        rw [hown] at hcx
        exact ⟨c, by show (ow ++ cl).lookup x = some c; rw [lookup_append', hcx]; rfl, List.mem_cons_of_mem _ (List.mem_map.mpr ⟨_, mem_of_lookup hcx, rfl⟩)⟩
  · intro a ha
    rcases List.mem_cons.mp ha with h | h
    · rw [h]; exact fresh _ (Nat.le_refl _)
    · obtain ⟨⟨y, c'⟩, hm, rfl⟩ := List.mem_map.mp h
      exact fresh _ (Nat.le_of_succ_le (own.empty _ _ hm).2)
end Mine
end
noncomputable section
open PySem PySem.W PyProof.Rows PySem.SeqAt PySem.MeetsSeq
set_option Elab.async false
set_option autoImplicit false
namespace Mine

noncomputable def EvTs (C : Cx) (n : Nat) (sc : Scope) (Δ : Vars) : List Expr → Bool → Prop
  | [], b => b = true
  | [c], b => EvT C n sc Δ c b
  | _, _ => False

theorem FrameAt.but {W V : List Addr} {L : Addr} {s s' : Shared} (f : FrameAt W L s.heap) (k : KeepsBut V s s') (hL : L ∉ V) (hW : ∀ a ∈ W, a ∉ V) : FrameAt W L s'.heap :=
  ⟨let ⟨m, x⟩ := f.1; ⟨m, x.at' fun o e => k.get hL e⟩, fun c hc hn => by
    obtain ⟨v, o, x, d⟩ := f.2 c hc hn
    exact ⟨v, o, k.get (hW c hc) x, d⟩⟩
theorem EnvW.frame {sc : Scope} {env : Env} {h : Heap} {R : Reg} {Δ : Vars} {W : List Addr} (e : EnvW sc env h R Δ W) : FrameAt W env.locals h := ⟨e.ns, e.alive⟩

theorem tests_run {C : Cx} {n : Nat} {sc : Scope} {Δ : Vars} {ifs : List Expr} {b : Bool} {A : Around} {env : Env} {s : Shared} {R : Reg} (h : EvTs C n sc Δ ifs b) (rm : Room n A) (ro : Rok C R s.heap) (eo : EnvOk sc env s.heap R Δ) :
    wpAny C.M A (forIn ifs true fun c r => if r = true then do let ok ← isTrue c env (eval c env); pure (ForInStep.yield ok) else pure (ForInStep.yield r)) (fun ok s' => Keeps s s' ∧ ok = b) NoE s := by
  match ifs, h with
  | [], h => exact wpAny_tests_nil ⟨Keeps.rfl' _, h.symm⟩
  | [c], h => exact wpAny_tests_one (h A env s R rm ro eo)

noncomputable def IsNewL (o : Obj) : Prop := ∃ (vs : List Value) (n : Nat), o = { cls := .type "list", data := .seq vs.toArray n }
noncomputable def EvF (C : Cx) (n : Nat) (sc : Scope) (Δ : Vars) (e : Expr) (d : Dat) (nw : Bool) : Prop :=
  ∀ A env s R, Room n A → Rok C R s.heap → EnvOk sc env s.heap R Δ → wpAny C.M A (eval e env) (fun v s' => Post s R d v s' ∧ (nw = true → ∃ b o, v = .ref b ∧ s.heap.get? b = none ∧ s'.heap.get? b = some o ∧ IsNewL o)) NoE s
theorem Ev.f {C : Cx} {n : Nat} {sc : Scope} {Δ : Vars} {e : Expr} {d : Dat} (h : Ev C n sc Δ e d) : EvF C n sc Δ e d false := fun A env s R rm ro eo => noE (h A env s R rm ro eo) fun _ _ p => ⟨p, fun q => Bool.noConfusion q⟩
noncomputable def NewI (nw : Bool) (h₀ : Heap) (V : List Addr) (ys : List Value) (h : Heap) : Prop :=
  nw = true → ys.Nodup ∧ ∀ z ∈ ys, ∃ c o, z = .ref c ∧ h.get? c = some o ∧ h₀.get? c = none ∧ c ∉ V ∧ IsNewL o
theorem NewI.but {nw : Bool} {h₀ : Heap} {V : List Addr} {ys : List Value} {s s' : Shared} (x : NewI nw h₀ V ys s.heap) (k : KeepsBut V s s') : NewI nw h₀ V ys s'.heap := fun q =>
  let ⟨n, a⟩ := x q
  ⟨n, fun z hz => let ⟨c, o, e, g, f, v, il⟩ := a z hz; ⟨c, o, e, k.get v g, f, v, il⟩⟩
theorem NewI.push {nw : Bool} {V : List Addr} {ys : List Value} {y : Value} {s₀ s s' : Shared} (x : NewI nw s₀.heap V ys s.heap) (k₀ : Keeps s₀ s) (k : Keeps s s') (al : ∀ a ∈ V, ∃ o, s.heap.get? a = some o) (h : nw = true → ∃ b o, y = .ref b ∧ s.heap.get? b = none ∧ s'.heap.get? b = some o ∧ IsNewL o) : NewI nw s₀.heap V (ys ++ [y]) s'.heap := fun q => by
  obtain ⟨n, a⟩ := x q
  obtain ⟨b, o, rfl, g, g', il⟩ := h q
  refine ⟨List.nodup_append.mpr ⟨n, by simp, fun z hz w hw e => ?_⟩, fun z hz => ?_⟩
  · obtain ⟨c, oc, rfl, gc, _⟩ := a z hz
    rw [List.mem_singleton.mp hw] at e
    (have q_ := vRR e; clear e; subst q_)
    rw [g] at gc; (have q_ := oNS gc; clear gc; exact q_.elim)
  · rcases List.mem_append.mp hz with hz | hz
    · obtain ⟨c, oc, rfl, gc, f, v⟩ := a z hz
      exact ⟨c, oc, rfl, Keeps.hle k _ _ gc, f, v⟩
    · refine ⟨b, o, List.mem_singleton.mp hz, g', ?_, fun hb => ?_, il⟩
      · cases e : s₀.heap.get? b with
        | none => rfl
        | some o' => rw [Keeps.hle k₀ _ _ e] at g; (have q_ := oSN g; clear g; exact q_.elim)
      · obtain ⟨o', e⟩ := al b hb; rw [g] at e; (have q_ := oNS e; clear e; exact q_.elim)
theorem comp_loop {α : Type} {C : Cx} {n : Nat} {sc : Scope} {Δ : Vars} {L : List α} {enc : α → Dat} {tds : α → List Dat} {p : α → Bool} {f : α → Dat} {xs : List Str} {A : Around} {s s₁ : Shared} {R R₀ : Reg} {it : Value} {wr W : List Addr} {St : Nat → Heap → Prop} {Md : Nat → Value → Heap → Prop} {TO : Expr → Prop} {D : Addr} {cenv : Env}
    {elt target iter : Expr} {ifs : List Expr} {scope : Scope} {pos : Pos} {nw : Bool} {RR : Result → Shared → Prop} (rm : Room n A) (ro : Rok C R s.heap) (k₁ : Keeps s s₁) (It : IterM C it wr (L.map enc) R₀ St Md TO) (hTO : TO target) (hst : St 0 s₁.heap) (hR₀ : R₀.le (Rl s R (wr ++ D :: W) s₁.heap))
    (fresh : ∀ a ∈ wr ++ D :: W, s.heap.get? a = none) (hDr : D ∉ wr) (hDW : D ∉ W) (hWr : ∀ a ∈ W, a ∉ wr) (hLW : cenv.locals ∈ W) (hD : s₁.heap.PlainList D #[]) (fr : FrameAt W cenv.locals s₁.heap)
    (hE : ∀ h'' R', hle s.heap h'' → FrameAt W cenv.locals h'' → R.le R' → (∀ a ∈ W, R' a = none) → EnvW sc cenv h'' R' Δ W) (hS : ∀ x ∈ xs, Stor sc cenv W x)
    (hT : ∀ a ∈ L, Tgt target (enc a) xs (tds a)) (ht : ∀ a ∈ L, EvTs C n sc (updAll Δ xs (tds a)) ifs (p a)) (he : ∀ a ∈ L, p a = true → EvF C n sc (updAll Δ xs (tds a)) elt (f a) nw) (hlen : L.length ≤ sizeLine)
    (hRR : ∀ s' (ys : Array Value), Keeps s s' → s'.heap.PlainList D ys → RdAll (Rl s R (wr ++ D :: W) s'.heap) ys.toList ((L.filter p).map f) → FrameAt W cenv.locals s'.heap → NewI nw s.heap (wr ++ D :: W) ys.toList s'.heap → RR (.ok .next) s') :
    codeAny C.M A (.compLoop (.ListComp elt [⟨target, iter, ifs, 0⟩] scope pos) 0 it (.ref D) cenv) RR s₁ := by
  generalize hV : wr ++ D :: W = V at *
  have inV : ∀ a, a ∈ V ↔ a ∈ wr ∨ a = D ∨ a ∈ W := fun a => by rw [← hV]; simp
  have wrV : ∀ a ∈ wr, a ∈ V := fun a h => (inV a).mpr (.inl h)
  have WV : ∀ a ∈ W, a ∈ V := fun a h => (inV a).mpr (.inr (.inr h))
  have DV : D ∈ V := (inV D).mpr (.inr (.inl rfl))
  refine codeAny_loop rfl (fun k s' => ∃ i ys, i ≤ L.length ∧ k = L.length + 1 - i ∧ Keeps s s' ∧ KeepsBut V s₁ s' ∧ St i s'.heap ∧ s'.heap.PlainList D ys ∧ RdAll (Rl s R V s'.heap) ys.toList (((L.take i).filter p).map f) ∧ FrameAt W cenv.locals s'.heap ∧ NewI nw s.heap V ys.toList s'.heap) (fun k s' hI => ?_) (L.length + 1)
    ⟨0, #[], Nat.zero_le _, rfl, k₁, .rfl' _ _, hst, hD, .nil, fr, fun _ => ⟨List.nodup_nil, fun z hz => nomatch hz⟩⟩
  obtain ⟨i, ys, hi, rfl, kS, kV, st, hl, hr, fr', ni⟩ := hI
  have alV : ∀ {s' : Shared} {i : Nat} {ys : Array Value}, St i s'.heap → s'.heap.PlainList D ys → FrameAt W cenv.locals s'.heap → ∀ a ∈ V, ∃ o, s'.heap.get? a = some o := fun st hl fr a ha => by
    rcases (inV a).mp ha with h | rfl | h
    · exact It.alive _ _ st a h
    · obtain ⟨n, e⟩ := hl; exact ⟨_, e⟩
    · by_cases hn : a = cenv.locals
      · subst hn; obtain ⟨m, o, _, _, e, _⟩ := fr.1; exact ⟨o, e⟩
      · obtain ⟨v, o, e, _⟩ := fr.2 a h hn; exact ⟨o, e⟩
  have rlV : ∀ {h : Heap} (a : Addr), a ∈ V → Rl s R V h a = none := fun a h => Reg.minus_off h
  have r0 : ∀ {s' : Shared}, KeepsBut V s₁ s' → R₀.le (Rl s R V s'.heap) := fun kV => hR₀.trans (rl_le k₁ kV)
  show wpAny C.M A ((compTurn (.ListComp elt [⟨target, iter, ifs, 0⟩] scope pos) 0 it (.ref D) cenv).onRaise (fun x => do noteFrame x cenv; theTreesLotGoes x)) _ _ s'
  refine wpAny_noted ?_
  rw [compTurn_list]
  refine wpAny_bind (wpAny_standAt (wpAny_bind ?_))
  by_cases hlt : i < L.length
  · have hg : (L.map enc)[i]? = some (enc L[i]) := by simp [hlt]
    have hmem : L[i] ∈ L := List.getElem_mem hlt
    refine noE (It.next A i s' (Rl s R V s'.heap) _ rm.handled hg st (r0 kV) (rl_on ro.on (Keeps.hle kS)) (fun a ha => rlV a (wrV a ha))) fun r s₂ h₂ => ?_
    obtain ⟨v, rfl, st₂, kb₂, hv⟩ := h₂
    have kb₂' : KeepsBut V s' s₂ := kb₂.sub wrV
    have kS₂ : Keeps s s₂ := kb₂'.keeps kS fresh
    have al := alV st hl fr'
    have hv' : Rd (Rl s R V s₂.heap) v (enc L[i]) := hv.mono (rl_step kS kS₂ kb₂' al)
    have hl₂ : s₂.heap.PlainList D ys := hl.at fun o e => kb₂.get hDr e
    have fr₂ : FrameAt W cenv.locals s₂.heap := fr'.but kb₂ (hWr _ hLW) hWr
    refine wpAny_bind (It.letgo A (i + 1) s₂ target v _ _ hTO st₂ fun s₃ st₃ kb₃ => ?_)
    have kb₃' : KeepsBut V s₂ s₃ := kb₃.sub wrV
    have kS₃ : Keeps s s₃ := kb₃'.keeps kS₂ fresh
    have hl₃ : s₃.heap.PlainList D ys := hl₂.at fun o e => kb₃.get hDr e
    have fr₃ : FrameAt W cenv.locals s₃.heap := fr₂.but kb₃ (hWr _ hLW) hWr
    have up₃ := rl_le (R := R) kS₂ kb₃'
    have E₃ := hE s₃.heap (Rl s R V s₃.heap) (Keeps.hle kS₃) fr₃ (rl_base ro.on fresh) (fun a ha => rlV a (WV a ha))
    refine wpAny_bind (assign_tgt rm.handled (hT _ hmem) (rl_rok ro fresh (Keeps.hle kS₃)) E₃ hS (hv'.mono up₃) fun s₄ kb₄ E₄ => ?_)
    have kb₄' : KeepsBut V s₃ s₄ := kb₄.sub WV
    have kS₄ : Keeps s s₄ := kb₄'.keeps kS₃ fresh
    have hl₄ : s₄.heap.PlainList D ys := hl₃.at fun o e => kb₄.get hDW e
    have fr₄ := E₄.frame
    have up₄ := rl_le (R := R) kS₃ kb₄'
    have E₄' : EnvW sc cenv s₄.heap (Rl s R V s₄.heap) (updAll Δ xs (tds L[i])) W := E₄.keeps (hle.refl _) up₄ (fun a ha => rlV a (WV a ha))
    have st₄ : St (i + 1) s₄.heap := It.frame _ _ _ st₃ (fun b hb o e => kb₄.get (fun h => hWr b h hb) e) ((rl_on ro.on (Keeps.hle kS₄)).le (r0 (kV.tr (kb₂'.tr (kb₃'.tr kb₄'))))) (ro.mu.hle (Keeps.hle kS₄))
    refine wpAny_bind (noE (tests_run (ht _ hmem) rm (rl_rok ro fresh (Keeps.hle kS₄)) E₄'.ok) fun ok s₅ h₅ => ?_)
    obtain ⟨k₅, rfl⟩ := h₅
    have kS₅ := Keeps.tr kS₄ k₅
    have E₅ := E₄'.ext (rl_rok ro fresh (Keeps.hle kS₄)) (Keeps.hle k₅)
    have al₄ := alV st₄ hl₄ fr₄
    have up₅ := rl_step (R := R) kS₄ kS₅ (KeepsBut.of k₅) al₄
    have up₅' := (Reg.ext_le (h' := s₅.heap) (rl_on (W := V) ro.on (Keeps.hle kS₄))).trans up₅
    have E₅' : EnvW sc cenv s₅.heap (Rl s R V s₅.heap) (updAll Δ xs (tds L[i])) W := E₅.keeps (hle.refl _) up₅ (fun a ha => rlV a (WV a ha))
    have hl₅ : s₅.heap.PlainList D ys := hl₄.at fun o e => Keeps.hle k₅ _ _ e
    have st₅ : St (i + 1) s₅.heap := It.frame _ _ _ st₄ (fun b hb o e => Keeps.hle k₅ _ _ e) ((rl_on ro.on (Keeps.hle kS₅)).le (r0 (kV.tr (kb₂'.tr (kb₃'.tr (kb₄'.tr (KeepsBut.of k₅))))))) (ro.mu.hle (Keeps.hle kS₅))
    have hr₅ : RdAll (Rl s R V s₅.heap) ys.toList (((L.take i).filter p).map f) := hr.mono ((rl_le kS kb₂').trans (up₃.trans (up₄.trans up₅')))
    have kV₅ := kV.tr (kb₂'.tr (kb₃'.tr (kb₄'.tr (KeepsBut.of k₅))))
    have htk : L.take (i + 1) = L.take i ++ [L[i]] := by simp
    have ni₅ := ni.but (kb₂'.tr (kb₃'.tr (kb₄'.tr (KeepsBut.of k₅))))
    cases hp : p L[i] with
    | false =>
      exact wpAny_pure ⟨rfl, L.length + 1 - (i + 1), by omega, i + 1, ys, hlt, rfl, kS₅, kV₅, st₅, hl₅, by rw [htk, List.filter_append]; simpa [hp] using hr₅, E₅'.frame, ni₅⟩
    | true =>
      refine wpAny_bind (wpAny_bind (noE (he _ hmem hp A cenv s₅ _ rm (rl_rok ro fresh (Keeps.hle kS₅)) E₅'.ok) fun y s₆ h₆ => ?_))
      obtain ⟨⟨k₆, hy⟩, hnew⟩ := h₆
      have kS₆ := Keeps.tr kS₅ k₆
      have al₅ := alV st₅ hl₅ E₅'.frame
      have up₆ := rl_step (R := R) kS₅ kS₆ (KeepsBut.of k₆) al₅
      have up₆' := (Reg.ext_le (h' := s₆.heap) (rl_on (W := V) ro.on (Keeps.hle kS₅))).trans up₆
      have hl₆ : s₆.heap.PlainList D ys := hl₅.at fun o e => Keeps.hle k₆ _ _ e
      have hr₆ := hr₅.mono up₆'
      have hys : ys.size ≤ sizeLine := by
        have e1 := hr₆.length
        have e2 : (((L.take i).filter p).map f).length ≤ (L.take i).length := by rw [List.length_map]; exact List.length_filter_le _ _
        have e3 : (L.take i).length ≤ L.length := by rw [List.length_take]; omega
        have e4 : ys.toList.length = ys.size := by simp
        omega
      refine wpAny_bind (wpAny_list_append_plain (hsz := hys) hl₆ fun h₇ hl₇ hs₇ => wpAny_pure (wpAny_pure ⟨rfl, L.length + 1 - (i + 1), by omega, i + 1, ys.push y, hlt, rfl, ?_⟩))
      have kb₇ : KeepsBut [D] s₆ { s₆ with heap := h₇ } := ⟨h₇, s₆.toks, rfl, fun b o hb e => hs₇.extBut b o (by simpa using hb) e⟩
      have kb₇' : KeepsBut V s₆ { s₆ with heap := h₇ } := kb₇.sub fun a ha => by rw [List.mem_singleton.mp ha]; exact DV
      have kS₇ := kb₇'.keeps kS₆ fresh
      have st₆ : St (i + 1) s₆.heap := It.frame _ _ _ st₅ (fun b hb o e => Keeps.hle k₆ _ _ e) ((rl_on ro.on (Keeps.hle kS₆)).le (r0 (kV₅.tr (KeepsBut.of k₆)))) (ro.mu.hle (Keeps.hle kS₆))
      refine ⟨kS₇, kV₅.tr ((KeepsBut.of k₆).tr kb₇'), It.frame _ _ _ st₆ (fun b hb o e => kb₇.get (fun h => hDr (List.mem_singleton.mp h ▸ hb)) e) ((rl_on ro.on (Keeps.hle kS₇)).le (r0 (kV₅.tr ((KeepsBut.of k₆).tr kb₇')))) (ro.mu.hle (Keeps.hle kS₇)), hl₇, ?_, ?_, ?_⟩
      · have up₇ := rl_le (R := R) kS₆ kb₇'
        rw [htk, List.filter_append, List.map_append, Array.toList_push]
        refine (hr₆.mono up₇).append ?_
        simp only [List.filter_cons, hp, if_true, List.filter_nil, List.map_cons, List.map_nil]
        exact .cons ((hy.mono up₆).mono up₇) .nil
      · have fr₆ : FrameAt W cenv.locals s₆.heap := E₅'.frame.but (KeepsBut.of (W := []) k₆) (by simp) (by simp)
        exact fr₆.but kb₇ (fun h => hDW (List.mem_singleton.mp h ▸ hLW)) fun a ha h => hDW (List.mem_singleton.mp h ▸ ha)
      · rw [Array.toList_push]
        exact (ni₅.push kS₅ k₆ al₅ hnew).but kb₇'
  · have hin : i = L.length := by omega
    subst hin
    refine noE (It.done A s' rm.handled (by simpa using st)) fun r s₂ h₂ => ?_
    obtain ⟨rfl, kb₂⟩ := h₂
    have kb₂' : KeepsBut V s' s₂ := kb₂.sub wrV
    have kS₂ : Keeps s s₂ := kb₂'.keeps kS fresh
    refine wpAny_pure (hRR s₂ ys kS₂ (hl.at fun o e => kb₂.get hDr e) ?_ (fr'.but kb₂ (hWr _ hLW) hWr) (ni.but kb₂'))
    · have := hr.mono (rl_le (R := R) kS kb₂')
      rwa [List.take_length] at this

theorem none_of_fresh {s s' : Shared} (k : Keeps s s') {a : Addr} (h : s'.heap.get? a = none) : s.heap.get? a = none := by
  cases e : s.heap.get? a with
  | none => rfl
  | some o => rw [Keeps.hle k _ _ e] at h; (have q_ := oSN h; clear h; exact q_.elim)

theorem comp_run {α : Type} {C : Cx} {n : Nat} {sc scope : Scope} {Δ : Vars} {L : List α} {enc : α → Dat} {tds : α → List Dat} {p : α → Bool} {f : α → Dat} {xs : List Str} {A : Around} {E : Value → Shared → Prop} {s : Shared} {R : Reg} {env : Env}
    {elt target iter : Expr} {ifs : List Expr} {pos : Pos} {use : Option (Value → Sem Unit)} {Q : Value → Shared → Prop} {ps : Pos} {nw : Bool} (rm : Room n A) (ro : Rok C R s.heap) (eo : EnvOk sc env s.heap R Δ) (TO : Expr → Prop) (hit : EvItT C n sc Δ TO iter (L.map enc)) (hTO : TO target) (hc : CompOk sc scope Δ xs)
    (hT : ∀ a ∈ L, Tgt target (enc a) xs (tds a)) (ht : ∀ a ∈ L, EvTs C n (relab scope sc) (updAll (inner scope Δ) xs (tds a)) ifs (p a)) (he : ∀ a ∈ L, p a = true → EvF C n (relab scope sc) (updAll (inner scope Δ) xs (tds a)) elt (f a) nw) (hlen : L.length ≤ sizeLine)
    (hs : ∀ x, foldedSetIterable iter env x = pure x)
    (hQ : ∀ D C' s', Keeps s s' → s.heap.get? C' = none → s.heap.get? D = none → D ≠ C' → (∃ m, s'.heap.Ns C' m) → (∃ o n ys, s'.heap.get? D = some o ∧ (o.cls = .type "list" ∧ o.dict = none) ∧ o.data = .seq ys n ∧ RdAll ((R.ext s.heap s'.heap).minus [C', D]) ys.toList ((L.filter p).map f) ∧ o = { cls := .type "list", data := .seq ys n } ∧ NewI nw s.heap [C', D] ys.toList s'.heap) → compPost C.M A E use Q (.ref D) C' (.ok .next) s') :
    wpAny C.M A (comprehension (.ListComp elt [⟨target, iter, ifs, 0⟩] scope pos) scope env ps (newList []) false (eval iter env) use) Q E s := by
  have key : ∀ {s₂ : Shared} {it : Value} {wr : List Addr} {St : Nat → Heap → Prop} {Md : Nat → Value → Heap → Prop}, Keeps s s₂ → IterM C it wr (L.map enc) ((R.ext s.heap s₂.heap).minus wr) St Md TO → St 0 s₂.heap → (∀ a ∈ wr, s.heap.get? a = none) →
      ∀ cl, closureFor scope env = pure cl → wpAny C.M A (newList []) (fun acc s₃ => wpAny C.M A (newFunctionEnv scope env.globals cl [] env.qual none .none (some env)) (fun cenv s₄ =>
        codeAny C.M A (.compStart (.ListComp elt [⟨target, iter, ifs, 0⟩] scope pos) 0 it acc { cenv with scope := relabel scope env }) (compPost C.M A E use Q acc cenv.locals) s₄) E s₃) E s₂ := by
    intro s₂ it wr St Md k₂ It st hw cl hcl
    refine wpAny_newObj_type ?_
    generalize hs₃ : ({ s₂ with heap := s₂.heap.push { cls := .type "list", data := .seq ([] : List Value).toArray } } : Shared) = s₃
    have k23 : Keeps s₂ s₃ := by rw [← hs₃]; exact Keeps.push _ _
    have k₃ := Keeps.tr k₂ k23
    have hDn : s₂.heap.get? s₂.heap.objs.size = none := fresh_none
    have hD₃ : s₃.heap.PlainList s₂.heap.objs.size #[] := by rw [← hs₃]; exact ⟨0, Heap.get?_push_size _ rfl⟩
    generalize s₂.heap.objs.size = D at *
    obtain ⟨cl', W, h', e1, hnew, kp, hfr⟩ := comp_frame (C := C) (s₀ := s) (s := s₃) (qual := env.qual) hc (Keeps.hle k₃) eo
    rw [hcl] at e1
    have e2 : cl = cl' := by injection e1
    subst e2
    refine hnew A E _ fun cenv hloc hLW fr hE hS => ?_
    have k34 : Keeps s₃ { s₃ with heap := h' } := ⟨h', s₃.toks, rfl, kp⟩
    have k₄ := Keeps.tr k₃ k34
    have hDs : s.heap.get? D = none := none_of_fresh k₂ hDn
    have hDr : D ∉ wr := fun h => by obtain ⟨o, x⟩ := It.alive _ _ st D h; rw [hDn] at x; (have q_ := oNS x; clear x; exact q_.elim)
    have hWr : ∀ a ∈ W, a ∉ wr := fun a ha h => by
      obtain ⟨o, x⟩ := It.alive _ _ st a h
      have := Keeps.hle k23 _ _ x
      rw [hfr a ha] at this; (have q_ := oNS this; clear this; exact q_.elim)
    have hDW : D ∉ W := fun h => by obtain ⟨n, x⟩ := hD₃; rw [hfr D h] at x; (have q_ := oNS x; clear x; exact q_.elim)
    have fresh : ∀ a ∈ wr ++ D :: W, s.heap.get? a = none := fun a ha => by
      rcases List.mem_append.mp ha with h | h
      · exact hw a h
      · rcases List.mem_cons.mp h with rfl | h
        · exact hDs
        · exact none_of_fresh k₃ (hfr a h)
    have It' := It
    have loop : codeAny C.M A (.compLoop (.ListComp elt [⟨target, iter, ifs, 0⟩] scope pos) 0 it (.ref D) { cenv with scope := relabel scope env }) (compPost C.M A E use Q (.ref D) cenv.locals) { s₃ with heap := h' } := by
      have hReg : ((R.ext s.heap s₂.heap).minus wr).le (Rl s R (wr ++ D :: W) h') := fun a o e => by
        have e' := Reg.minus_le a o e
        have hal := (ro.ext (Keeps.hle k₂)).on a o e'
        refine Reg.minus_some (fun h => ?_) (Reg.ext_step (Keeps.hle k₂) (Keeps.hle (Keeps.tr k23 k34)) a o e')
        rcases List.mem_append.mp h with h | h
        · rw [Reg.minus_off h] at e; (have q_ := oNS e; clear e; exact q_.elim)
        · rcases List.mem_cons.mp h with rfl | h
          · rw [hDn] at hal; (have q_ := oNS hal; clear hal; exact q_.elim)
          · have := Keeps.hle k23 _ _ hal
            rw [hfr a h] at this; (have q_ := oNS this; clear this; exact q_.elim)
      have st' : St 0 h' := It.frame _ _ _ st (fun b _ o e => Keeps.hle (Keeps.tr k23 k34) _ _ e) (fun a o e => (rl_on ro.on (Keeps.hle k₄)) a o (hReg a o e)) (ro.mu.hle (Keeps.hle k₄))
      refine comp_loop (C := C) (sc := relab scope sc) (cenv := { cenv with scope := relabel scope env }) (R := R) (s := s) (s₁ := { s₃ with heap := h' }) rm ro k₄ It hTO st' hReg fresh hDr hDW hWr hLW (hD₃.at fun o e => kp _ _ e) fr
        hE hS hT ht he hlen fun s' ys kS hl hr fr' ni => ?_
      · have hCne : D ≠ cenv.locals := fun h => hDW (h ▸ hLW)
        obtain ⟨nn, hl'⟩ := hl
        refine hQ D cenv.locals s' kS (fresh _ (List.mem_append_right _ (List.mem_cons_of_mem _ hLW))) hDs hCne fr'.1 ⟨_, nn, ys, hl', ⟨rfl, rfl⟩, rfl, hr.mono fun a o e => ?_, rfl, fun q => ⟨(ni q).1, fun z hz => ?_⟩⟩
        rotate_left
        · obtain ⟨c, o, e, g, f, v, il⟩ := (ni q).2 z hz
          refine ⟨c, o, e, g, f, fun h => v ?_, il⟩
          rcases List.mem_cons.mp h with rfl | h
          · exact List.mem_append_right _ (List.mem_cons_of_mem _ hLW)
          · rw [List.mem_singleton.mp h]; exact List.mem_append_right _ List.mem_cons_self
        have hn : a ∉ wr ++ D :: W := fun h => by rw [Rl, Reg.minus_off h] at e; (have q_ := oNS e; clear e; exact q_.elim)
        refine Reg.minus_some (fun h => hn ?_) (Reg.minus_le a o e)
        rcases List.mem_cons.mp h with rfl | h
        · exact List.mem_append_right _ (List.mem_cons_of_mem _ hLW)
        · rw [List.mem_singleton.mp h]; exact List.mem_append_right _ List.mem_cons_self
    have st' : St 0 h' := It.frame _ _ _ st (fun b _ o e => Keeps.hle (Keeps.tr k23 k34) _ _ e) (fun a o e => Keeps.hle (Keeps.tr k23 k34) _ _ ((ro.ext (Keeps.hle k₂)).on a o (Reg.minus_le a o e))) ((ro.mu.hle (Keeps.hle k₂)).hle (Keeps.hle (Keeps.tr k23 k34)))
    exact codeAny_compStart_list loop (It.self A 0 _ _ _ st' loop)
  refine wpAny_comprehension_free (cl := clFrom env scope.names []) rfl hs ?_ hc.kind hc.names ?_
  · refine closure_eq fun q hq hf => ?_
    obtain ⟨h1, h2⟩ := hc.free q hq hf
    obtain ⟨d, hd⟩ := Option.isSome_iff_exists.mp h1
    obtain ⟨v, hv, _⟩ := eo.vars _ _ hd
    rcases hv with ⟨a, _⟩ | ⟨a, c, b, e⟩ | ⟨a, c, b, e⟩
    · have a' : sc.names.lookup q.1 = some .local := by rw [← eo.hsc]; exact a
      rcases h2 with h2 | h2 <;> rw [a'] at h2 <;> cases h2
    · rw [b]; rfl
    · rw [b]; rfl
  · have hclo : closureFor scope env = pure (clFrom env scope.names []) := by
      refine closure_eq fun q hq hf => ?_
      obtain ⟨h1, h2⟩ := hc.free q hq hf
      obtain ⟨d, hd⟩ := Option.isSome_iff_exists.mp h1
      obtain ⟨v, hv, _⟩ := eo.vars _ _ hd
      rcases hv with ⟨a, _⟩ | ⟨a, c, b, e⟩ | ⟨a, c, b, e⟩
      · have a' : sc.names.lookup q.1 = some .local := by rw [← eo.hsc]; exact a
        rcases h2 with h2 | h2 <;> rw [a'] at h2 <;> cases h2
      · rw [b]; rfl
      · rw [b]; rfl
    refine noE (hit A env s R rm ro eo) fun x s₁ h₁ => noE h₁ fun it s₂ h₂ => ?_
    obtain ⟨k₂, wr, St, Md, It, st, hw⟩ := h₂
    exact key k₂ It st hw _ hclo

theorem ev_compT {α : Type} {C : Cx} {n : Nat} {sc scope : Scope} {Δ : Vars} {L : List α} {enc : α → Dat} {tds : α → List Dat} {p : α → Bool} {f : α → Dat} {elt target iter : Expr} {ifs : List Expr} {pos : Pos} (xs : List Str) (TO : Expr → Prop) (hit : EvItT C n sc Δ TO iter (L.map enc)) (hTO : TO target) (hc : CompOk sc scope Δ xs)
    (hT : ∀ a ∈ L, Tgt target (enc a) xs (tds a)) (ht : ∀ a ∈ L, EvTs C n (relab scope sc) (updAll (inner scope Δ) xs (tds a)) ifs (p a)) (he : ∀ a ∈ L, p a = true → Ev C n (relab scope sc) (updAll (inner scope Δ) xs (tds a)) elt (f a)) (hlen : L.length ≤ sizeLine)
    (hs : ∀ env x, foldedSetIterable iter env x = pure x := by intro _ _; rfl) : Ev C n sc Δ (.ListComp elt [⟨target, iter, ifs, 0⟩] scope pos) (.lst ((L.filter p).map f)) := by
  intro A env s R rm ro eo
  rw [eval_ListComp]
  refine comp_run (use := none) rm ro eo TO hit hTO hc hT ht (fun a ha hp => (he a ha hp).f) hlen (hs env) fun D C' s' kS hC hD hne hns hl => ?_
  obtain ⟨m, hm⟩ := hns
  obtain ⟨o, nn, ys, ho, hcl, hd, hr, _⟩ := hl
  refine ⟨m, hm, fun h' hs' => ?_⟩
  have kb : KeepsBut [C'] s' { s' with heap := h' } := ⟨h', s'.toks, rfl, fun b o hb e => hs'.extBut b o (by simpa using hb) e⟩
  have kS' := kb.keeps kS fun a ha => by rw [List.mem_singleton.mp ha]; exact hC
  refine ⟨kS', .lst (Reg.new_ext hD (hs'.extBut D o hne ho)) hcl (by rw [hd]) (hr.mono fun a o e => ?_)⟩
  have hn : a ≠ C' := fun h => by rw [h, Reg.minus_off (by simp)] at e; (have q_ := oNS e; clear e; exact q_.elim)
  have e' := Reg.minus_le a o e
  simp only [Reg.ext] at e' ⊢
  split at e'
  · exact e'
  · exact hs'.extBut a o hn e'
theorem ev_comp {α : Type} {C : Cx} {n : Nat} {sc scope : Scope} {Δ : Vars} {L : List α} {enc : α → Dat} {tds : α → List Dat} {p : α → Bool} {f : α → Dat} {elt target iter : Expr} {ifs : List Expr} {pos : Pos} (xs : List Str) (hit : EvIt C n sc Δ iter (L.map enc)) (hc : CompOk sc scope Δ xs)
    (hT : ∀ a ∈ L, Tgt target (enc a) xs (tds a)) (ht : ∀ a ∈ L, EvTs C n (relab scope sc) (updAll (inner scope Δ) xs (tds a)) ifs (p a)) (he : ∀ a ∈ L, p a = true → Ev C n (relab scope sc) (updAll (inner scope Δ) xs (tds a)) elt (f a)) (hlen : L.length ≤ sizeLine)
    (hs : ∀ env x, foldedSetIterable iter env x = pure x := by intro _ _; rfl) : Ev C n sc Δ (.ListComp elt [⟨target, iter, ifs, 0⟩] scope pos) (.lst ((L.filter p).map f)) := ev_compT xs _ hit.toT trivial hc hT ht he hlen hs
end Mine
end
noncomputable section
open PySem PySem.W PyProof.Rows PySem.SeqAt PySem.MeetsSeq
set_option Elab.async false
set_option autoImplicit false
namespace Mine

noncomputable def CallOp (C : Cx) (n : Nat) (f : Value) (ds : List Dat) (d : Dat) : Prop :=
  ∀ A s R vs, Room n A → Rok (C.at noM) R s.heap → RdAll R vs ds → wpAny C.M A (call f vs) (Post s R d) NoE s
theorem CallOp.le {C : Cx} {n k : Nat} {f : Value} {ds : List Dat} {d : Dat} (h : CallOp C k f ds d) (hk : k ≤ n) : CallOp C n f ds d := fun A s R vs r => h A s R vs (r.le hk)

section
variable {C : Cx} {n : Nat} {sc : Scope} {Δ : Vars}
theorem evAll_call {f : Value} {A : Around} {env : Env} {s : Shared} {R : Reg} {p : Pos} {es : List Expr} {ds : List Dat} {d : Dat} (ha : EvAll C n sc Δ es ds) (ho : CallOp C n f ds d) (rm : Room n A) (ro : Rok C R s.heap) (eo : EnvOk sc env s.heap R Δ) :
    wpAny C.M A (spliced (backTo p (starEach es env))) (fun vs s₁ => wpAny C.M A (call f vs) (Post s R d) NoE s₁) NoE s := by
  refine noE (ha A env s R p rm ro eo) fun vs s₁ p₁ => ?_
  exact noE (ho A s₁ _ vs rm (ro.ext (Keeps.hle p₁.1)).nomu p₁.2) fun v s₂ p₂ => Post.step p₁.1 p₂

theorem ev_callb {x : Str} {np p : Pos} {id : String} {e : Expr} {es : List Expr} {ds : List Dat} {d : Dat} (hf : Ev C n sc Δ (.Name x np) (.val (.builtin id))) (ha : EvAll C n sc Δ (e :: es) ds) (ho : CallOp C n (.builtin id) ds d)
    (he : ∀ env, starEach (e :: es) env = (false, eval e env) :: starEach es env := by intro _; rfl) (hp : ∀ env, (backTo p (starEach es env)).any (·.1) = false := by intro _; rfl) : Ev C n sc Δ (.Call (.Name x np) (e :: es) [] p) d := by
  intro A env s R rm ro eo
  refine Call_ (noE (hf A env s R rm ro eo) fun f s₁ p₁ => ?_)
  have hf' := p₁.2
  (have q_ := Rd.valE hf'; clear hf'; subst q_)
  have k₁ := Keeps.hle p₁.1
  exact callWith_builtin1 (noE (evAll_call ha ho rm (ro.ext k₁) (eo.ext ro k₁)) fun vs s₂ q => wpAny_mono q (fun v s₃ q₃ => Post.step p₁.1 q₃) fun _ _ x => x) (he env) (hp env)
theorem ev_callf {x : Str} {np p : Pos} {a : Addr} {o : Obj} {fd : FuncData} {e : Expr} {es : List Expr} {ds : List Dat} {d : Dat} (hf : Ev C n sc Δ (.Name x np) (.val (.ref a))) (hfn : C.h₀.get? a = some o) (hdat : o.data = .func fd) (ha : EvAll C n sc Δ (e :: es) ds) (ho : CallOp C n (.ref a) ds d)
    (he : ∀ env, starEach (e :: es) env = (false, eval e env) :: starEach es env := by intro _; rfl) : Ev C n sc Δ (.Call (.Name x np) (e :: es) [] p) d := by
  intro A env s R rm ro eo
  refine Call_ (noE (hf A env s R rm ro eo) fun f s₁ p₁ => ?_)
  have hf' := p₁.2
  (have q_ := Rd.valE hf'; clear hf'; subst q_)
  have k₁ := Keeps.hle p₁.1
  refine callWith_def hdat (noE (ha A env s₁ _ p rm (ro.ext k₁) (eo.ext ro k₁)) fun vs s₂ p₂ => ?_) (he env)
  have k₂ := Keeps.tr p₁.1 p₂.1
  refine ⟨(ro.ext (Keeps.hle k₂)).hle0 _ _ hfn, ?_⟩
  exact noE (ho A s₂ _ vs rm (ro.ext (Keeps.hle k₂)).nomu (p₂.2.mono (Reg.ext_ext k₁ (Keeps.hle p₂.1)))) fun v s₃ p₃ => Post.step k₂ p₃

theorem call_len {ds : List Dat} (hlen : ds.length ≤ sizeLine) : CallOp C n (.builtin "len") [.lst ds] (.int ds.length) := by
  intro A s R vs rm ro h
  have q_ := RdAll.consE h
  clear h
  obtain ⟨_, _, rfl, h, r⟩ := q_
  next =>
    (have q_ := RdAll.nilE r; clear r; subst q_)
    obtain ⟨a, rfl⟩ := h.lst_ref
    obtain ⟨vs, t, r⟩ := h.isList ro.on
    have e : (vs.toArray.size : Int) = ds.length := by simp [r.length]
    refine Calls.call_len_list t (by rw [e]; rw [sizeLine_eq] at hlen; omega) ?_
    rw [e]; exact ⟨Keeps.toks _ _, .int _ _⟩
theorem call_sum {ns : List Int} : CallOp C n (.builtin "sum") [.lst (ns.map Dat.int)] (.int ns.sum) := by
  intro A s R vs rm ro h
  have q_ := RdAll.consE h
  clear h
  obtain ⟨_, _, rfl, h, r⟩ := q_
  next =>
    (have q_ := RdAll.nilE r; clear r; subst q_)
    obtain ⟨a, rfl⟩ := h.lst_ref
    obtain ⟨vs, t, r⟩ := h.isList ro.on
    have hi := Rd.ints r
    have hall := hi.allInts
    obtain ⟨xs, e⟩ := hall.items
    rw [e] at t
    refine sum_intListG rm.handled t fun h' tk t' hk => ?_
    have : preSum (numAt xs) xs.size = ns.sum := by
      rw [preSum_eq, List.take_of_length_le (by simp)]
      have := hi.numsOf
      rw [show vs = vs.toArray.toList from rfl, e, nums_intItems] at this
      rw [this]
    rw [this]
    exact ⟨⟨h', tk, rfl, hk⟩, .int _ _⟩
noncomputable def rangeI (a b : Int) : List Int := (List.range (b - a).toNat).map fun i => a + (i : Nat)
theorem iter_range {I : Addr} {a : Int} {n : Nat} {R₀ : Reg} : Iter C (.ref I) [I] (((List.range n).map fun i => a + ((i : Nat) : Int)).map Dat.int) R₀ (fun i h => IsRangeIter h I (a + (i : Nat)) ((n : Int) - (i : Nat)) 1) where
  frame := fun i h h' st hk _ _ => hk I (by simp) _ st
  alive := fun i h st b hb => by rw [List.mem_singleton.mp hb]; exact ⟨_, st⟩
  next := fun A i s R d hh hi st hle ho hW => by
    have hlt : i < n := by
      have := (List.getElem?_eq_some_iff.mp hi).1
      simpa using this
    have hd : d = .int (a + (i : Nat)) := by simp [hlt] at hi; exact hi.symm
    subst hd
    refine wpAny_pyNext_range_item st (by omega) fun h' hit' hs' => ?_
    refine ⟨_, rfl, ?_, ⟨h', s.toks + 1, rfl, fun b o hb e => hs'.extBut b o (fun h => hb (by simp [h])) e⟩, .int _ _⟩
    have e1 : a + ((i : Nat) : Int) + 1 = a + ((i + 1 : Nat) : Int) := by omega
    have e2 : (n : Int) - ((i : Nat) : Int) - 1 = (n : Int) - ((i + 1 : Nat) : Int) := by omega
    rw [e1, e2] at hit'; exact hit'
  done := fun A s hh st => by
    refine wpAny_pyNext_range_end hh st (by simp) fun h' he' => ⟨rfl, h', s.toks, rfl, fun b o hb e => he' b o (fun h => hb (by simp [h])) e⟩
  self := fun A i s Q E st hQ => wpAny_pyIter_rangeiter st hQ
  letgo := fun A i s t v Q E _ st hQ => letgo_plain st rfl (by decide) (hQ s st (.rfl' _ _))

theorem range_it {A : Around} {s s₁ : Shared} {R : Reg} {a b : Int} {t u v : Tok} {o : Obj} (ho : o = { cls := .type "range", data := .fields #[.int a t, .int b u, .int 1 v] }) (k₁ : Keeps s s₁) (ha : -(2 ^ 62) ≤ a ∧ a < 2 ^ 62) (hb : -(2 ^ 62) ≤ b ∧ b < 2 ^ 62) (tk : Nat) :
    wpAny C.M A (pyIter (.ref s₁.heap.objs.size)) (fun it s₂ => Keeps s s₂ ∧ ∃ wr St, Iter C it wr ((rangeI a b).map Dat.int) ((R.ext s.heap s₂.heap).minus wr) St ∧ St 0 s₂.heap ∧ (∀ a ∈ wr, s.heap.get? a = none)) NoE { s₁ with heap := s₁.heap.push o, toks := tk } := by
  subst ho
  have kp : Keeps s₁ { s₁ with heap := s₁.heap.push { cls := .type "range", data := .fields #[.int a t, .int b u, .int 1 v] }, toks := tk } := ⟨_, tk, rfl, fun _ _ e => Heap.get?_push_of_some _ e⟩
  have k₂ := Keeps.tr k₁ kp
  refine wpAny_pyIter_range (IsRange.new s₁.heap a b 1 t u v) (small_one ha.1 ha.2 hb.1 hb.2) ?_
  have kq := Keeps.push { s₁ with heap := s₁.heap.push { cls := .type "range", data := .fields #[.int a t, .int b u, .int 1 v] }, toks := tk } { cls := .type "range_iterator", data := .fields #[rawInt a, rawInt (Builtin.Range.rangeSize a b 1), rawInt 1] }
  have k₃ := Keeps.tr k₂ kq
  refine ⟨k₃, [_], _, iter_range (a := a) (n := (b - a).toNat), ?_, fun x hx => ?_⟩
  · have e : Builtin.Range.rangeSize a b 1 = ((b - a).toNat : Int) := by rw [rangeSize_one]; split <;> omega
    show Heap.get? _ _ = _
    rw [Heap.get?_push_size _ rfl, e]
    simp
  · rw [List.mem_singleton.mp hx]
    exact none_of_fresh k₂ fresh_none
theorem evIt_range1 {x : Str} {np p : Pos} {e : Expr} {b : Int} (hf : Ev C n sc Δ (.Name x np) (.val (.type "range"))) (he : Ev C n sc Δ e (.int b)) (hb : -(2 ^ 62) ≤ b ∧ b < 2 ^ 62)
    (hs : ∀ env, starEach [e] env = [(false, eval e env)] := by intro _; rfl) : EvIt C n sc Δ (.Call (.Name x np) [e] [] p) ((rangeI 0 b).map Dat.int) := by
  intro A env s R rm ro eo
  refine Call_ (noE (hf A env s R rm ro eo) fun f s₁ p₁ => ?_)
  have hf' := p₁.2
  (have q_ := Rd.valE hf'; clear hf'; subst q_)
  have k₁ := Keeps.hle p₁.1
  refine callWith_type1 (wpAny_items_cons (noE (he A env s₁ _ rm (ro.ext k₁) (eo.ext ro k₁)) fun v s₂ p₂ => wpAny_items_nil ?_) (hs env)) (hs env) rfl
  have hv := p₂.2
  (have q_ := Rd.intE hv; clear hv; obtain ⟨_, rfl⟩ := q_)
  refine call_range_1 ?_
  exact range_it rfl (Keeps.tr p₁.1 p₂.1) (by decide) hb _
theorem evIt_range2 {x : Str} {np p : Pos} {e₁ e₂ : Expr} {a b : Int} (hf : Ev C n sc Δ (.Name x np) (.val (.type "range"))) (h₁ : Ev C n sc Δ e₁ (.int a)) (h₂ : Ev C n sc Δ e₂ (.int b)) (ha : -(2 ^ 62) ≤ a ∧ a < 2 ^ 62) (hb : -(2 ^ 62) ≤ b ∧ b < 2 ^ 62)
    (hs : ∀ env, starEach [e₁, e₂] env = [(false, eval e₁ env), (false, eval e₂ env)] := by intro _; rfl) (hs' : ∀ env, starEach [e₂] env = [(false, eval e₂ env)] := by intro _; rfl) : EvIt C n sc Δ (.Call (.Name x np) [e₁, e₂] [] p) ((rangeI a b).map Dat.int) := by
  intro A env s R rm ro eo
  refine Call_ (noE (hf A env s R rm ro eo) fun f s₁ p₁ => ?_)
  have hf' := p₁.2
  (have q_ := Rd.valE hf'; clear hf'; subst q_)
  have k₁ := Keeps.hle p₁.1
  refine callWith_type1 (wpAny_items_cons (noE (h₁ A env s₁ _ rm (ro.ext k₁) (eo.ext ro k₁)) fun v s₂ p₂ => ?_) (by rw [hs, hs'])) (by rw [hs, hs']) (by rw [hs']; rfl)
  have k₂ := Keeps.tr p₁.1 p₂.1
  refine wpAny_items_cons (noE (h₂ A env s₂ _ rm (ro.ext (Keeps.hle k₂)) (eo.ext ro (Keeps.hle k₂))) fun v' s₃ p₃ => wpAny_items_nil ?_) (hs' env)
  have hv := p₂.2
  (have q_ := Rd.intE hv; clear hv; obtain ⟨_, rfl⟩ := q_)
  have hv' := p₃.2
  (have q_ := Rd.intE hv'; clear hv'; obtain ⟨_, rfl⟩ := q_)
  refine call_range_2 ?_
  exact range_it rfl (Keeps.tr k₂ p₃.1) ha hb _
end
end Mine
end
noncomputable section
open PySem PySem.W PyProof.Rows PySem.SeqAt PySem.MeetsSeq
set_option Elab.async false
set_option autoImplicit false
namespace Mine

structure Fra (C : Cx) (s₀ : Shared) (R₀ : Reg) (V : List Addr) (sc : Scope) (env : Env) (W : List Addr) (s : Shared) (R Mu : Reg) (Δ : Vars) : Prop where
  keep : KeepsBut V s₀ s
  vold : ∀ a ∈ V, ∃ o, s₀.heap.get? a = some o
  vnew : ∀ a ∈ V, ∃ o, s.heap.get? a = some o
  ro : Rok (C.at noM) R s.heap
  le : R₀.le R
  sub : ∀ a o, R a = some o → R₀ a = some o ∨ s₀.heap.get? a = none
  ew : EnvW sc env s.heap R Δ W
  fresh : ∀ a ∈ W, s₀.heap.get? a = none
  stor : ∀ x, (sc.names.lookup x = some .local ∨ sc.names.lookup x = some .cell) → Stor sc env W x
  mu : ∀ a o, Mu a = some o → s.heap.get? a = some o ∧ R a = none ∧ a ∉ W ∧ (a ∈ V ∨ s₀.heap.get? a = none)

section
variable {C : Cx} {s₀ : Shared} {R₀ : Reg} {V : List Addr} {sc : Scope} {env : Env} {W : List Addr} {s s' : Shared} {R R' Mu Mu' : Reg} {Δ Δ' : Vars} {n : Nat} {A : Around} {E : Value → Shared → Prop} {Q : Flow → Shared → Prop}

theorem cps {M : Model} {α : Type} {t : Sem α} {Q₀ E₀ : _} (h : ∀ Q : α → Shared → Prop, (∀ x s, Q₀ x s → Q x s) → wpAny M A t Q E₀ s) : wpAny M A t Q₀ E₀ s := h Q₀ fun _ _ q => q
theorem Fra.rom (F : Fra C s₀ R₀ V sc env W s R Mu Δ) : Rok (C.at Mu) R s.heap := ⟨F.ro.base, F.ro.on, fun a o e => (F.mu a o e).1⟩
theorem Fra.ext (F : Fra C s₀ R₀ V sc env W s R Mu Δ) (k : Keeps s s') : Fra C s₀ R₀ V sc env W s' (R.ext s.heap s'.heap) Mu Δ where
  keep := F.keep.tr (.of k)
  vold := F.vold
  vnew := fun a h => let ⟨o, e⟩ := F.vnew a h; ⟨o, Keeps.hle k _ _ e⟩
  ro := F.ro.ext (Keeps.hle k)
  le := F.le.trans (Reg.ext_le F.ro.on)
  sub := fun a o e => by
    simp only [Reg.ext] at e
    split at e
    · exact F.sub a o e
    · rename_i h
      right
      cases x : s₀.heap.get? a with
      | none => rfl
      | some o' =>
        exfalso
        by_cases hv : a ∈ V
        · obtain ⟨o, e⟩ := F.vnew a hv; rw [h] at e; (have q_ := oNS e; clear e; exact q_.elim)
        · rw [F.keep.get hv x] at h; (have q_ := oSN h; clear h; exact q_.elim)
  ew := F.ew.ext F.ro (Keeps.hle k)
  fresh := F.fresh
  stor := F.stor
  mu := fun a o e => by
    obtain ⟨h1, h2, h3, h4⟩ := F.mu a o e
    exact ⟨Keeps.hle k _ _ h1, ext_off h1 h2, h3, h4⟩
theorem Fra.weak (F : Fra C s₀ R₀ V sc env W s R Mu Δ) (h : ∀ x d, Δ' x = some d → Δ x = some d) : Fra C s₀ R₀ V sc env W s R Mu Δ' :=
  { F with ew := { F.ew with ok := { F.ew.ok with vars := fun x d e => F.ew.ok.vars x d (h x d e) } } }
theorem Fra.eo (F : Fra C s₀ R₀ V sc env W s R Mu Δ) : EnvOk sc env s.heap R Δ := F.ew.ok
theorem Fra.wv (F : Fra C s₀ R₀ V sc env W s R Mu Δ) {a : Addr} (h : a ∈ V) : a ∉ W := fun hw => by
  obtain ⟨o, e⟩ := F.vold a h; rw [F.fresh a hw] at e; (have q_ := oNS e; clear e; exact q_.elim)

theorem Fra.stored (F : Fra C s₀ R₀ V sc env W s R Mu Δ) (k : KeepsBut W s s') (e : EnvW sc env s'.heap R Δ' W) : Fra C s₀ R₀ V sc env W s' R Mu Δ' where
  keep := by
    obtain ⟨h, tk, rfl, x⟩ := F.keep
    obtain ⟨h', tk', rfl, x'⟩ := k
    exact ⟨h', tk', rfl, fun b o hb eb => x' b o (fun hw => by rw [F.fresh b hw] at eb; (have q_ := oNS eb; clear eb; exact q_.elim)) (x b o hb eb)⟩
  vold := F.vold
  vnew := fun a h => let ⟨o, e⟩ := F.vnew a h; ⟨o, k.get (F.wv h) e⟩
  ro := ⟨F.ro.base, k.reg F.ro.on e.offR, (fun _ _ e => nomatch e)⟩
  le := F.le
  sub := F.sub
  ew := e
  fresh := F.fresh
  stor := F.stor
  mu := fun a o e => by
    obtain ⟨h1, h2, h3, h4⟩ := F.mu a o e
    exact ⟨k.get h3 h1, h2, h3, h4⟩
theorem Fra.store {x : Str} {v : Value} {d : Dat} {Q : Unit → Shared → Prop} (F : Fra C s₀ R₀ V sc env W s R Mu Δ) (hd : Rd R v d) (hQ : ∀ s', KeepsBut W s s' → Fra C s₀ R₀ V sc env W s' R Mu (upd Δ x d) → Q () s')
    (hx : sc.names.lookup x = some .local ∨ sc.names.lookup x = some .cell) : wpAny C.M A (storeName env x v) Q E s :=
  F.ew.store (F.stor x hx) hd fun s' k e => hQ s' k (F.stored k e)

theorem st_assign {x : Str} {p q : Pos} {e : Expr} {d : Dat} {rest : List Stmt} (F : Fra C s₀ R₀ V sc env W s R Mu Δ) (rm : Room n A) (he : Ev (C.at Mu) n sc Δ e d)
    (k : ∀ s' R', R.le R' → Fra C s₀ R₀ V sc env W s' R' Mu (upd Δ x d) → wpAny C.M A (execs rest env) Q E s')
    (hs : swapsWith e (some (.Name x p)) q.line env = pure false := by rfl) (hx : sc.names.lookup x = some .local ∨ sc.names.lookup x = some .cell := by first | exact Or.inl rfl | exact Or.inr rfl) :
    wpAny C.M A (execs (.Assign [.Name x p] e q :: rest) env) Q E s := by
  refine wpAny_execs_cons (wpAny_Assign_Name (noE (he A env s R rm F.rom F.eo) fun v s₁ p₁ => ?_) hs)
  exact (F.ext p₁.1).store p₁.2 (fun s' _ F' => k s' _ (Reg.ext_le F.ro.on) F') hx

theorem st_comp {α : Type} {L : List α} {enc : α → Dat} {tds : α → List Dat} {p : α → Bool} {f : α → Dat} {elt target iter : Expr} {ifs : List Expr} {pos : Pos} {scope : Scope} {x : Str} {px q : Pos} {rest : List Stmt} (xs : List Str)
    (F : Fra C s₀ R₀ V sc env W s R Mu Δ) (rm : Room n A) (hit : EvIt (C.at Mu) n sc Δ iter (L.map enc)) (hc : CompOk sc scope Δ xs)
    (hT : ∀ a ∈ L, Tgt target (enc a) xs (tds a)) (ht : ∀ a ∈ L, EvTs (C.at Mu) n (relab scope sc) (updAll (inner scope Δ) xs (tds a)) ifs (p a)) (he : ∀ a ∈ L, p a = true → Ev (C.at Mu) n (relab scope sc) (updAll (inner scope Δ) xs (tds a)) elt (f a)) (hlen : L.length ≤ sizeLine)
    (k : ∀ s' R', R.le R' → Fra C s₀ R₀ V sc env W s' R' Mu (upd Δ x (.lst ((L.filter p).map f))) → wpAny C.M A (execs rest env) Q E s')
    (hsw : swapsWith (.ListComp elt [⟨target, iter, ifs, 0⟩] scope pos) (some (.Name x px)) q.line env = pure true)
    (hx : sc.names.lookup x = some .local ∨ sc.names.lookup x = some .cell := by first | exact Or.inl rfl | exact Or.inr rfl)
    (hs : ∀ x, foldedSetIterable iter env x = pure x := by intro _; rfl) :
    wpAny C.M A (execs (.Assign [.Name x px] (.ListComp elt [⟨target, iter, ifs, 0⟩] scope pos) q :: rest) env) Q E s := by
  refine wpAny_execs_cons ?_
  rw [exec_Assign_Name_used _ _ _ _ hsw]
  refine wpAny_bind (wpAny_standAt (wpAny_bind ?_))
  show wpAny C.M A (do let _ ← comprehension (.ListComp elt [⟨target, iter, ifs, 0⟩] scope pos) scope env _ (newList []) false (eval iter env) (some (assign (.Name x px) env))) _ _ s
  refine wpAny_bind (wpAny_mono (comp_run (C := C.at Mu) (use := some (assign (.Name x px) env)) (Q := fun _ s' => ∃ R', R.le R' ∧ Fra C s₀ R₀ V sc env W s' R' Mu (upd Δ x (.lst ((L.filter p).map f)))) (E := E) rm F.rom F.eo _ hit.toT trivial hc hT ht (fun a ha hp => (he a ha hp).f) hlen hs ?_) (fun _ s' hq => wpAny_pure (wpAny_pure ?_)) fun _ _ e => e)
  · intro D C' s' kS hC hD hne hns hl
    obtain ⟨m, hm⟩ := hns
    obtain ⟨o, nn, ys, ho, hcl, hd, hr, _⟩ := hl
    have hCW : C' ∉ W := fun h => by obtain ⟨o, e⟩ := F.ew.isW h; rw [hC] at e; (have q_ := oNS e; clear e; exact q_.elim)
    have F' := F.ext kS
    have le' : R.le ((R.ext s.heap s'.heap).minus [C']) := fun a o e => Reg.minus_some (fun h => by
      have := F.ro.on a o e
      rw [List.mem_singleton.mp h, hC] at this; (have q_ := oNS this; clear this; exact q_.elim)) (Reg.ext_le F.ro.on a o e)
    have F₂ : Fra C s₀ R₀ V sc env W s' ((R.ext s.heap s'.heap).minus [C']) Mu Δ :=
      { F' with
        ro := ⟨F.ro.base.trans le', fun a o e => F'.ro.on a o (Reg.minus_le a o e), (fun _ _ e => nomatch e)⟩
        le := F.le.trans le'
        sub := fun a o e => F'.sub a o (Reg.minus_le a o e)
        ew := F.ew.keeps (Keeps.hle kS) le' (fun a ha => by
          cases x : (R.ext s.heap s'.heap).minus [C'] a with
          | none => rfl
          | some o => have := F'.ew.offR a ha; rw [Reg.minus_le a o x] at this; (have q_ := oSN this; clear this; exact q_.elim))
        mu := fun a o e => by
          obtain ⟨h1, h2, h3, h4⟩ := F'.mu a o e
          refine ⟨h1, ?_, h3, h4⟩
          cases x : (R.ext s.heap s'.heap).minus [C'] a with
          | none => rfl
          | some o => rw [Reg.minus_le a o x] at h2; cases h2 }
    have hv : Rd ((R.ext s.heap s'.heap).minus [C']) (.ref D) (.lst ((L.filter p).map f)) := by
      refine .lst (Reg.minus_some (by simpa using hne) (Reg.new_ext hD ho)) hcl (by rw [hd]) (hr.mono fun a o e => ?_)
      have hn : a ∉ [C', D] := fun h => by rw [Reg.minus_off h] at e; (have q_ := oNS e; clear e; exact q_.elim)
      exact Reg.minus_some (fun h => hn (by simp at h ⊢; exact .inl h)) (Reg.minus_le a o e)
    show wpAny C.M A (assign (.Name x px) env (.ref D)) _ _ _
    refine wpAny_assign_Name (F₂.store hv (fun s₃ kb₃ F₃ => ?_) hx)
    refine ⟨m, hm.at' fun o e => kb₃.get hCW e, fun h' hs' => ⟨_, le', ?_⟩⟩
    have kb : KeepsBut [C'] s₃ { s₃ with heap := h' } := ⟨h', s₃.toks, rfl, fun b o hb e => hs'.extBut b o (by simpa using hb) e⟩
    have offC : ∀ a ∈ [C'], ((R.ext s.heap s'.heap).minus [C']) a = none := fun a ha => Reg.minus_off ha
    refine { F₃ with
      keep := ?_
      vnew := fun a ha => let ⟨o, e⟩ := F₃.vnew a ha; ⟨o, kb.get (fun h => ?_) e⟩
      ro := ⟨F₃.ro.base, kb.reg F₃.ro.on offC, (fun _ _ e => nomatch e)⟩
      ew := ?_
      mu := fun a o e => ?_ }
    · obtain ⟨hh, tk, rfl, xx⟩ := F₃.keep
      refine ⟨h', tk, rfl, fun b o hb eb => hs'.extBut b o (fun h => ?_) (xx b o hb eb)⟩
      have := F.keep.get hb eb
      rw [h, hC] at this; (have q_ := oNS this; clear this; exact q_.elim)
    · obtain ⟨o, e⟩ := F.vnew a ha
      rw [List.mem_singleton.mp h, hC] at e; (have q_ := oNS e; clear e; exact q_.elim)
    · have e := F₃.ew
      have hCc : ∀ y c, env.cells.lookup y = some c → c ≠ C' := fun y c h h' => by
        obtain ⟨o, _, z, _⟩ := F.ew.calive y c h; rw [h', hC] at z; (have q_ := oNS z; clear z; exact q_.elim)
      refine ⟨⟨e.ok.hsc, e.ok.fn, e.ok.gl, e.ok.bl, fun y dy ey => ?_⟩, let ⟨m, x⟩ := e.ns; ⟨m, x.sameBut hs' fun h => hCW (h ▸ e.locW)⟩, e.locW, fun c hc hn => let ⟨v, x⟩ := e.alive c hc hn; ⟨v, x.sameBut hs' fun h => hCW (h ▸ hc)⟩, e.offR, e.inj, e.locne, fun y c h => let ⟨o, z⟩ := e.calive y c h; ⟨o, z.sameBut hs' (hCc y c h)⟩⟩
      obtain ⟨v, hv, hr⟩ := e.ok.vars y dy ey
      refine ⟨v, ?_, hr⟩
      rcases hv with ⟨a1, m1, a2, a3⟩ | ⟨a1, c1, a2, a3⟩ | ⟨a1, c1, a2, a3⟩
      · exact .inl ⟨a1, m1, a2.sameBut hs' fun h => hCW (h ▸ e.locW), a3⟩
      · exact .inr (.inl ⟨a1, c1, a2, a3.sameBut hs' (hCc _ _ a2)⟩)
      · exact .inr (.inr ⟨a1, c1, a2, a3.sameBut hs' (hCc _ _ a2)⟩)
    · obtain ⟨h1, h2, h3, h4⟩ := F₃.mu a o e
      refine ⟨kb.get (fun h => ?_) h1, h2, h3, h4⟩
      obtain ⟨g1, _⟩ := F.mu a o e
      rw [List.mem_singleton.mp h, hC] at g1; (have q_ := oNS g1; clear g1; exact q_.elim)
  · obtain ⟨R', hR, F'⟩ := hq
    exact k s' R' hR F'
end
end Mine
end
noncomputable section
open PySem PySem.W PyProof.Rows PySem.SeqAt PySem.MeetsSeq
set_option Elab.async false
set_option autoImplicit false
namespace Mine

noncomputable def Reg.set (M : Reg) (a : Addr) (o : Obj) : Reg := fun b => if b = a then some o else M b
noncomputable def Reg.del (M : Reg) (a : Addr) : Reg := fun b => if b = a then none else M b
theorem Reg.set_self (M : Reg) (a : Addr) (o : Obj) : M.set a o a = some o := by simp [Reg.set]
theorem Reg.set_ne (M : Reg) {a b : Addr} (o : Obj) (h : b ≠ a) : M.set a o b = M b := by simp [Reg.set, h]
noncomputable abbrev lstObj (vs : List Value) (n : Nat) : Obj := { cls := .type "list", data := .seq vs.toArray n }

section
variable {C : Cx} {s₀ : Shared} {R₀ : Reg} {V : List Addr} {sc : Scope} {env : Env} {W : List Addr} {s s' : Shared} {R R' Mu Mu' : Reg} {Δ Δ' : Vars} {n : Nat} {A : Around} {E : Value → Shared → Prop} {Q : Flow → Shared → Prop}

theorem Fra.mut {a : Addr} {o o' : Obj} {h' : Heap} {tk : Nat} (F : Fra C s₀ R₀ V sc env W s R Mu Δ) (hm : Mu a = some o) (hnc : ∀ v, o.data ≠ .cell v) (hs : Heap.SameBut a s.heap h') (ho : h'.get? a = some o') :
    Fra C s₀ R₀ V sc env W { s with heap := h', toks := tk } R (Mu.set a o') Δ := by
  obtain ⟨g1, g2, g3, g4⟩ := F.mu a o hm
  have kb : KeepsBut [a] s { s with heap := h', toks := tk } := ⟨h', tk, rfl, fun b o hb e => hs.extBut b o (by simpa using hb) e⟩
  have hnv : ∀ {c : Addr} {v : Option Value}, s.heap.IsCell c v → c ≠ a := fun x h => by
    obtain ⟨oc, e, d⟩ := x
    rw [h, g1] at e; (have q_ := oSS e; clear e; subst q_); exact hnc _ d
  refine ⟨?_, F.vold, fun b hb => ?_, ⟨F.ro.base, kb.reg F.ro.on fun b hb => by rw [List.mem_singleton.mp hb]; exact g2, (fun _ _ e => nomatch e)⟩, F.le, F.sub, ?_, F.fresh, F.stor, fun b ob e => ?_⟩
  · obtain ⟨h, tk', rfl, x⟩ := F.keep
    refine ⟨h', tk, rfl, fun b o hb eb => hs.extBut b o (fun h => ?_) (x b o hb eb)⟩
    subst h
    rcases g4 with g4 | g4
    · exact hb g4
    · rw [g4] at eb; (have q_ := oNS eb; clear eb; exact q_.elim)
  · by_cases h : b = a
    · subst h; exact ⟨_, ho⟩
    · obtain ⟨o, e⟩ := F.vnew b hb; exact ⟨o, hs.extBut _ _ h e⟩
  · have e := F.ew
    refine ⟨⟨e.ok.hsc, e.ok.fn, e.ok.gl, e.ok.bl, fun y dy ey => ?_⟩, let ⟨m, x⟩ := e.ns; ⟨m, x.sameBut hs fun h => g3 (h ▸ e.locW)⟩, e.locW, fun c hc hn => let ⟨v, x⟩ := e.alive c hc hn; ⟨v, x.sameBut hs fun h => g3 (h ▸ hc)⟩, e.offR, e.inj, e.locne, fun y c h => ?_⟩
    · obtain ⟨v, hv, hr⟩ := e.ok.vars y dy ey
      refine ⟨v, ?_, hr⟩
      rcases hv with ⟨a1, m1, a2, a3⟩ | ⟨a1, c1, a2, a3⟩ | ⟨a1, c1, a2, a3⟩
      · exact .inl ⟨a1, m1, a2.sameBut hs fun h => g3 (h ▸ e.locW), a3⟩
      · exact .inr (.inl ⟨a1, c1, a2, a3.sameBut hs (hnv a3)⟩)
      · exact .inr (.inr ⟨a1, c1, a2, a3.sameBut hs (hnv a3)⟩)
    · obtain ⟨o, z⟩ := e.calive y c h; exact ⟨o, z.sameBut hs (hnv z)⟩
  · by_cases h : b = a
    · subst h; rw [Reg.set_self] at e; (have q_ := oSS e; clear e; subst q_); exact ⟨ho, g2, g3, g4⟩
    · rw [Reg.set_ne _ _ h] at e
      obtain ⟨h1, h2, h3, h4⟩ := F.mu b ob e
      exact ⟨hs.extBut _ _ h h1, h2, h3, h4⟩
theorem Fra.fewer (F : Fra C s₀ R₀ V sc env W s R Mu Δ) (h : Mu'.le Mu) : Fra C s₀ R₀ V sc env W s R Mu' Δ := { F with mu := fun a o e => F.mu a o (h a o e) }
theorem Fra.freeze {a : Addr} {o : Obj} (F : Fra C s₀ R₀ V sc env W s R Mu Δ) (hm : Mu a = some o) (hv : a ∉ V) : Fra C s₀ R₀ V sc env W s (R.set a o) (Mu.del a) Δ := by
  obtain ⟨g1, g2, g3, g4⟩ := F.mu a o hm
  have le : R.le (R.set a o) := fun b ob e => by
    by_cases h : b = a
    · subst h; rw [g2] at e; (have q_ := oNS e; clear e; exact q_.elim)
    · rw [Reg.set_ne _ _ h]; exact e
  refine { F with ro := ⟨F.ro.base.trans le, fun b ob e => ?_, (fun _ _ e => nomatch e)⟩, le := F.le.trans le, sub := fun b ob e => ?_, ew := F.ew.keeps (hle.refl _) le (fun b hb => ?_), mu := fun b ob e => ?_ }
  · by_cases h : b = a
    · subst h; rw [Reg.set_self] at e; (have q_ := oSS e; clear e; subst q_); exact g1
    · rw [Reg.set_ne _ _ h] at e; exact F.ro.on b ob e
  · by_cases h : b = a
    · subst h; exact .inr (g4.resolve_left hv)
    · rw [Reg.set_ne _ _ h] at e; exact F.sub b ob e
  · have hba : b ≠ a := fun h => g3 (h ▸ hb)
    rw [Reg.set_ne _ _ hba]; exact F.ew.offR b hb
  · by_cases h : b = a
    · subst h; simp [Reg.del] at e
    · simp only [Reg.del, h, if_false] at e
      obtain ⟨h1, h2, h3, h4⟩ := F.mu b ob e
      exact ⟨h1, by rw [Reg.set_ne _ _ h]; exact h2, h3, h4⟩
theorem Fra.freeze_le {a : Addr} {o : Obj} (F : Fra C s₀ R₀ V sc env W s R Mu Δ) (hm : Mu a = some o) : R.le (R.set a o) := fun b ob e => by
  obtain ⟨g1, g2, g3, g4⟩ := F.mu a o hm
  by_cases h : b = a
  · subst h; rw [g2] at e; (have q_ := oNS e; clear e; exact q_.elim)
  · rw [Reg.set_ne _ _ h]; exact e
theorem st_ret {e : Expr} {d : Dat} {p : Pos} {rest : List Stmt} (F : Fra C s₀ R₀ V sc env W s R Mu Δ) (rm : Room n A) (he : Ev (C.at Mu) n sc Δ e d)
    (k : ∀ s' R' v, R.le R' → Fra C s₀ R₀ V sc env W s' R' Mu Δ → Rd R' v d → Q (.ret v) s') : wpAny C.M A (execs (.Return (some e) p :: rest) env) Q E s := by
  refine wpAny_execs_cons (wpAny_Return_some (noE (he A env s R rm F.rom F.eo) fun v s₁ p₁ => ?_))
  exact k s₁ _ v (Reg.ext_le F.ro.on) (F.ext p₁.1) p₁.2

theorem st_if {t : Expr} {b : Bool} {body orelse rest : List Stmt} {p : Pos} (F : Fra C s₀ R₀ V sc env W s R Mu Δ) (rm : Room n A) (ht : EvT (C.at Mu) n sc Δ t b)
    (k : ∀ s' R', R.le R' → Fra C s₀ R₀ V sc env W s' R' Mu Δ → wpAny C.M A (execs (if b then body else orelse) env) (fun f s₂ => match f with | .next => wpAny C.M A (execs rest env) Q E s₂ | f => Q f s₂) E s') :
    wpAny C.M A (execs (.If t body orelse p :: rest) env) Q E s := by
  refine wpAny_execs_cons (wpAny_If (noE (ht A env s R rm F.rom F.eo) fun c s₁ p₁ => ?_))
  obtain ⟨k₁, rfl⟩ := p₁
  have := k s₁ _ (Reg.ext_le F.ro.on) (F.ext k₁)
  cases c
  · exact this
  · exact this
theorem st_nil (h : Q .next s) : wpAny C.M A (execs [] env) Q E s := wpAny_execs_nil h

noncomputable def Reg.keepsOff (T : List Addr) (Mu Mu' : Reg) : Prop := ∀ a o, a ∉ T → Mu a = some o → Mu' a = some o

theorem Fra.step {X : List Addr} (F : Fra C s₀ R₀ V sc env W s R Mu Δ) (k : KeepsBut X s s') (hX : ∀ a ∈ X, ∃ o, Mu a = some o) (hX' : ∀ a ∈ X, a ∈ V → ∃ o, s'.heap.get? a = some o) (hcx : ∀ y c, env.cells.lookup y = some c → c ∉ X) :
    Fra C s₀ R₀ V sc env W s' (R.ext s.heap s'.heap) (fun a => if a ∈ X then s'.heap.get? a else Mu a) Δ := by
  have offW : ∀ a ∈ X, a ∉ W := fun a ha => by obtain ⟨o, e⟩ := hX a ha; exact (F.mu a o e).2.2.1
  have onR : ∀ a o, R a = some o → a ∉ X := fun a o e h => by obtain ⟨o', e'⟩ := hX a h; rw [(F.mu a o' e').2.1] at e; (have q_ := oNS e; clear e; exact q_.elim)
  have up : R.le (R.ext s.heap s'.heap) := Reg.ext_le F.ro.on
  have on' : (R.ext s.heap s'.heap).on s'.heap := fun a o e => by
    simp only [Reg.ext] at e
    split at e
    · exact k.get (onR a o e) (F.ro.on a o e)
    · exact e
  have dead : ∀ a, s.heap.get? a = none → s₀.heap.get? a = none := fun a h => by
    cases x : s₀.heap.get? a with
    | none => rfl
    | some o' =>
      exfalso
      by_cases hv : a ∈ V
      · obtain ⟨o, e⟩ := F.vnew a hv; rw [h] at e; (have q_ := oNS e; clear e; exact q_.elim)
      · rw [F.keep.get hv x] at h; (have q_ := oSN h; clear h; exact q_.elim)
  refine ⟨?_, F.vold, fun a ha => ?_, ⟨F.ro.base.trans up, on', (fun _ _ e => nomatch e)⟩, F.le.trans up, fun a o e => ?_, ?_, F.fresh, F.stor, fun a o e => ?_⟩
  · obtain ⟨h, tk, rfl, x⟩ := F.keep
    obtain ⟨h', tk', rfl, x'⟩ := k
    refine ⟨h', tk', rfl, fun b o hb eb => x' b o (fun hx => ?_) (x b o hb eb)⟩
    obtain ⟨o', e'⟩ := hX b hx
    rcases (F.mu b o' e').2.2.2 with q | q
    · exact hb q
    · rw [q] at eb; (have q_ := oNS eb; clear eb; exact q_.elim)
  · by_cases hx : a ∈ X
    · exact hX' a hx ha
    · obtain ⟨o, e⟩ := F.vnew a ha; exact ⟨o, k.get hx e⟩
  · simp only [Reg.ext] at e
    split at e
    · exact F.sub a o e
    · rename_i h; exact .inr (dead a h)
  · have e := F.ew
    refine ⟨⟨e.ok.hsc, e.ok.fn, e.ok.gl, e.ok.bl, fun y dy ey => ?_⟩, let ⟨m, x⟩ := e.ns; ⟨m, x.at' fun o eo => k.get (fun h => offW _ h e.locW) eo⟩, e.locW, fun c hc hn => ?_, fun a ha => let ⟨_, x⟩ := e.isW ha; ext_off x (e.offR a ha), e.inj, e.locne, fun y c h => let ⟨v, o, z, zd⟩ := e.calive y c h; ⟨v, o, k.get (hcx y c h) z, zd⟩⟩
    · obtain ⟨v, hv, hr⟩ := e.ok.vars y dy ey
      refine ⟨v, ?_, hr.mono up⟩
      rcases hv with ⟨a1, m1, a2, a3⟩ | ⟨a1, c1, a2, o, a3, a4⟩ | ⟨a1, c1, a2, o, a3, a4⟩
      · exact .inl ⟨a1, m1, a2.at' fun o eo => k.get (fun h => offW _ h e.locW) eo, a3⟩
      · exact .inr (.inl ⟨a1, c1, a2, o, k.get (hcx _ _ a2) a3, a4⟩)
      · exact .inr (.inr ⟨a1, c1, a2, o, k.get (hcx _ _ a2) a3, a4⟩)
    · obtain ⟨v, o, x, d⟩ := e.alive c hc hn
      exact ⟨v, o, k.get (fun h => offW _ h hc) x, d⟩
  · by_cases hx : a ∈ X
    · simp only [hx, if_true] at e
      obtain ⟨o', e'⟩ := hX a hx
      obtain ⟨h1, h2, h3, h4⟩ := F.mu a o' e'
      exact ⟨e, ext_off h1 h2, h3, h4⟩
    · simp only [hx, if_false] at e
      obtain ⟨h1, h2, h3, h4⟩ := F.mu a o e
      exact ⟨k.get hx h1, ext_off h1 h2, h3, h4⟩
theorem Fra.begin {X : List Addr} (F : Fra C s₀ R₀ V sc env W s R Mu Δ) (k : Keeps s s') (hX : ∀ a ∈ X, s.heap.get? a = none) :
    Fra C s₀ R₀ V sc env W s' ((R.ext s.heap s'.heap).minus X) (fun a => if a ∈ X then s'.heap.get? a else Mu a) Δ := by
  have F' := F.ext k
  have le' : R.le ((R.ext s.heap s'.heap).minus X) := fun a o e => Reg.minus_some (fun h => by
    have := F.ro.on a o e
    rw [hX a h] at this; (have q_ := oNS this; clear this; exact q_.elim)) (Reg.ext_le F.ro.on a o e)
  have down : ∀ a, (R.ext s.heap s'.heap) a = none → ((R.ext s.heap s'.heap).minus X) a = none := fun a h => by
    cases x : (R.ext s.heap s'.heap).minus X a with
    | none => rfl
    | some o => rw [Reg.minus_le a o x] at h; (have q_ := oSN h; clear h; exact q_.elim)
  have dead : ∀ a, s.heap.get? a = none → s₀.heap.get? a = none := fun a h => by
    cases x : s₀.heap.get? a with
    | none => rfl
    | some o' =>
      exfalso
      by_cases hv : a ∈ V
      · obtain ⟨o, e⟩ := F.vnew a hv; rw [h] at e; (have q_ := oNS e; clear e; exact q_.elim)
      · rw [F.keep.get hv x] at h; (have q_ := oSN h; clear h; exact q_.elim)
  refine { F' with ro := ⟨F.ro.base.trans le', fun a o e => F'.ro.on a o (Reg.minus_le a o e), (fun _ _ e => nomatch e)⟩, le := F.le.trans le', sub := fun a o e => F'.sub a o (Reg.minus_le a o e), ew := F.ew.keeps (Keeps.hle k) le' (fun a ha => down a (F'.ew.offR a ha)), mu := fun a o e => ?_ }
  by_cases hx : a ∈ X
  · simp only [hx, if_true] at e
    refine ⟨e, Reg.minus_off hx, fun h => ?_, .inr (dead a (hX a hx))⟩
    obtain ⟨o, z⟩ := F.ew.isW h; rw [hX a hx] at z; (have q_ := oNS z; clear z; exact q_.elim)
  · simp only [hx, if_false] at e
    obtain ⟨h1, h2, h3, h4⟩ := F'.mu a o e
    exact ⟨h1, down a h2, h3, h4⟩

theorem for_loop {α : Type} {L : List α} {enc : α → Dat} {tds : α → List Dat} {target : Expr} {body rest : List Stmt} {it : Value} {s₂ : Shared} (xs : List Str) (T : List Addr) (Δs : Nat → Vars) (J : Nat → Reg → Reg → List Addr → Prop)
    (F : Fra C s₀ R₀ V sc env W s R Mu Δ) (rm : Room n A) (h₂ : Keeps s s₂ ∧ ∃ wr St, Iter (C.at (Mu.minus T)) it wr (L.map enc) ((R.ext s.heap s₂.heap).minus wr) St ∧ St 0 s₂.heap ∧ (∀ a ∈ wr, s.heap.get? a = none)) (hΔ : ∀ x d, Δs 0 x = some d → Δ x = some d) (hT0 : ∀ a ∈ T, ∃ o, Mu a = some o)
    (hxs : ∀ x ∈ xs, sc.names.lookup x = some .local ∨ sc.names.lookup x = some .cell) (hT : ∀ a ∈ L, Tgt target (enc a) xs (tds a))
    (Jm : ∀ i R R' Mu Mu' X, J i R Mu X → R.le R' → (∀ a ∈ X, Mu' a = Mu a) → J i R' Mu' X) (h0 : J 0 R Mu T)
    (turn : ∀ i a s' R' Mu' X, L[i]? = some a → R.le R' → Reg.keepsOff T Mu Mu' → (∀ a ∈ X, a ∈ T ∨ Mu a = none) → Fra C s₀ R₀ V sc env W s' R' Mu' (updAll (Δs i) xs (tds a)) → J i R' Mu' X →
      wpAny C.M A (execs body env) (fun f s₂ => match f with
        | .next | .cont => ∃ R₂ Mu₂ X₂, R'.le R₂ ∧ Reg.keepsOff X Mu' Mu₂ ∧ (∀ a ∈ X₂, a ∈ X ∨ s'.heap.get? a = none) ∧ Fra C s₀ R₀ V sc env W s₂ R₂ Mu₂ (Δs (i + 1)) ∧ J (i + 1) R₂ Mu₂ X₂
        | .brk => wpAny C.M A (execs rest env) Q E s₂
        | .ret v => Q (.ret v) s₂) NoE s')
    (done : ∀ s' R' Mu' X, R.le R' → Reg.keepsOff T Mu Mu' → (∀ a ∈ X, a ∈ T ∨ Mu a = none) → Fra C s₀ R₀ V sc env W s' R' Mu' (Δs L.length) → J L.length R' Mu' X → wpAny C.M A (execs rest env) Q E s') :
    codeAny C.M A (.forLoop target it body [] env) (fun r s' => match r with | .ok f => (match f with | .next => wpAny C.M A (execs rest env) Q E s' | f => Q f s') | .error e => cameBackBy C.M A env E e s') s₂ := by
  obtain ⟨k₂, wr, St, It, st, hw⟩ := h₂
  have F₁ := F.begin k₂ hw
  have hcw : ∀ y c, env.cells.lookup y = some c → c ∉ wr := fun y c h hc => by
    obtain ⟨_, o, z, _⟩ := F.ew.calive y c h; rw [hw c hc] at z; (have q_ := oNS z; clear z; exact q_.elim)
  have hTw : ∀ a ∈ T, a ∉ wr := fun a ha h => by
    obtain ⟨o, e⟩ := hT0 a ha
    have := (F.mu a o e).1
    rw [hw a h] at this; (have q_ := oNS this; clear this; exact q_.elim)
  have hMw : ∀ a o, Mu a = some o → a ∉ wr := fun a o e h => by
    have := (F.mu a o e).1
    rw [hw a h] at this; (have q_ := oNS this; clear this; exact q_.elim)
  have up₁ : R.le ((R.ext s.heap s₂.heap).minus wr) := fun a o e => Reg.minus_some (fun h => by
    have := F.ro.on a o e
    rw [hw a h] at this; (have q_ := oNS this; clear this; exact q_.elim)) (Reg.ext_le F.ro.on a o e)
  generalize hR₁ : (R.ext s.heap s₂.heap).minus wr = R₁ at *
  refine codeAny_loop' rfl (fun k s' => ∃ i R' Mu' X, i ≤ L.length ∧ k = L.length + 1 - i ∧ R₁.le R' ∧ Reg.keepsOff T Mu Mu' ∧ (∀ a ∈ X, a ∈ T ∨ Mu a = none) ∧ (∀ a ∈ X, a ∉ wr) ∧ Fra C s₀ R₀ V sc env W s' R' Mu' (Δs i) ∧ J i R' Mu' X ∧ St i s'.heap ∧ ∀ a ∈ wr, ∃ o, Mu' a = some o) (fun k s' hI => ?_) (L.length + 1)
    ⟨0, R₁, _, T, Nat.zero_le _, rfl, .refl _, fun a o hT e => by simp only [hMw a o e, if_false]; exact e, fun a ha => .inl ha, hTw, F₁.weak hΔ, Jm _ _ _ _ _ _ h0 up₁ (fun a ha => by simp only [hTw a ha, if_false]), st, fun a ha => by
      obtain ⟨o, e⟩ := It.alive _ _ st a ha; exact ⟨o, by simp only [ha, if_true]; exact e⟩⟩
  obtain ⟨i, R', Mu', X, hi, rfl, hR', hK, hXT, hXw, F', hJ, st', hwM⟩ := hI
  show wpAny _ _ ((forTurn target it body [] env).onRaise (fun x => do noteFrame x env; theTreesLotGoes x)) _ _ s'
  refine wpAny_noted ?_
  simp only [forTurn]
  refine wpAny_bind (wpAny_standAt (wpAny_bind (wpAny_onRaise ?_)))
  by_cases hlt : i < L.length
  · have hg : (L.map enc)[i]? = some (enc L[i]) := by simp [hlt]
    have hmem : L[i] ∈ L := List.getElem_mem hlt
    refine noE (It.next A i s' R' _ rm.handled hg st' hR' F'.ro.on (fun a ha => let ⟨o, e⟩ := hwM a ha; (F'.mu a o e).2.1)) fun r s₃ h₃ => ?_
    obtain ⟨v, rfl, st₃, kb₃, hv⟩ := h₃
    have F₃ := F'.step kb₃ hwM (fun a ha _ => It.alive _ _ st₃ a ha) hcw
    have hJ₃ := Jm _ _ (R'.ext s'.heap s₃.heap) _ (fun a => if a ∈ wr then s₃.heap.get? a else Mu' a) X hJ (Reg.ext_le F'.ro.on) (fun a ha => by simp only [hXw a ha, if_false])
    refine wpAny_bind (It.letgo A (i + 1) s₃ target v _ _ trivial st₃ fun s₄ st₄ kb₄ => ?_)
    have F₄ := F₃.step kb₄ (fun a ha => by simp only [ha, if_true]; exact It.alive _ _ st₃ a ha) (fun a ha _ => It.alive _ _ st₄ a ha) hcw
    have hJ₄ := Jm _ _ ((R'.ext s'.heap s₃.heap).ext s₃.heap s₄.heap) _ (fun a => if a ∈ wr then s₄.heap.get? a else (if a ∈ wr then s₃.heap.get? a else Mu' a)) X hJ₃ (Reg.ext_le F₃.ro.on) (fun a ha => by simp only [hXw a ha, if_false])
    refine wpAny_bind (assign_tgt (C := C.at noM) rm.handled (hT _ hmem) F₄.ro F₄.ew (fun x hx => F₄.stor x (hxs x hx)) (hv.mono (Reg.ext_le F₃.ro.on)) fun s₅ kb₅ E₅ => ?_)
    have F₅ := F₄.stored kb₅ E₅
    have hwW : ∀ b ∈ wr, b ∉ W := fun b hb h => by obtain ⟨o, z⟩ := F.ew.isW h; rw [hw b hb] at z; (have q_ := oNS z; clear z; exact q_.elim)
    have hK₅ : Reg.keepsOff T Mu (fun a => if a ∈ wr then s₄.heap.get? a else (if a ∈ wr then s₃.heap.get? a else Mu' a)) := fun a o hT e => by
      simp only [hMw a o e, if_false]; exact hK a o hT e
    have st₅ : St (i + 1) s₅.heap := It.frame _ _ _ st₄ (fun b hb o e => kb₅.get (hwW b hb) e) (F₅.ro.on.le (hR'.trans ((Reg.ext_le F'.ro.on).trans (Reg.ext_le F₃.ro.on)))) (fun a o e => (F₅.mu a o (hK₅ a o (fun h => by change (Mu.minus T) a = some o at e; rw [Reg.minus_off h] at e; (have q_ := oNS e; clear e; exact q_.elim)) (Reg.minus_le a o e))).1)
    refine wpAny_bind (noE (turn i L[i] s₅ _ _ X (by simp [hlt]) (up₁.trans (hR'.trans ((Reg.ext_le F'.ro.on).trans (Reg.ext_le F₃.ro.on)))) hK₅ hXT F₅ hJ₄) fun f s₆ h₆ => ?_)
    have hMX : ∀ a o, a ∉ T → Mu a = some o → a ∉ X := fun a o h e hx => by
      rcases hXT a hx with q | q
      · exact h q
      · rw [e] at q; (have q_ := oSN q; clear q; exact q_.elim)
    have fin : (∃ R₂ Mu₂ X₂, ((R'.ext s'.heap s₃.heap).ext s₃.heap s₄.heap).le R₂ ∧ Reg.keepsOff X (fun a => if a ∈ wr then s₄.heap.get? a else (if a ∈ wr then s₃.heap.get? a else Mu' a)) Mu₂ ∧ (∀ a ∈ X₂, a ∈ X ∨ s₅.heap.get? a = none) ∧ Fra C s₀ R₀ V sc env W s₆ R₂ Mu₂ (Δs (i + 1)) ∧ J (i + 1) R₂ Mu₂ X₂) →
        ∃ m, m < L.length + 1 - i ∧ ∃ i R' Mu' X, i ≤ L.length ∧ m = L.length + 1 - i ∧ R₁.le R' ∧ Reg.keepsOff T Mu Mu' ∧ (∀ a ∈ X, a ∈ T ∨ Mu a = none) ∧ (∀ a ∈ X, a ∉ wr) ∧ Fra C s₀ R₀ V sc env W s₆ R' Mu' (Δs i) ∧ J i R' Mu' X ∧ St i s₆.heap ∧ ∀ a ∈ wr, ∃ o, Mu' a = some o := by
      rintro ⟨R₂, Mu₂, X₂, l₂, K₂, hX₂, F₂, J₂⟩
      have hobj : ∀ b ∈ wr, ∀ o, s₅.heap.get? b = some o → Mu₂ b = some o := fun b hb o e => by
        obtain ⟨o', e'⟩ := It.alive _ _ st₅ b hb
        have e4 : (fun a => if a ∈ wr then s₄.heap.get? a else (if a ∈ wr then s₃.heap.get? a else Mu' a)) b = s₄.heap.get? b := by simp only [hb, if_true]
        obtain ⟨o4, h4⟩ := It.alive _ _ st₄ b hb
        have h5 := kb₅.get (hwW b hb) h4
        rw [h5] at e; (have q_ := oSS e; clear e; subst q_)
        exact K₂ b _ (fun h => hXw b h hb) (e4.trans h4)
      have dead5 : ∀ a, a ∉ T → s₅.heap.get? a = none → Mu a = none := fun a hT h => by
        cases x : Mu a with
        | none => rfl
        | some o' => have := (F₅.mu a o' (hK₅ a o' hT x)).1; rw [h] at this; (have q_ := oNS this; clear this; exact q_.elim)
      refine ⟨L.length + 1 - (i + 1), by omega, i + 1, R₂, Mu₂, X₂, hlt, rfl, ?_, ?_, ?_, ?_, F₂, J₂, ?_, ?_⟩
      · exact hR'.trans ((Reg.ext_le F'.ro.on).trans ((Reg.ext_le F₃.ro.on).trans l₂))
      · exact fun a o hT e => K₂ a o (hMX a o hT e) (hK₅ a o hT e)
      · intro a ha
        rcases hX₂ a ha with q | q
        · exact hXT a q
        · by_cases hT : a ∈ T
          · exact .inl hT
          · exact .inr (dead5 a hT q)
      · intro a ha
        rcases hX₂ a ha with q | q
        · exact hXw a q
        · intro h; obtain ⟨o, z⟩ := It.alive _ _ st₅ a h; rw [q] at z; (have q_ := oNS z; clear z; exact q_.elim)
      · exact It.frame _ _ _ st₅ (fun b hb o e => (F₂.mu b o (hobj b hb o e)).1) (F₂.ro.on.le (hR'.trans ((Reg.ext_le F'.ro.on).trans ((Reg.ext_le F₃.ro.on).trans l₂)))) (fun a o e => (F₂.mu a o (K₂ a o (hMX a o (fun h => by change (Mu.minus T) a = some o at e; rw [Reg.minus_off h] at e; (have q_ := oNS e; clear e; exact q_.elim)) (Reg.minus_le a o e)) (hK₅ a o (fun h => by change (Mu.minus T) a = some o at e; rw [Reg.minus_off h] at e; (have q_ := oNS e; clear e; exact q_.elim)) (Reg.minus_le a o e)))).1)
      · intro b hb
        obtain ⟨o', e'⟩ := It.alive _ _ st₅ b hb
        exact ⟨o', hobj b hb o' e'⟩
    cases f with
    | next => exact wpAny_pure (.inl ⟨rfl, fin h₆⟩)
    | cont => exact wpAny_pure (.inl ⟨rfl, fin h₆⟩)
    | brk => exact wpAny_pure h₆
    | ret v => exact wpAny_pure h₆
  · have hin : i = L.length := by omega
    subst hin
    refine noE (It.done A s' rm.handled (by simpa using st')) fun r s₃ h₃ => ?_
    obtain ⟨rfl, kb₃⟩ := h₃
    have F₃ := F'.step kb₃ hwM (fun a ha hv => by obtain ⟨o, e⟩ := F.vnew a hv; rw [hw a ha] at e; (have q_ := oNS e; clear e; exact q_.elim)) hcw
    have hJ₃ := Jm _ _ (R'.ext s'.heap s₃.heap) _ (fun a => if a ∈ wr then s₃.heap.get? a else Mu' a) X hJ (Reg.ext_le F'.ro.on) (fun a ha => by simp only [hXw a ha, if_false])
    refine wpAny_pure (.inr ⟨rfl, codeAny_block (wpAny_execs_nil ?_)⟩)
    refine done s₃ _ _ X (up₁.trans (hR'.trans (Reg.ext_le F'.ro.on))) (fun a o hT e => ?_) hXT F₃ hJ₃
    simp only [hMw a o e, if_false]; exact hK a o hT e

theorem st_for {α : Type} {L : List α} {enc : α → Dat} {tds : α → List Dat} {target iter : Expr} {body rest : List Stmt} {p : Pos} (xs : List Str) (T : List Addr) (Δs : Nat → Vars) (J : Nat → Reg → Reg → Prop)
    (F : Fra C s₀ R₀ V sc env W s R Mu Δ) (rm : Room n A) (hit : EvIt (C.at (Mu.minus T)) n sc Δ iter (L.map enc)) (hΔ : ∀ x d, Δs 0 x = some d → Δ x = some d) (hT0 : ∀ a ∈ T, ∃ o, Mu a = some o)
    (hxs : ∀ x ∈ xs, sc.names.lookup x = some .local ∨ sc.names.lookup x = some .cell) (hT : ∀ a ∈ L, Tgt target (enc a) xs (tds a))
    (Jm : ∀ i R R' Mu Mu', J i R Mu → R.le R' → (∀ a ∈ T, Mu' a = Mu a) → J i R' Mu') (h0 : J 0 R Mu)
    (turn : ∀ i a s' R' Mu', L[i]? = some a → R.le R' → Reg.keepsOff T Mu Mu' → Fra C s₀ R₀ V sc env W s' R' Mu' (updAll (Δs i) xs (tds a)) → J i R' Mu' →
      wpAny C.M A (execs body env) (fun f s₂ => match f with
        | .next | .cont => ∃ R₂ Mu₂, R'.le R₂ ∧ Reg.keepsOff T Mu' Mu₂ ∧ Fra C s₀ R₀ V sc env W s₂ R₂ Mu₂ (Δs (i + 1)) ∧ J (i + 1) R₂ Mu₂
        | .brk => wpAny C.M A (execs rest env) Q E s₂
        | .ret v => Q (.ret v) s₂) NoE s')
    (done : ∀ s' R' Mu', R.le R' → Reg.keepsOff T Mu Mu' → Fra C s₀ R₀ V sc env W s' R' Mu' (Δs L.length) → J L.length R' Mu' → wpAny C.M A (execs rest env) Q E s')
    (hs : ∀ x, foldedSetIterable iter env x = pure x := by intro _; rfl) :
    wpAny C.M A (execs (.For target iter body [] p :: rest) env) Q E s := by
  refine wpAny_execs_cons (wpAny_For (noE (hit A env s R rm ⟨F.ro.base, F.ro.on, fun a o e => (F.mu a o (Reg.minus_le a o e)).1⟩ F.eo) fun x s₁ h₁ => noE h₁ fun it s₂ h₂ => ?_) hs)
  refine for_loop (tds := tds) xs T Δs (fun i R Mu X => X = T ∧ J i R Mu) F rm h₂ hΔ hT0 hxs hT (fun i R R' Mu Mu' X hj l e => ⟨hj.1, Jm i R R' Mu Mu' hj.2 l (hj.1 ▸ e)⟩) ⟨rfl, h0⟩ ?_ ?_
  · rintro i a s' R' Mu' X hi l hk - F' ⟨rfl, hJ⟩
    refine noE (turn i a s' R' Mu' hi l hk F' hJ) fun f s₃ h₃ => ?_
    cases f with
    | next => obtain ⟨R₂, Mu₂, l₂, K₂, F₂, J₂⟩ := h₃; exact ⟨R₂, Mu₂, X, l₂, K₂, fun a h => .inl h, F₂, rfl, J₂⟩
    | cont => obtain ⟨R₂, Mu₂, l₂, K₂, F₂, J₂⟩ := h₃; exact ⟨R₂, Mu₂, X, l₂, K₂, fun a h => .inl h, F₂, rfl, J₂⟩
    | brk => exact h₃
    | ret v => exact h₃
  · rintro s' R' Mu' X l hk - F' ⟨rfl, hJ⟩
    exact done s' R' Mu' l hk F' hJ
end
end Mine
end
noncomputable section
open PySem PySem.W PyProof.Rows PySem.SeqAt PySem.MeetsSeq
set_option Elab.async false
set_option autoImplicit false
namespace Mine

noncomputable abbrev noV : Vars := fun _ => none
theorem KeepsBut.nil {s s' : Shared} (k : KeepsBut [] s s') : Keeps s s' := by
  obtain ⟨h', tk, rfl, e⟩ := k
  exact ⟨h', tk, rfl, fun b o x => e b o (by simp) x⟩

section
variable {C : Cx} {s₀ : Shared} {R₀ : Reg} {V : List Addr} {sc : Scope} {env : Env} {W : List Addr} {s s' : Shared} {R R' Mu Mu' : Reg} {Δ Δ' : Vars} {n : Nat} {A : Around} {E : Value → Shared → Prop} {Q : Flow → Shared → Prop}

theorem Fra.post {v : Value} {d : Dat} (F : Fra C s₀ R₀ [] sc env W s R Mu Δ) (h : Rd R v d) : Post s₀ R₀ d v s := by
  refine ⟨F.keep.nil, h.mono fun a o e => ?_⟩
  rcases F.sub a o e with q | q
  · simp only [Reg.ext]
    split
    · exact q
    · exact F.ro.on a o e
  · simp only [Reg.ext, q]; exact F.ro.on a o e

theorem bind_all (f : Str × Value → PUnit → Sem (ForInStep PUnit)) (hf : ∀ n v u, f (n, v) u = (do storeName env n v; pure (.yield ⟨⟩))) :
    ∀ (xs : List Str) (vs : List Value) (ds : List Dat) (Δ : Vars) (s : Shared) (Q : PUnit → Shared → Prop), Fra C s₀ R₀ V sc env W s R Mu Δ → RdAll R vs ds → xs.length = ds.length → (∀ x ∈ xs, sc.names.lookup x = some .local ∨ sc.names.lookup x = some .cell) →
      (∀ s', Fra C s₀ R₀ V sc env W s' R Mu (updAll Δ xs ds) → Q ⟨⟩ s') → wpAny C.M A (forIn (xs.zip vs) ⟨⟩ f) Q E s
  | [], vs, ds, Δ, s, Q, F, r, hl, _, hQ => by
    cases ds with
    | nil => rw [List.zip_nil_left, List.forIn_nil]; exact wpAny_pure (hQ s F)
    | cons d ds => cases hl
  | x :: xs, vs, ds, Δ, s, Q, F, r, hl, hx, hQ => by
    cases r with
    | nil => cases hl
    | cons h r =>
      rw [List.zip_cons_cons, List.forIn_cons, hf]
      refine wpAny_bind (wpAny_bind (F.store h (fun s' _ F' => wpAny_pure ?_) (hx x List.mem_cons_self)))
      exact bind_all f hf xs _ _ _ s' Q F' r (by simpa using hl) (fun y hy => hx y (List.mem_cons_of_mem _ hy)) hQ

structure CloOk (scope : Scope) (clo : List (Str × Addr)) (h : Heap) (R : Reg) (Δc : Vars) : Prop where
  vars : ∀ x d, Δc x = some d → scope.names.lookup x = some .free ∧ ∃ c v, clo.lookup x = some c ∧ h.IsCell c (some v) ∧ Rd R v d
  alive : ∀ x c, clo.lookup x = some c → ∃ v, h.IsCell c v
theorem CloOk.none {scope : Scope} {h : Heap} {R : Reg} : CloOk scope [] h R noV := ⟨fun x d e => (nomatch e), fun x c e => (nomatch e)⟩

theorem fn_frame {scope : Scope} {clo : List (Str × Addr)} {Δc : Vars} {xs : List Str} {vs : List Value} {ds : List Dat} {qual : Str} {func : Option Addr} {code : Value} {Q : Env → Shared → Prop} (ro : Rok (C.at noM) R s.heap) (hk : scope.kind = .function) (hu : (scope.names.map (·.1)).Nodup) (hclo : CloOk scope clo s.heap R Δc) (hr : RdAll R vs ds) (hl : xs.length = ds.length) (hx : ∀ x ∈ xs, scope.names.lookup x = some .local ∨ scope.names.lookup x = some .cell)
    (hQ : ∀ env W s', env.scope = scope → env.frame = some env.locals → env.code = code → env.func = func → env.qual = qual → Fra C s R [] scope env W s' R noM (updAll Δc xs ds) → Q env s') :
    wpAny C.M A (newFunctionEnv scope mainGlobals clo (xs.zip vs) qual func code none builtinsNs) Q E s := by
  have hsize : (s.heap.push { cls := .type "frame", data := .dict #[] }).objs.size = s.heap.objs.size + 1 := Heap.size_push ..
  have own := cellsFrom_ok scope.names (s.heap.push { cls := .type "frame", data := .dict #[] }) (s.heap.objs.size + 1) [] ⟨fun _ _ hm => (nomatch hm), List.Pairwise.nil⟩ (by rw [hsize]; exact Nat.le_refl _)
  rw [hsize] at own
  simp only [newFunctionEnv, Option.isSome_none, Bool.false_eq_true, if_false]
  refine wpAny_bind (wpAny_alloc ?_)
  refine wpAny_bind (wpAny_layCells _ (fun name kind cells => by cases hkc : kind == NameKind.cell <;> simp [hkc]) _ _ _ _ ?_)
  rw [show ({ s with heap := s.heap.push { cls := .type "frame", data := .dict #[] } } : Shared).heap.objs.size = s.heap.objs.size + 1 from Heap.size_push ..]
  rw [cellsFrom_acc]
  generalize hown : cellsFrom (s.heap.objs.size + 1) scope.names [] = ow at own
  have keep : hle s.heap (pushCells (s.heap.push { cls := .type "frame", data := .dict #[] }) scope.names) := fun b o e => pushCells_keeps _ _ b o (Heap.get?_push_of_some _ e)
  have fresh : ∀ a, s.heap.objs.size ≤ a → s.heap.get? a = none := fun a ha => by
    cases e : s.heap.get? a with
    | none => rfl
    | some o' => exact absurd (Heap.lt_size e) (Nat.not_lt.mpr ha)
  have look : ∀ x c, (ow ++ clo).lookup x = some c → ow.lookup x = some c ∨ clo.lookup x = some c := fun x c e => by
    rw [lookup_append'] at e
    cases h1 : ow.lookup x with
    | none => rw [h1] at e; exact .inr (by simpa using e)
    | some c' => rw [h1] at e; exact .inl (by simpa using e)
  have old : ∀ x c, clo.lookup x = some c → c < s.heap.objs.size := fun x c e => let ⟨_, _, z, _⟩ := hclo.alive x c e; Heap.lt_size z
  have new : ∀ x c, ow.lookup x = some c → s.heap.objs.size + 1 ≤ c := fun x c e => (own.empty x c (mem_of_lookup e)).2
  have wf : ∀ a ∈ s.heap.objs.size :: ow.map (·.2), s.heap.get? a = none := fun a ha => by
    rcases List.mem_cons.mp ha with h | h
    · rw [h]; exact fresh _ (Nat.le_refl _)
    · obtain ⟨⟨y, c'⟩, hm, rfl⟩ := List.mem_map.mp h
      exact fresh _ (Nat.le_of_succ_le (own.empty _ _ hm).2)
  have F₀ : Fra C s R [] scope { scope, locals := s.heap.objs.size, globals := mainGlobals, cells := ow ++ clo, qual, func, code, frame := some s.heap.objs.size, builtins := builtinsNs } (s.heap.objs.size :: ow.map (·.2))
      { s with heap := pushCells (s.heap.push { cls := .type "frame", data := .dict #[] }) scope.names } R noM Δc := by
    refine ⟨⟨_, s.toks, rfl, fun b o _ e => keep b o e⟩, fun a ha => (nomatch ha), fun a ha => (nomatch ha), ⟨ro.base, ro.on.hle keep, (fun _ _ e => nomatch e)⟩, .refl _, fun a o e => .inl e, ?_, wf, ?_, fun a o e => (nomatch e)⟩
    · refine ⟨⟨rfl, hk, rfl, rfl, fun x d e => ?_⟩, ⟨_, (Heap.Ns.new s.heap (.type "frame")).keeps (pushCells_keeps _ _)⟩, List.mem_cons_self, fun c hcW hne => ?_, fun a ha => ?_, fun x y c hcW hcx hcy => ?_, fun x hx => ?_, fun x c hx => ?_⟩
      · obtain ⟨h1, c, v, h2, h3, h4⟩ := hclo.vars x d e
        have hno : ow.lookup x = none := by
          cases h5 : ow.lookup x with
          | none => rfl
          | some c' =>
            rw [← hown] at h5
            have := uniq_kind hu (mem_kind h1) (mem_cells h5)
            cases this
        exact ⟨v, .inr (.inr ⟨h1, c, by rw [lookup_append', hno, h2]; rfl, h3.keeps keep⟩), h4⟩
      · rcases List.mem_cons.mp hcW with h | h
        · exact absurd h hne
        · obtain ⟨⟨y, c'⟩, hm, rfl⟩ := List.mem_map.mp h
          exact ⟨none, (own.empty _ _ hm).1⟩
      · cases e : R a with
        | none => rfl
        | some o => have := ro.on a o e; rw [wf a ha] at this; (have q_ := oNS this; clear this; exact q_.elim)
      · have big : s.heap.objs.size ≤ c := by
          rcases List.mem_cons.mp hcW with h | h
          · exact Nat.le_of_eq h.symm
          · obtain ⟨⟨y', c'⟩, hm, rfl⟩ := List.mem_map.mp h
            exact Nat.le_of_succ_le (own.empty _ _ hm).2
        rcases look x _ hcx with h1 | h1
        · rcases look y _ hcy with h2 | h2
          · exact name_of_addr own.apart (mem_of_lookup h1) (mem_of_lookup h2)
          · exact absurd (old _ _ h2) (Nat.not_lt.mpr big)
        · exact absurd (old _ _ h1) (Nat.not_lt.mpr big)
      · rcases look x _ hx with h | h
        · have := new _ _ h
          exact absurd this (Nat.not_le.mpr (Nat.lt_succ_self _))
        · exact absurd (old _ _ h) (Nat.lt_irrefl _)
      · rcases look x _ hx with h | h
        · exact ⟨_, (own.empty _ _ (mem_of_lookup h)).1⟩
        · obtain ⟨o, z⟩ := hclo.alive x c h; exact ⟨o, z.keeps keep⟩
    · intro x hx
      rcases hx with h | h
      · exact .inl h
      · obtain ⟨c, hcx⟩ := cells_some scope.names (s.heap.objs.size + 1) h
        rw [hown] at hcx
        exact .inr ⟨h, c, by show (ow ++ clo).lookup x = some c; rw [lookup_append', hcx]; rfl, List.mem_cons_of_mem _ (List.mem_map.mpr ⟨_, mem_of_lookup hcx, rfl⟩)⟩
  refine wpAny_bind (bind_all _ (fun _ _ _ => rfl) xs vs ds Δc _ _ F₀ hr hl hx fun s' F' => ?_)
  exact wpAny_pure (hQ _ _ s' rfl rfl rfl rfl rfl F')

structure FnOk (C : Cx) (a : Addr) (fd : FuncData) (xs : List Str) (body : List Stmt) : Prop where
  at' : ∃ o, C.h₀.get? a = some o ∧ o.data = .func fd
  code : C.h₀.CodeRec fd.code fd.qualname
  nolimit : C.h₀.NoLimit
  co : fd.scope.isCoroutine = false
  gen : fd.scope.isGenerator = false
  body' : fd.body = .stmts body
  glob : fd.globals = mainGlobals
  bui : fd.builtins = builtinsNs
  clo : fd.closure = []
  kind : fd.scope.kind = .function
  uniq : (fd.scope.names.map (·.1)).Nodup
  par : ∀ x ∈ xs, fd.scope.names.lookup x = some .local ∨ fd.scope.names.lookup x = some .cell
  bind : ∀ vs : List Value, vs.length = xs.length → bindArgs fd ⟨vs, []⟩ = pure (xs.zip vs)

theorem fn_call {a : Addr} {fd : FuncData} {xs : List Str} {body : List Stmt} {vs : List Value} {ds : List Dat} {Rs : Result → Shared → Prop} (f : FnOk C a fd xs body) (rm : Room (n + 1) A) (ro : Rok (C.at noM) R s.heap) (hr : RdAll R vs ds) (hl : xs.length = ds.length)
    (h : ∀ env W s', env.scope = fd.scope → Room n (A.deeper env) → Fra C s R [] fd.scope env W s' R noM (updAll noV xs ds) → wpAny C.M (A.deeper env) (execs body env) (fun fl s₂ => Rs (.ok (.ret (match fl with | .ret v => v | _ => .none))) s₂)
      (fun e s' => wpAny C.M (A.deeper env) (leaving env e) (fun _ s'' => Rs (.error e) s'') (fun e' s'' => Rs (.error e') s'') s') s') :
    codeAny C.M A (.call (.ref a) ⟨vs, []⟩) Rs s := by
  obtain ⟨o, ho, hd⟩ := f.at'
  have k0 := ro.hle0
  refine codeAny_call_function rm.lt (k0 _ _ ho) hd f.co f.gen f.body' (f.code.keeps k0) ?_
  rw [f.bind vs (by rw [hr.length, hl]), f.glob, f.clo, f.bui]
  refine wpAny_pure (fn_frame ro f.kind f.uniq CloOk.none hr hl f.par fun env W s' e1 e2 e3 e4 _ F => ⟨?_, ?_⟩)
  · exact f.nolimit.keeps F.ro.hle0
  · exact codeAny_func (h env W s' e1 rm.deeper F)

theorem callop_fn {a : Addr} {fd : FuncData} {xs : List Str} {body : List Stmt} {ds : List Dat} {d : Dat} (f : FnOk C a fd xs body) (hl : xs.length = ds.length)
    (h : ∀ A env W s₀ s R, env.scope = fd.scope → Room n A → Fra C s₀ R [] fd.scope env W s R noM (updAll noV xs ds) → wpAny C.M A (execs body env) (fun fl s₂ => ∃ v, fl = .ret v ∧ Post s₀ R d v s₂) NoE s) :
    CallOp C (n + 1) (.ref a) ds d := by
  intro A s R vs rm ro hr
  refine wpAny_call (fn_call f rm ro hr hl fun env W s' e rm' F => ?_)
  refine noE (h _ env W s s' R e rm' F) fun fl s₂ p => ?_
  obtain ⟨v, rfl, p⟩ := p
  exact p
end
end Mine
end
noncomputable section
open PySem PySem.W PyProof.Rows PySem.SeqAt PySem.MeetsSeq
set_option Elab.async false
set_option autoImplicit false
namespace Mine

structure Base (C : Cx) (K : Frag) : Prop where
  K : K.In C.h₀
  T : ∃ p loose mg mb, TopRead p loose mg mb C.h₀

section
variable {C : Cx} {K : Frag}
theorem glob_load {M : Model} {A : Around} {E : Value → Shared → Prop} {s : Shared} {env : Env} {x : Str} {Q : Value → Shared → Prop} (hk : env.scope.kind = .function) (hx : env.kindOf x = some .globalImplicit) (h : wpAny M A (loadGlobal env x) Q E s) : wpAny M A (loadName env x) Q E s := by
  unfold loadName
  simp only [Env.blockKind, hk, hx, ScopeKind.isAnnotationScope, Bool.false_and, Bool.false_eq_true, if_false]
  exact h
theorem glob_own (B : Base C K) {x : Str} {v : Value} (e : nsIn K mainGlobals x = some (some v)) : GlobIs C x v := by
  intro A env s Q E hk hx hg hb h0 hQ
  obtain ⟨p, loose, mg, mb, T⟩ := B.T
  exact glob_load hk hx (Calls.loadGlobal_global (env := env) (hg ▸ T.g.keeps h0) (mg_of B.K T.g e) hQ)
theorem glob_bui (B : Base C K) {x : Str} {v : Value} (e : nsIn K mainGlobals x = some none) (hv : bootBuiltins x = some v) (hn : x ≠ "__name__") : GlobIs C x v := by
  intro A env s Q E hk hx hg hb h0 hQ
  obtain ⟨p, loose, mg, mb, T⟩ := B.T
  exact glob_load hk hx (Calls.loadGlobal_builtin (env := env) (hg ▸ T.g.keeps h0) (mg_none_of B.K T.g e) (hb ▸ T.b.keeps h0) ((T.builtins x hn).trans hv) hQ)
theorem Base.at (B : Base C K) {mu : Reg} : Base (C.at mu) K := ⟨B.K, B.T⟩
theorem Base.nolimit (B : Base C K) : C.h₀.NoLimit := let ⟨_, _, _, _, T⟩ := B.T; T.nolimit
end

noncomputable def pickL {α : Type} (l : List α) (lo hi st : Option Int) : List α :=
  (sliceRange (sliceBounds lo hi st l.length).1 (sliceBounds lo hi st l.length).2.1 (sliceBounds lo hi st l.length).2.2).filterMap (l[·]?)
theorem pick_map {α : Type} (l : List α) (g : α → Dat) (lo hi st : Option Int) : pick (l.map g) lo hi st = (pickL l lo hi st).map g := by
  unfold pick pickL
  rw [List.length_map, List.map_filterMap]
  congr 1
  funext i
  simp
theorem pickL_run {α : Type} (l : List α) (lo hi : Option Int) (a b : Nat) (h : sliceBounds lo hi none l.length = ((a : Int), (b : Int), 1)) : pickL l lo hi none = (l.drop a).take (b - a) := by
  unfold pickL
  rw [h]
  have := pick_run l.toArray a (b - a)
  rw [sliceRange_one]
  simpa using this
theorem clampN (n m : Nat) : max 0 (min (if (n : Int) < 0 then (n : Int) + (m : Int) else (n : Int)) (m : Int)) = ((min n m : Nat) : Int) := by
  rw [if_neg (by omega), Int.max_eq_right (Int.le_min.mpr ⟨Int.natCast_nonneg _, Int.natCast_nonneg _⟩)]; omega
theorem pickL_from {α : Type} (l : List α) (k : Int) (h : 0 ≤ k) : pickL l (some k) none none = l.drop k.toNat := by
  obtain ⟨k, rfl⟩ := Int.eq_ofNat_of_zero_le h
  rw [Int.toNat_natCast, pickL_run l (some k) none (min k l.length) l.length (by simp only [sliceBounds]; simp; exact clampN k l.length)]
  rw [List.take_of_length_le (by simp)]
  by_cases hk : k ≤ l.length
  · rw [Nat.min_eq_left hk]
  · rw [Nat.min_eq_right (by omega), List.drop_of_length_le (Nat.le_refl _), List.drop_of_length_le (by omega)]
theorem pickL_upto {α : Type} (l : List α) (k : Int) (h : 0 ≤ k) : pickL l none (some k) none = l.take k.toNat := by
  obtain ⟨k, rfl⟩ := Int.eq_ofNat_of_zero_le h
  rw [Int.toNat_natCast, pickL_run l none (some k) 0 (min k l.length) (by simp only [sliceBounds]; simp; exact clampN k l.length)]
  rw [List.drop_zero, Nat.sub_zero]
  by_cases hk : k ≤ l.length
  · rw [Nat.min_eq_left hk]
  · rw [Nat.min_eq_right (by omega), List.take_of_length_le (Nat.le_refl _), List.take_of_length_le (by omega)]
theorem Ev.cast {C : Cx} {n : Nat} {sc : Scope} {Δ : Vars} {e : Expr} {d d' : Dat} (h : Ev C n sc Δ e d) (hd : d = d') : Ev C n sc Δ e d' := hd ▸ h
section
variable {C : Cx} {n : Nat} {sc : Scope} {Δ : Vars} {α : Type} {l : List α} {g : α → Dat}
theorem ev_upto {v hi : Expr} {p q : Pos} {k : Int} (h : Ev C n sc Δ v (.lst (l.map g))) (hk : Ev C n sc Δ hi (.int k)) (h0 : 0 ≤ k) (hl : l.length ≤ sizeLine) : Ev C n sc Δ (.Subscript v (.Slice none (some hi) none p) q) (.lst ((l.take k.toNat).map g)) :=
  (ev_cut (lo := none) (hi := some hi) (st := none) (a := none) (b := some k) (c := none) h trivial hk trivial (by simp) (by simpa using hl)).cast (by rw [pick_map, pickL_upto _ _ h0])
theorem ev_every {v lo st : Expr} {p q : Pos} {k m : Int} (h : Ev C n sc Δ v (.lst (l.map g))) (hk : Ev C n sc Δ lo (.int k)) (hm : Ev C n sc Δ st (.int m)) (h0 : m ≠ 0) (hl : l.length ≤ sizeLine) : Ev C n sc Δ (.Subscript v (.Slice (some lo) none (some st) p) q) (.lst ((pickL l (some k) none (some m)).map g)) :=
  (ev_cut (lo := some lo) (hi := none) (st := some st) (a := some k) (b := none) (c := some m) h hk trivial hm (by simpa using h0) (by simpa using hl)).cast (by rw [pick_map])
theorem op_itemm {v i : Expr} {k : Int} {x : α} (hx : l[k.toNat]? = some x) (h0 : 0 ≤ k) (hlen : l.length ≤ sizeLine) (hs : ∀ o u, subscripted i false o (.int k u) = operate [o, .int k u] (getItem o (.int k u)) := by intro _ _; rfl) : Op2 C n (subscriptTail v i) (.lst (l.map g)) (.int k) (g x) :=
  op_item_lst (by simp [hx]) h0 (by simpa using hlen) hs
theorem call_lenm (hlen : l.length ≤ sizeLine) : CallOp C n (.builtin "len") [.lst (l.map g)] (.int l.length) := by
  have := call_len (C := C) (n := n) (ds := l.map g) (by simpa using hlen)
  simpa using this
theorem op_ne_nilm : Op2 C n (compareOp .NotEq) (.lst (l.map g)) (.lst []) (.bool (!l.isEmpty)) := by
  have := op_ne_nil (C := C) (n := n) (ds := l.map g)
  simpa using this
end

noncomputable def compOkB (sc scope : Scope) (Δ : Vars) (xs : List Str) : Bool :=
  scope.kind == .function && scope.names.all (fun p => p.2 != .free || ((Δ p.1).isSome && (sc.names.lookup p.1 == some .cell || sc.names.lookup p.1 == some .free))) &&
  scope.names.all (fun p => p.2 != .local || scope.names.lookup p.1 == some .local) && xs.all (fun x => scope.names.lookup x == some .local || scope.names.lookup x == some .cell) && decide (scope.names.map (·.1)).Nodup
theorem CompOk.of {sc scope : Scope} {Δ : Vars} {xs : List Str} (h : compOkB sc scope Δ xs = true) : CompOk sc scope Δ xs := by
  simp only [compOkB, Bool.and_eq_true, List.all_eq_true, Bool.or_eq_true, bne_iff_ne, ne_eq, beq_iff_eq, decide_eq_true_eq] at h
  obtain ⟨⟨⟨⟨h1, h2⟩, h3⟩, h4⟩, h5⟩ := h
  exact ⟨h1, fun p hp hf => (h2 p hp).resolve_left (fun q => q hf), fun p hp hl => (h3 p hp).resolve_left (fun q => q hl), h4, h5⟩
noncomputable def swapB (sc scope : Scope) (x : Str) (px : Pos) (vp : Pos) : Bool :=
  sc.names.lookup x == some .local && px.line == vp.line && !(scope.names.any fun (n, k) => n == x && (k == .local || k == .cell))
theorem swaps_eq {elt : Expr} {gens : List Comprehension} {scope sc : Scope} {p px : Pos} {x : Str} {line : Nat} {env : Env} (h : env.scope = sc) (hk : sc.kind = .function) :
    swapsWith (.ListComp elt gens scope p) (some (.Name x px)) line env = pure (swapB sc scope x px p) := by
  subst h
  show pure (env.blockKind == .function && env.kindOf x == some .local && px.line == p.line && !(scope.names.any fun (n, k) => n == x && (k == .local || k == .cell))) = _
  have : env.blockKind = .function := by simp [Env.blockKind, hk]
  rw [this]; rfl
end Mine
end
noncomputable section
open PySem PySem.W PyProof.Rows PySem.SeqAt PySem.MeetsSeq
set_option Elab.async false
set_option autoImplicit false
set_option maxRecDepth 100000
namespace Mine
noncomputable abbrev K3 (C : Cx) : Frag := hd03.heap_1 C.w.params
section
variable {C : Cx} (B : Base C (K3 C))
include B
theorem g_range : GlobIs C (Str.ofString "range") (.type "range") := glob_bui B (by kernel_rfl!) (by decide +kernel) (by decide +kernel)
theorem g_len : GlobIs C (Str.ofString "len") (.builtin "len") := glob_bui B (by kernel_rfl!) (by decide +kernel) (by decide +kernel)
theorem g_sum : GlobIs C (Str.ofString "sum") (.builtin "sum") := glob_bui B (by kernel_rfl!) (by decide +kernel) (by decide +kernel)
theorem g_sorted : GlobIs C (Str.ofString "sorted") (.builtin "sorted") := glob_bui B (by kernel_rfl!) (by decide +kernel) (by decide +kernel)
theorem g_cells : GlobIs C (Str.ofString "_law_cells") (.ref 155) := glob_own B (by kernel_rfl!)
theorem g_rows : GlobIs C (Str.ofString "_law_rows") (.ref 160) := glob_own B (by kernel_rfl!)
theorem g_play : GlobIs C (Str.ofString "_law_play") (.ref 165) := glob_own B (by kernel_rfl!)
theorem g_free : GlobIs C (Str.ofString "_law_free") (.ref 170) := glob_own B (by kernel_rfl!)
theorem g_due : GlobIs C (Str.ofString "_law_due") (.ref 175) := glob_own B (by kernel_rfl!)
end
end Mine
end
noncomputable section
open PySem PySem.W PyProof.Rows PySem.SeqAt PySem.MeetsSeq
set_option Elab.async false
set_option autoImplicit false
namespace Mine
theorem filter_tt {α : Type} (l : List α) : l.filter (fun _ => true) = l := by simp
section
variable {C : Cx} {s₀ : Shared} {R₀ : Reg} {V : List Addr} {sc : Scope} {env : Env} {W : List Addr} {s s' : Shared} {R R' Mu Mu' : Reg} {Δ Δ' : Vars} {n : Nat} {A : Around} {E : Value → Shared → Prop} {Q : Flow → Shared → Prop}

theorem st_lc {α : Type} {L : List α} {enc : α → Dat} {tds : α → List Dat} {p : α → Bool} {f : α → Dat} {elt target iter : Expr} {ifs : List Expr} {pos : Pos} {scope : Scope} {x : Str} {px q : Pos} {rest : List Stmt} (xs : List Str)
    (F : Fra C s₀ R₀ V sc env W s R Mu Δ) (rm : Room n A) (hit : EvIt (C.at Mu) n sc Δ iter (L.map enc)) (hc : compOkB sc scope Δ xs = true)
    (hT : ∀ a ∈ L, Tgt target (enc a) xs (tds a)) (ht : ∀ a ∈ L, EvTs (C.at Mu) n (relab scope sc) (updAll (inner scope Δ) xs (tds a)) ifs (p a)) (he : ∀ a ∈ L, p a = true → Ev (C.at Mu) n (relab scope sc) (updAll (inner scope Δ) xs (tds a)) elt (f a)) (hlen : L.length ≤ sizeLine)
    (k : ∀ s' R', R.le R' → Fra C s₀ R₀ V sc env W s' R' Mu (upd Δ x (.lst ((L.filter p).map f))) → wpAny C.M A (execs rest env) Q E s')
    (hx : sc.names.lookup x = some .local ∨ sc.names.lookup x = some .cell := by first | exact Or.inl rfl | exact Or.inr rfl)
    (hs : ∀ env x, foldedSetIterable iter env x = pure x := by intro _ _; rfl) :
    wpAny C.M A (execs (.Assign [.Name x px] (.ListComp elt [⟨target, iter, ifs, 0⟩] scope pos) q :: rest) env) Q E s := by
  have sw := swaps_eq (elt := elt) (gens := [⟨target, iter, ifs, 0⟩]) (scope := scope) (p := pos) (px := px) (x := x) (line := q.line) F.eo.hsc F.eo.fn
  cases hb : swapB sc scope x px pos with
  | true => rw [hb] at sw; exact st_comp xs F rm hit (.of hc) hT ht he hlen k sw hx (hs env)
  | false => rw [hb] at sw; exact st_assign F rm (ev_comp xs hit (.of hc) hT ht he hlen hs) k sw hx
theorem st_lc0 {α : Type} {L : List α} {enc : α → Dat} {tds : α → List Dat} {f : α → Dat} {elt target iter : Expr} {pos : Pos} {scope : Scope} {x : Str} {px q : Pos} {rest : List Stmt} (xs : List Str)
    (F : Fra C s₀ R₀ V sc env W s R Mu Δ) (rm : Room n A) (hit : EvIt (C.at Mu) n sc Δ iter (L.map enc)) (hc : compOkB sc scope Δ xs = true)
    (hT : ∀ a ∈ L, Tgt target (enc a) xs (tds a)) (he : ∀ a ∈ L, Ev (C.at Mu) n (relab scope sc) (updAll (inner scope Δ) xs (tds a)) elt (f a)) (hlen : L.length ≤ sizeLine)
    (k : ∀ s' R', R.le R' → Fra C s₀ R₀ V sc env W s' R' Mu (upd Δ x (.lst (L.map f))) → wpAny C.M A (execs rest env) Q E s')
    (hx : sc.names.lookup x = some .local ∨ sc.names.lookup x = some .cell := by first | exact Or.inl rfl | exact Or.inr rfl)
    (hs : ∀ env x, foldedSetIterable iter env x = pure x := by intro _ _; rfl) :
    wpAny C.M A (execs (.Assign [.Name x px] (.ListComp elt [⟨target, iter, [], 0⟩] scope pos) q :: rest) env) Q E s :=
  st_lc (p := fun _ => true) xs F rm hit hc hT (fun _ _ => rfl) (fun a ha _ => he a ha) hlen (fun s' R' l F' => k s' R' l (by rw [filter_tt] at F'; exact F')) hx hs
theorem ev_lc0 {α : Type} {L : List α} {enc : α → Dat} {tds : α → List Dat} {f : α → Dat} {elt target iter : Expr} {pos : Pos} {scope : Scope} (xs : List Str) (hit : EvIt C n sc Δ iter (L.map enc)) (hc : compOkB sc scope Δ xs = true)
    (hT : ∀ a ∈ L, Tgt target (enc a) xs (tds a)) (he : ∀ a ∈ L, Ev C n (relab scope sc) (updAll (inner scope Δ) xs (tds a)) elt (f a)) (hlen : L.length ≤ sizeLine)
    (hs : ∀ env x, foldedSetIterable iter env x = pure x := by intro _ _; rfl) : Ev C n sc Δ (.ListComp elt [⟨target, iter, [], 0⟩] scope pos) (.lst (L.map f)) :=
  (ev_comp (p := fun _ => true) (ifs := []) xs hit (.of hc) hT (fun _ _ => rfl) (fun a ha _ => he a ha) hlen hs).cast (by rw [filter_tt])
theorem ev_lc {α : Type} {L : List α} {enc : α → Dat} {tds : α → List Dat} {p : α → Bool} {f : α → Dat} {elt target iter c : Expr} {pos : Pos} {scope : Scope} (xs : List Str) (hit : EvIt C n sc Δ iter (L.map enc)) (hc : compOkB sc scope Δ xs = true)
    (hT : ∀ a ∈ L, Tgt target (enc a) xs (tds a)) (ht : ∀ a ∈ L, EvT C n (relab scope sc) (updAll (inner scope Δ) xs (tds a)) c (p a)) (he : ∀ a ∈ L, p a = true → Ev C n (relab scope sc) (updAll (inner scope Δ) xs (tds a)) elt (f a)) (hlen : L.length ≤ sizeLine)
    (hs : ∀ env x, foldedSetIterable iter env x = pure x := by intro _ _; rfl) : Ev C n sc Δ (.ListComp elt [⟨target, iter, [c], 0⟩] scope pos) (.lst ((L.filter p).map f)) :=
  ev_comp xs hit (.of hc) hT ht he hlen hs

noncomputable def ofL (l : List (Str × Dat)) : Vars := fun x => l.lookup x
noncomputable def AllIn (Δ : Vars) : List (Str × Dat) → Prop
  | [] => True
  | (x, d) :: r => Δ x = some d ∧ AllIn Δ r
theorem AllIn.le {Δ : Vars} : ∀ {l : List (Str × Dat)}, AllIn Δ l → ∀ x d, ofL l x = some d → Δ x = some d
  | (y, e) :: r, h, x, d, q => by
    simp only [ofL, List.lookup_cons] at q
    split at q
    · rename_i hb; (have q_ := oSS q; clear q; subst q_); rw [eq_of_beq hb]; exact h.1
    · exact AllIn.le h.2 x d q
theorem Fra.toL (F : Fra C s₀ R₀ V sc env W s R Mu Δ) (l : List (Str × Dat)) (h : AllIn Δ l) : Fra C s₀ R₀ V sc env W s R Mu (ofL l) := F.weak h.le
theorem rangeI_len (a b : Int) : (rangeI a b).length = (b - a).toNat := by simp [rangeI]
theorem rangeI_mem {a b x : Int} (h : x ∈ rangeI a b) : a ≤ x ∧ x < b := by
  simp only [rangeI, List.mem_map, List.mem_range] at h
  obtain ⟨i, hi, rfl⟩ := h
  omega
theorem sizeLine_val : sizeLine = 16777216 := by decide
theorem bind1 {fd : FuncData} {xs : List Str} (h : ∀ v₁ : Value, bindArgs fd ⟨[v₁], []⟩ = pure (xs.zip [v₁])) (hx : xs.length = 1 := by rfl) : ∀ vs : List Value, vs.length = xs.length → bindArgs fd ⟨vs, []⟩ = pure (xs.zip vs)
  | [v], _ => h v
  | [], e => by rw [hx] at e; cases e
  | _ :: _ :: _, e => by rw [hx] at e; cases e
theorem bind2 {fd : FuncData} {xs : List Str} (h : ∀ v₁ v₂ : Value, bindArgs fd ⟨[v₁, v₂], []⟩ = pure (xs.zip [v₁, v₂])) (hx : xs.length = 2 := by rfl) : ∀ vs : List Value, vs.length = xs.length → bindArgs fd ⟨vs, []⟩ = pure (xs.zip vs)
  | [v, w], _ => h v w
  | [], e => by rw [hx] at e; cases e
  | [_], e => by rw [hx] at e; cases e
  | _ :: _ :: _ :: _, e => by rw [hx] at e; cases e
theorem fnOk {K : Frag} {a : Addr} {oc : Value} {od : Option Addr} {osl : Array (Option Value)} {fd : FuncData} {xs : List Str} {body : List Stmt} (B : Base C K) (h1 : K.lookup a = some ⟨oc, od, .func fd, osl⟩) (h2 : codeIn K fd.code fd.qualname = true) (h3 : fd.body = .stmts body)
    (h4 : (!fd.scope.isCoroutine && !fd.scope.isGenerator && fd.globals == mainGlobals && fd.builtins == builtinsNs && fd.closure.isEmpty && fd.scope.kind == .function && decide (fd.scope.names.map (·.1)).Nodup && xs.all (fun x => fd.scope.names.lookup x == some .local || fd.scope.names.lookup x == some .cell)) = true)
    (h5 : ∀ vs : List Value, vs.length = xs.length → bindArgs fd ⟨vs, []⟩ = pure (xs.zip vs)) : FnOk C a fd xs body := by
  simp only [Bool.and_eq_true, Bool.not_eq_true', beq_iff_eq, decide_eq_true_eq, List.all_eq_true, Bool.or_eq_true, List.isEmpty_iff] at h4
  obtain ⟨⟨⟨⟨⟨⟨⟨g1, g2⟩, g3⟩, g4⟩, g5⟩, g6⟩, g7⟩, g8⟩ := h4
  exact ⟨⟨_, B.K a _ h1, rfl⟩, codeRec_of B.K h2, B.nolimit, g1, g2, h3, g3, g4, g5, g6, g7, g8, h5⟩
end
end Mine
end
noncomputable section
open PySem PySem.W PyProof.Rows PySem.SeqAt PySem.MeetsSeq
set_option Elab.async false
set_option autoImplicit false
namespace Mine
section
variable {C : Cx} {n : Nat} {sc : Scope} {Δ : Vars}
end
section
variable {C : Cx} {s₀ : Shared} {R₀ : Reg} {V : List Addr} {sc : Scope} {env : Env} {W : List Addr} {s s' : Shared} {R R' Mu Mu' : Reg} {Δ : Vars} {n : Nat} {A : Around} {E : Value → Shared → Prop} {Q : Flow → Shared → Prop}
end
end Mine
end
noncomputable section
open PySem PySem.W PyProof.Rows PySem.SeqAt PySem.MeetsSeq PySem.Builtin
set_option Elab.async false
set_option autoImplicit false
set_option maxRecDepth 100000
namespace Mine

section
variable {prog : Program} {w : World} {A : Around} {E : Value → Shared → Prop} {K : Frag} {Cl x dx p : Addr} {s : Shared} {sl : Array (Option Value)} {od : Obj} {name : Str} {v : Value} {i : Nat}
noncomputable abbrev insObj (Cl dx : Addr) (sl : Array (Option Value)) : Obj := ⟨.ref Cl, some dx, .plain, sl⟩
theorem instAt (hx : s.heap.get? x = some (insObj Cl dx sl)) (hd : s.heap.get? dx = some od) : InstAt s.heap x (insObj Cl dx sl) Cl (some od) := ⟨hx, rfl, rfl, hd⟩

theorem getA_own {expr : Bool} {Q : Value → Shared → Prop} {attr : Option Value} (X : K.In s.heap) (hx : s.heap.get? x = some (insObj Cl dx sl)) (hd : s.heap.get? dx = some od) (hg : plainGet K Cl name = true) (hh : hasDictIn K Cl = true)
    (ha : findIn K (.ref Cl) name = some attr) (hn : noGet K attr = true) (hl : lookIn name od = some (some v)) (hv : handedIn v = true) (h : Q v { s with toks := s.toks + 1 }) :
    wpAny (model prog w) A (getAttr (.ref x) name expr) Q E s :=
  get_value X (instAt hx hd) (plainGet_of hg).1 (findObj_own hh ha hn hl) hv h
theorem getA_slot {expr : Bool} {Q : Value → Shared → Prop} (X : K.In s.heap) (hx : s.heap.get? x = some (insObj Cl dx sl)) (hd : s.heap.get? dx = some od) (hg : plainGet K Cl name = true) (hc : isClsIn K Cl = true)
    (ha : findIn K (.ref Cl) name = some (some (.ref p))) (hn : specialIn K (.ref p) "__get__" = some (some (.builtin "member_descriptor.__get__"))) (ht : takesIn K (.ref p) = some true) (hp : slotIn K p Cl = some i)
    (hv : (sl[i]?).join = some v) (hh : handedIn v = true) (h : Q v { s with toks := s.toks + 1 }) : wpAny (model prog w) A (getAttr (.ref x) name expr) Q E s :=
  get_bind X (instAt hx hd) (plainGet_of hg).1 (findObj_data hc ha hn ht) (plainGet_of hg).2 (wpAny_call (slot_get (s := { s with toks := s.toks + 1 }) X (instAt hx hd) hp hv (handed_on hh h)))

theorem osa_dictB {R : Result → Shared → Prop} {tk : Tok} {es es' : List DictEntry} {n n' : Nat} (X : K.In s.heap) (hx : s.heap.get? x = some (insObj Cl dx sl)) (hd : s.heap.get? dx = some (dictOf es n)) (hp : plainOver K Cl = true) (ht : takerIn K Cl name = some none) (hh : (clsIn K Cl).any (·.hasDict) = true)
    (hl : (getL name es).isSome = true) (e : (putL name (PyData.keyHash w.params name) (.str name s.toks) v es, putN name es n) = (es', n')) (hz : es'.length ≤ 1000)
    (h : ∀ h', Heap.SameBut dx s.heap h' → h'.get? dx = some (dictOf es' n') → R (.ok (.ret .none)) { s with heap := h', toks := s.toks + 1 }) :
    codeAny (model prog w) A (.call (.builtin "object.__setattr__") ⟨[.ref x, .str name tk, v], []⟩) R s := by
  refine osa_open X (instAt hx hd) hp ht fun b => ?_
  obtain ⟨cd, hc, hd'⟩ := any_some hh
  obtain ⟨e1, e2⟩ := Prod.mk.inj e
  have e' : Obj.putName name (PyData.keyHash w.params name) (.str name s.toks) v (dictOf es n) = dictOf es' n' := by rw [putName_dict, e1, e2]
  have D' : (s.heap.update dx (Obj.putName name (PyData.keyHash w.params name) (.str name s.toks) v)).get? dx = some (dictOf es' n') := by
    rw [← e']; exact Heap.get?_update_self _ hd (by rw [e']; rfl)
  refine wpAny_bind (wpAny_pure (wpAny_bind (wpAny_bind (wpAny_loadPart hx (wpAny_bind ((looks_clsIn X hc).here ?_))))))
  rw [hd']
  refine wpAny_pure (a := some dx) (wpAny_bind (wpAny_pure (wpAny_bind ?_)))
  unfold nsSet
  refine wpAny_bind (wpAny_bind (wpAny_askSetting (wpAny_pure (wpAny_bind (wpAny_mkText (wpAny_bind (wpAny_loadPart hd ?_)))))))
  have c : (!es.toArray.any (·.key.isStr name) && es.toArray.any (·.refKey)) = false := by
    rw [← Array.any_toList, ← Array.any_toList]
    unfold getL at hl
    split at hl
    · rename_i en he
      simp only [List.any_eq_true.mpr ⟨en, List.mem_of_find?_eq_some he, List.find?_some he⟩]; rfl
    · split at hl
      · cases hl
      · rename_i z; rw [Bool.not_eq_true] at z; simp only [z, Bool.and_false]
  dsimp only [dictOf]
  rw [aRefKeyMayBeTheName_at, c]
  refine wpAny_updatePart hd ?_
  refine wpAny_bind (wpAny_lookBehind D' (by rw [show (dictOf es' n').data = .dict es'.toArray n' from rfl]; exact pastItsLine_dict (by rw [List.size_toArray, sizeLine_eq]; omega)) ?_)
  exact wpAny_pure (h _ (Heap.SameBut.update ..) D')

theorem setA_own {Q : Unit → Shared → Prop} {es es' : List DictEntry} {n n' : Nat} (X : K.In s.heap) (hx : s.heap.get? x = some (insObj Cl dx sl)) (hd : s.heap.get? dx = some (dictOf es n))
    (hs : findIn K (.ref Cl) "__setattr__" = some (some (.builtin "object.__setattr__"))) (hp : plainOver K Cl = true) (ht : takerIn K Cl name = some none) (hh : hasDictIn K Cl = true)
    (hl : (getL name es).isSome = true) (e : (putL name (PyData.keyHash w.params name) (.str name (s.toks + 1)) v es, putN name es n) = (es', n')) (hz : es'.length ≤ 1000)
    (h : ∀ h', Heap.SameBut dx s.heap h' → h'.get? dx = some (dictOf es' n') → Q () { s with heap := h', toks := s.toks + 2 }) : wpAny (model prog w) A (setAttr (.ref x) name v) Q E s :=
  set_plain X (instAt hx hd) hs (osa_dictB (s := { s with toks := s.toks + 1 }) X hx hd hp ht hh hl e hz fun h' a b => h h' a b)

theorem slot_setB {R : Result → Shared → Prop} (X : K.In s.heap) (hx : s.heap.get? x = some (insObj Cl dx sl)) (hd : s.heap.get? dx = some od) (hp : slotIn K p Cl = some i) (hi : i < 1000)
    (h : ∀ h', Heap.SameBut x s.heap h' → h'.get? x = some (insObj Cl dx ((sl ++ Array.replicate (i + 1 - sl.size) none).setIfInBounds i (some v))) → R (.ok (.ret .none)) { s with heap := h' }) :
    codeAny (model prog w) A (.call (.builtin "member_descriptor.__set__") ⟨[.ref p, .ref x, v], []⟩) R s := by
  obtain ⟨n, tn, owner, behind, tb, d, sl', cd, ho, hc, hm, hb, rfl⟩ := slot_of X hp
  have I := instAt hx hd
  obtain ⟨hh, g, dr, t, os⟩ := s
  have L0 := I.type (M := model prog w)
  have L1 := looks_mroIn (M := model prog w) X hm
  have L2 : Looks (model prog w) hh (Slots.slotNamesOf (.ref Cl)) cd.slotNames := (looks_clsIn X hc).andThen .now
  dsimp only at ho hx L0 L1
  have f0 := looks_field (M := model prog w) ho 0 (v := .str n tn) rfl
  have f1 := looks_field (M := model prog w) ho 1 (v := owner) rfl
  have f3 := looks_field (M := model prog w) ho 3 (v := .builtin "proto.slot#set") rfl
  have f4 := looks_field (M := model prog w) ho 4 (v := .int behind tb) rfl
  refine codeAny_call_builtin KF.slot_mset.plain KF.entry_mset (KF.slot_mset.check _ _ _ _ _ _ _ _ ⟨_, ho, rfl⟩ (KF.args_mset _ _ _) ?_)
  unfold Builtin.«member_descriptor.__set__» Builtin.Getset_descriptor.descrSet Builtin.Getset_descriptor.descrStoreThrough Builtin.Getset_descriptor.descrCheckInstance Builtin.Getset_descriptor.descrNameAndClass isInstance
  have f5 : Looks (model prog w) hh (Builtin.Getset_descriptor.descrItself (.ref p)) [.ref p] := ((Looks.ld (part := none) ho).andThen .now).andThen (Looks.of_pure (by kernel_rfl))
  repeat lk
  refine ⟨Code.quiet_builtin _ (by decide +kernel), codeAny_builtin KF.entry_slotset ?_⟩
  unfold Builtin.«proto.slot#set» Slots.target
  repeat lk
  rw [if_neg hb]
  refine wpAny_pure (wpAny_bind ?_)
  unfold setSlotAt
  dsimp only
  rw [if_neg (by rw [sizeLine_eq]; omega)]
  refine wpAny_updatePart hx (wpAny_pure (h _ (Heap.SameBut.update ..) ?_))
  exact Heap.get?_update_self _ hx rfl

theorem setA_slot {Q : Unit → Shared → Prop} (X : K.In s.heap) (hx : s.heap.get? x = some (insObj Cl dx sl)) (hd : s.heap.get? dx = some od)
    (hs : findIn K (.ref Cl) "__setattr__" = some (some (.builtin "object.__setattr__"))) (hp : plainOver K Cl = true) (ht : takerIn K Cl name = some (some (.ref p))) (hT : typeIn K (.ref p) = some (.type "member_descriptor")) (hi : slotIn K p Cl = some i) (hz : i < 1000)
    (h : ∀ h', Heap.SameBut x s.heap h' → h'.get? x = some (insObj Cl dx ((sl ++ Array.replicate (i + 1 - sl.size) none).setIfInBounds i (some v))) → Q () { s with heap := h', toks := s.toks + 1 }) : wpAny (model prog w) A (setAttr (.ref x) name v) Q E s :=
  set_plain X (instAt hx hd) hs (osa_descr (s := { s with toks := s.toks + 1 }) KF.slot_mset X (instAt hx hd) hp ht hT (slot_setB (s := { s with toks := s.toks + 1 }) X hx hd hi hz fun h' a b => h h' a b))
end
end Mine
end
noncomputable section
open PySem PySem.W PyProof.Rows PySem.SeqAt PySem.MeetsSeq
set_option Elab.async false
set_option autoImplicit false
set_option maxRecDepth 100000
namespace Mine

section
variable {C : Cx} {s₀ : Shared} {R₀ : Reg} {V : List Addr} {sc : Scope} {env : Env} {W : List Addr} {s s' : Shared} {R R' Mu Mu' : Reg} {Δ Δ' : Vars} {n : Nat} {A : Around} {E : Value → Shared → Prop} {Q : Flow → Shared → Prop}

theorem Fra.hcx {X : List Addr} (F : Fra C s₀ R₀ V sc env W s R Mu Δ) (hX : ∀ a ∈ X, ∃ o, Mu a = some o ∧ ∀ v, o.data ≠ .cell v) : ∀ y c, env.cells.lookup y = some c → c ∉ X := fun y c h hc => by
  obtain ⟨v, o, z, zd⟩ := F.ew.calive y c h
  obtain ⟨o', e, hn⟩ := hX c hc
  rw [(F.mu c o' e).1] at z; (have q_ := oSS z; clear z; subst q_)
  exact hn v zd
theorem Fra.stepG {X : List Addr} (F : Fra C s₀ R₀ V sc env W s R Mu Δ) (k : KeepsBut X s s') (hX : ∀ a ∈ X, ∃ o, Mu a = some o ∧ ∀ v, o.data ≠ .cell v) (hX' : ∀ a ∈ X, ∃ o, s'.heap.get? a = some o)
    (h1 : R.le R') (h2 : R'.le (R.ext s.heap s'.heap)) (hM : ∀ a o, Mu' a = some o → s'.heap.get? a = some o ∧ R' a = none ∧ ((∃ o', Mu a = some o') ∨ s.heap.get? a = none)) :
    Fra C s₀ R₀ V sc env W s' R' Mu' Δ := by
  have F' := F.step k (fun a ha => let ⟨o, e, _⟩ := hX a ha; ⟨o, e⟩) (fun a ha _ => hX' a ha) (F.hcx hX)
  have dead : ∀ a, s.heap.get? a = none → s₀.heap.get? a = none := fun a h => by
    cases x : s₀.heap.get? a with
    | none => rfl
    | some o' =>
      exfalso
      by_cases hv : a ∈ V
      · obtain ⟨o, e⟩ := F.vnew a hv; rw [h] at e; (have q_ := oNS e; clear e; exact q_.elim)
      · rw [F.keep.get hv x] at h; (have q_ := oSN h; clear h; exact q_.elim)
  have down : ∀ a, R.ext s.heap s'.heap a = none → R' a = none := fun a h => by
    cases x : R' a with
    | none => rfl
    | some o => rw [h2 a o x] at h; (have q_ := oSN h; clear h; exact q_.elim)
  have e := F'.ew
  refine ⟨F'.keep, F'.vold, F'.vnew, ⟨F.ro.base.trans h1, fun a o e => F'.ro.on a o (h2 a o e), fun _ _ e => nomatch e⟩, F.le.trans h1, fun a o e => F'.sub a o (h2 a o e), ⟨⟨e.ok.hsc, e.ok.fn, e.ok.gl, e.ok.bl, fun y dy ey => ?_⟩, e.ns, e.locW, e.alive, fun a ha => down a (e.offR a ha), e.inj, e.locne, e.calive⟩, F'.fresh, F'.stor, fun a o e => ?_⟩
  · obtain ⟨v, hv, hr⟩ := F.ew.ok.vars y dy ey
    refine ⟨v, ?_, hr.mono h1⟩
    have hoff : ∀ c, env.cells.lookup y = some c → c ∉ X := fun c h => F.hcx hX y c h
    rcases hv with ⟨a1, m1, a2, a3⟩ | ⟨a1, c1, a2, o, a3, a4⟩ | ⟨a1, c1, a2, o, a3, a4⟩
    · exact .inl ⟨a1, m1, a2.at' fun o eo => k.get (fun h => by obtain ⟨o', e', _⟩ := hX _ h; exact (F.mu _ o' e').2.2.1 F.ew.locW) eo, a3⟩
    · exact .inr (.inl ⟨a1, c1, a2, o, k.get (hoff _ a2) a3, a4⟩)
    · exact .inr (.inr ⟨a1, c1, a2, o, k.get (hoff _ a2) a3, a4⟩)
  · obtain ⟨g1, g2, g3⟩ := hM a o e
    refine ⟨g1, g2, fun hw => ?_, ?_⟩
    · rcases g3 with ⟨o', g3⟩ | g3
      · exact (F.mu a o' g3).2.2.1 hw
      · obtain ⟨o', z⟩ := F.ew.isW hw; rw [g3] at z; (have q_ := oNS z; clear z; exact q_.elim)
    · rcases g3 with ⟨o', g3⟩ | g3
      · exact (F.mu a o' g3).2.2.2
      · exact .inr (dead a g3)

theorem Fra.lent {V : List Addr} (F : Fra C s₀ R₀ [] sc env W s R noM Δ) (hR : ∀ a ∈ V, R a = none) (hV : ∀ a ∈ V, ∃ o, s₀.heap.get? a = some o) : Fra C s₀ R₀ V sc env W s R (fun a => if a ∈ V then s₀.heap.get? a else none) Δ where
  keep := F.keep.sub fun _ h => nomatch h
  vold := hV
  vnew := fun a ha => let ⟨o, e⟩ := hV a ha; ⟨o, F.keep.get (by simp) e⟩
  ro := F.ro
  le := F.le
  sub := F.sub
  ew := F.ew
  fresh := F.fresh
  stor := F.stor
  mu := fun a o e => by
    split at e
    · rename_i ha
      refine ⟨F.keep.get (by simp) e, hR a ha, fun hw => ?_, .inl ha⟩
      rw [F.fresh a hw] at e; (have q_ := oNS e; clear e; exact q_.elim)
    · (have q_ := oNS e; clear e; exact q_.elim)

theorem st_expr {e : Expr} {p : Pos} {rest : List Stmt} (h : wpAny C.M A (eval e env) (fun _ s' => wpAny C.M A (execs rest env) Q E s') E s) (hi : interactive env = false) (hs : swapsWith e none p.line env = pure false := by rfl) :
    wpAny C.M A (execs (.Expr e p :: rest) env) Q E s := wpAny_execs_cons (wpAny_Expr_any h hi hs)
theorem Fra.quiet (F : Fra C s₀ R₀ V sc env W s R Mu Δ) : interactive env = false := by
  unfold interactive
  rw [F.eo.hsc, F.eo.fn]; rfl
theorem st_set {x : Str} {p q : Pos} {e : Expr} {rest : List Stmt} (_ : Fra C s₀ R₀ V sc env W s R Mu Δ) (he : wpAny C.M A (eval e env) (fun v s' => ∃ R' Mu' d, Fra C s₀ R₀ V sc env W s' R' Mu' Δ ∧ Rd R' v d ∧ ∀ s'', Fra C s₀ R₀ V sc env W s'' R' Mu' (upd Δ x d) → wpAny C.M A (execs rest env) Q E s'') E s)
    (hs : swapsWith e (some (.Name x p)) q.line env = pure false := by rfl) (hx : sc.names.lookup x = some .local ∨ sc.names.lookup x = some .cell := by first | exact Or.inl rfl | exact Or.inr rfl) :
    wpAny C.M A (execs (.Assign [.Name x p] e q :: rest) env) Q E s := by
  refine wpAny_execs_cons (wpAny_Assign_Name (wpAny_mono he (fun v s₁ p₁ => ?_) fun _ _ x => x) hs)
  obtain ⟨R', Mu', d, F', hd, k⟩ := p₁
  exact F'.store hd (fun s' _ F'' => k s' F'') hx

theorem st_while {test : Expr} {body rest : List Stmt} {p : Pos} (I : Nat → Shared → Prop) (k : Nat) (h0 : I k s)
    (turn : ∀ k s', I k s' → wpAny C.M A (isTrue test env (eval test env)) (fun b s₁ => if b then wpAny C.M A (execs body env) (fun f s₂ => match f with
        | .next | .cont => ∃ m, m < k ∧ I m s₂
        | .brk => wpAny C.M A (execs rest env) Q E s₂
        | .ret v => Q (.ret v) s₂) NoE s₁ else wpAny C.M A (execs rest env) Q E s₁) NoE s') :
    wpAny C.M A (execs (.While test body [] p :: rest) env) Q E s := by
  refine wpAny_execs_cons (wpAny_While (codeAny_whileLoop I (fun m s' hI => ?_) k h0))
  refine noE (turn m s' hI) fun b s₁ h₁ => ?_
  cases b with
  | true =>
    simp only [if_true] at h₁ ⊢
    refine noE h₁ fun f s₂ h₂ => ?_
    cases f <;> exact h₂
  | false =>
    simp only [Bool.false_eq_true, if_false] at h₁ ⊢
    exact wpAny_execs_nil h₁
end
end Mine
end
noncomputable section
open PySem PySem.W PyProof.Rows PySem.SeqAt PySem.MeetsSeq
set_option Elab.async false
set_option autoImplicit false
set_option maxRecDepth 100000
namespace Mine

theorem Base.ins {C : Cx} {K : Frag} (B : Base C K) {h : Heap} (k : hle C.h₀ h) : K.In h := B.K.keeps k

structure MethA (K : Frag) (Cl : Addr) (name : Str) (f : Addr) : Prop where
  get : plainGet K Cl name = true
  find : findIn K (.ref Cl) name = some (some (.ref f))
  fn : typeIn K (.ref f) = some (.type "function")
  keep : keepIn K (.ref f) = true
structure OwnA (K : Frag) (Cl : Addr) (name : Str) : Prop where
  get : plainGet K Cl name = true
  dict : hasDictIn K Cl = true
  attr : ((findIn K (.ref Cl) name).any fun a => noGet K a) = true
  set : findIn K (.ref Cl) "__setattr__" = some (some (.builtin "object.__setattr__"))
  over : plainOver K Cl = true
  take : takerIn K Cl name = some none
structure SlotA (K : Frag) (Cl : Addr) (name : Str) (p : Addr) (i : Nat) : Prop where
  get : plainGet K Cl name = true
  cls : isClsIn K Cl = true
  find : findIn K (.ref Cl) name = some (some (.ref p))
  sget : specialIn K (.ref p) "__get__" = some (some (.builtin "member_descriptor.__get__"))
  takes : takesIn K (.ref p) = some true
  slot : slotIn K p Cl = some i
  set : findIn K (.ref Cl) "__setattr__" = some (some (.builtin "object.__setattr__"))
  over : plainOver K Cl = true
  take : takerIn K Cl name = some (some (.ref p))
  typ : typeIn K (.ref p) = some (.type "member_descriptor")
  small : i < 1000

theorem putL_len (name : Str) (hsh : Int) (key v : Value) : ∀ es : List DictEntry, (putL name hsh key v es).length ≤ es.length + 1
  | [] => by simp [putL]
  | e :: r => by
    have ih := putL_len name hsh key v r
    simp only [putL]
    split
    · simp
    · simp only [List.length_cons]; omega

section
variable {C : Cx} {s₀ : Shared} {R₀ : Reg} {V : List Addr} {sc : Scope} {env : Env} {W : List Addr} {s s' : Shared} {R R' Mu Mu' : Reg} {Δ Δ' : Vars} {n : Nat} {A : Around} {E : Value → Shared → Prop} {Q : Flow → Shared → Prop} {K : Frag} {Cl x dx p f : Addr} {sl : Array (Option Value)} {od : Obj} {name : Str} {v : Value} {i : Nat}

theorem ev_own {e : Expr} {pos : Pos} (B : Base C K) (O : OwnA K Cl name) (he : Ev C n sc Δ e (.val (.ref x))) (hx : C.mu x = some (insObj Cl dx sl)) (hd : C.mu dx = some od) (hl : lookIn name od = some (some v)) (hv : handedIn v = true := by rfl)
    (hev : ∀ env, eval (.Attribute e name pos) env = (do
      let o ← eval e env
      standAt pos.atName
      let r ← holding [o] (getAttr o name true)
      letTemporaryGo e o r
      pure r) := by intro _; with_unfolding_all rfl) : Ev C n sc Δ (.Attribute e name pos) (.val v) := by
  intro A env s R rm ro eo
  refine Attribute_any_ (noE (he A env s R rm ro eo) fun o s₁ p₁ => ?_) (hev env)
  have h1 := p₁.2
  (have q_ := Rd.valE h1; clear h1; subst q_)
  have r₁ := ro.ext (Keeps.hle p₁.1)
  obtain ⟨attr, ha, hn⟩ := any_some O.attr
  exact getA_own (B.ins r₁.hle0) (r₁.mu _ _ hx) (r₁.mu _ _ hd) O.get O.dict ha hn hl hv (Post.step p₁.1 ⟨Keeps.toks s₁ _, .val v⟩)
theorem ev_slot {e : Expr} {pos : Pos} (B : Base C K) (O : SlotA K Cl name p i) (he : Ev C n sc Δ e (.val (.ref x))) (hx : C.mu x = some (insObj Cl dx sl)) (hd : C.mu dx = some od) (hl : (sl[i]?).join = some v) (hv : handedIn v = true := by rfl)
    (hev : ∀ env, eval (.Attribute e name pos) env = (do
      let o ← eval e env
      standAt pos.atName
      let r ← holding [o] (getAttr o name true)
      letTemporaryGo e o r
      pure r) := by intro _; with_unfolding_all rfl) : Ev C n sc Δ (.Attribute e name pos) (.val v) := by
  intro A env s R rm ro eo
  refine Attribute_any_ (noE (he A env s R rm ro eo) fun o s₁ p₁ => ?_) (hev env)
  have h1 := p₁.2
  (have q_ := Rd.valE h1; clear h1; subst q_)
  have r₁ := ro.ext (Keeps.hle p₁.1)
  exact getA_slot (B.ins r₁.hle0) (r₁.mu _ _ hx) (r₁.mu _ _ hd) O.get O.cls O.find O.sget O.takes O.slot hl hv (Post.step p₁.1 ⟨Keeps.toks s₁ _, .val v⟩)
theorem Ev.asInt {e : Expr} {i : Int} {t : Tok} (h : Ev C n sc Δ e (.val (.int i t))) : Ev C n sc Δ e (.int i) := fun A env s R rm ro eo => noE (h A env s R rm ro eo) fun v s₁ p₁ => by
  have h1 := p₁.2
  (have q_ := Rd.valE h1; clear h1; subst q_)
  exact ⟨p₁.1, .int i t⟩
theorem meth_run {o e : Expr} {ap pos : Pos} {es : List Expr} {ds : List Dat} {Qv : Value → Shared → Prop} (B : Base C K) (O : MethA K Cl name f) (F : Fra C s₀ R₀ V sc env W s R Mu Δ) (rm : Room n A) (he : Ev (C.at Mu) n sc Δ o (.val (.ref x))) (hx : Mu x = some (insObj Cl dx sl)) (hd : Mu dx = some od)
    (hl : lookIn name od = some none) (ha : EvAll (C.at Mu) n sc Δ (e :: es) ds)
    (h : ∀ s₁ R₁ vs, R.le R₁ → Keeps s s₁ → Fra C s₀ R₀ V sc env W s₁ R₁ Mu Δ → RdAll R₁ vs ds → wpAny C.M A (call (.ref f) (.ref x :: vs)) Qv E s₁)
    (h2 : starEach (e :: es) env = (false, eval e env) :: starEach es env := by rfl) (h3 : (backTo pos (starEach es env)).any (·.1) = false := by rfl)
    {pl : Sem Bool} (hc : eval (.Call (.Attribute o name ap) (e :: es) [] pos) env = (do
      let ov ← eval o env
      standAt ap.atName
      let (f, first) ← holding [ov] (getMethod ov name pl)
      callWith pos f first (backTo pos (starEach (e :: es) env)) (backToKw pos (keywordEach [] env))) := by rfl) :
    wpAny C.M A (eval (.Call (.Attribute o name ap) (e :: es) [] pos) env) Qv E s := by
  refine methodCall_KW (pl := pl) (noE (he A env s R rm F.rom F.eo) fun ov s₁ p₁ => ?_) hc
  have h1 := p₁.2
  (have q_ := Rd.valE h1; clear h1; subst q_)
  have F₁ := F.ext p₁.1
  have r₁ := F₁.rom
  refine method_fn (B.ins r₁.hle0) (instAt (r₁.mu _ _ hx) (r₁.mu _ _ hd)) (plainGet_of O.get).1 (plainGet_of O.get).2 O.find O.fn (by show (lookIn name od).map _ = _; rw [hl]; rfl) ?_
  refine callWith_K (B.ins r₁.hle0) O.keep (noE (ha A env s₁ _ pos rm r₁ F₁.eo) fun vs s₂ p₂ => ?_) h2 h3
  have F₂ := F₁.ext p₂.1
  exact ⟨B.ins F₂.ro.hle0, h s₂ _ vs ((Reg.ext_le F.ro.on).trans (Reg.ext_le F₁.ro.on)) (Keeps.tr p₁.1 p₂.1) F₂ p₂.2⟩
theorem meth_run0 {o : Expr} {ap pos : Pos} {Qv : Value → Shared → Prop} (B : Base C K) (O : MethA K Cl name f) (F : Fra C s₀ R₀ V sc env W s R Mu Δ) (rm : Room n A) (he : Ev (C.at Mu) n sc Δ o (.val (.ref x))) (hx : Mu x = some (insObj Cl dx sl)) (hd : Mu dx = some od)
    (hl : lookIn name od = some none)
    (h : ∀ s₁ R₁, R.le R₁ → Keeps s s₁ → Fra C s₀ R₀ V sc env W s₁ R₁ Mu Δ → wpAny C.M A (call (.ref f) [.ref x]) Qv E s₁)
    {pl : Sem Bool} (hc : eval (.Call (.Attribute o name ap) [] [] pos) env = (do
      let ov ← eval o env
      standAt ap.atName
      let (f, first) ← holding [ov] (getMethod ov name pl)
      callWith pos f first (backTo pos (starEach [] env)) (backToKw pos (keywordEach [] env))) := by rfl) :
    wpAny C.M A (eval (.Call (.Attribute o name ap) [] [] pos) env) Qv E s := by
  refine methodCall_KW (pl := pl) (noE (he A env s R rm F.rom F.eo) fun ov s₁ p₁ => ?_) hc
  have h1 := p₁.2
  (have q_ := Rd.valE h1; clear h1; subst q_)
  have F₁ := F.ext p₁.1
  have r₁ := F₁.rom
  refine method_fn (B.ins r₁.hle0) (instAt (r₁.mu _ _ hx) (r₁.mu _ _ hd)) (plainGet_of O.get).1 (plainGet_of O.get).2 O.find O.fn (by show (lookIn name od).map _ = _; rw [hl]; rfl) ?_
  exact callWith_K0 (B.ins r₁.hle0) O.keep (h s₁ _ (Reg.ext_le F.ro.on) p₁.1 F₁)

theorem st_own {o e : Expr} {ap pos : Pos} {d : Dat} {es : List DictEntry} {k : Nat} {rest : List Stmt} (B : Base C K) (O : OwnA K Cl name) (F : Fra C s₀ R₀ V sc env W s R Mu Δ) (rm : Room n A) (ho : Ev (C.at Mu) n sc Δ o (.val (.ref x))) (he : Ev (C.at Mu) n sc Δ e d) (hx : Mu x = some (insObj Cl dx sl)) (hd : Mu dx = some (dictOf es k))
    (hl : (getL name es).isSome = true) (hz : es.length < 1000)
    (h : ∀ s₁ R₁ v t, R.le R₁ → Rd R₁ v d → Fra C s₀ R₀ V sc env W s₁ R₁ (Mu.set dx (dictOf (putL name (PyData.keyHash C.w.params name) (.str name t) v es) (putN name es k))) Δ → wpAny C.M A (execs rest env) Q E s₁)
    (hs : swapsWith e (some (.Attribute o name ap)) pos.line env = pure false := by rfl) :
    wpAny C.M A (execs (.Assign [.Attribute o name ap] e pos :: rest) env) Q E s := by
  refine wpAny_execs_cons (plainObj_wpAny_Assign_Attribute (noE (he A env s R rm F.rom F.eo) fun v s₁ p₁ => ?_) hs)
  have F₁ := F.ext p₁.1
  refine noE (ho A env s₁ _ rm F₁.rom F₁.eo) fun ov s₂ p₂ => ?_
  have h1 := p₂.2
  (have q_ := Rd.valE h1; clear h1; subst q_)
  have F₂ := F₁.ext p₂.1
  have r₂ := F₂.rom
  refine setA_own (B.ins r₂.hle0) (r₂.mu _ _ hx) (r₂.mu _ _ hd) O.set O.over O.take O.dict hl rfl ?_ fun h' hsb hg => ?_
  · have := putL_len name (PyData.keyHash C.w.params name) (.str name (s₂.toks + 1)) v es; omega
  · exact h _ _ v _ ((Reg.ext_le F.ro.on).trans (Reg.ext_le F₁.ro.on)) (p₁.2.mono (Reg.ext_le F₁.ro.on)) (F₂.mut hd (fun _ q => nomatch q) hsb hg)
theorem st_slot {o e : Expr} {ap pos : Pos} {d : Dat} {rest : List Stmt} (B : Base C K) (O : SlotA K Cl name p i) (F : Fra C s₀ R₀ V sc env W s R Mu Δ) (rm : Room n A) (ho : Ev (C.at Mu) n sc Δ o (.val (.ref x))) (he : Ev (C.at Mu) n sc Δ e d) (hx : Mu x = some (insObj Cl dx sl)) (hd : Mu dx = some od)
    (h : ∀ s₁ R₁ v, R.le R₁ → Rd R₁ v d → Fra C s₀ R₀ V sc env W s₁ R₁ (Mu.set x (insObj Cl dx ((sl ++ Array.replicate (i + 1 - sl.size) none).setIfInBounds i (some v)))) Δ → wpAny C.M A (execs rest env) Q E s₁)
    (hs : swapsWith e (some (.Attribute o name ap)) pos.line env = pure false := by rfl) :
    wpAny C.M A (execs (.Assign [.Attribute o name ap] e pos :: rest) env) Q E s := by
  refine wpAny_execs_cons (plainObj_wpAny_Assign_Attribute (noE (he A env s R rm F.rom F.eo) fun v s₁ p₁ => ?_) hs)
  have F₁ := F.ext p₁.1
  refine noE (ho A env s₁ _ rm F₁.rom F₁.eo) fun ov s₂ p₂ => ?_
  have h1 := p₂.2
  (have q_ := Rd.valE h1; clear h1; subst q_)
  have F₂ := F₁.ext p₂.1
  have r₂ := F₂.rom
  refine setA_slot (B.ins r₂.hle0) (r₂.mu _ _ hx) (r₂.mu _ _ hd) O.set O.over O.take O.typ O.slot O.small fun h' hsb hg => ?_
  exact h _ _ v ((Reg.ext_le F.ro.on).trans (Reg.ext_le F₁.ro.on)) (p₁.2.mono (Reg.ext_le F₁.ro.on)) (F₂.mut hx (fun _ q => nomatch q) hsb hg)
theorem st_ownAug {o e : Expr} {ap pos : Pos} {op : Operator} {d₀ d₁ d : Dat} {es : List DictEntry} {k : Nat} {rest : List Stmt} (B : Base C K) (O : OwnA K Cl name) (F : Fra C s₀ R₀ V sc env W s R Mu Δ) (rm : Room n A) (ho : Ev (C.at Mu) n sc Δ o (.val (.ref x))) (he : Ev (C.at Mu) n sc Δ e d₁) (hx : Mu x = some (insObj Cl dx sl)) (hd : Mu dx = some (dictOf es k))
    (hl : getL name es = some (some v)) (hv : handedIn v = true) (hd₀ : ∀ R, Rd R v d₀) (hop : Op2 (C.at Mu) n (inplaceOp op) d₀ d₁ d) (hz : es.length < 1000)
    (h : ∀ s₁ R₁ v t, R.le R₁ → Rd R₁ v d → Fra C s₀ R₀ V sc env W s₁ R₁ (Mu.set dx (dictOf (putL name (PyData.keyHash C.w.params name) (.str name t) v es) (putN name es k))) Δ → wpAny C.M A (execs rest env) Q E s₁) :
    wpAny C.M A (execs (.AugAssign (.Attribute o name ap) op e pos :: rest) env) Q E s := by
  refine wpAny_execs_cons (wpAny_AugAssign_AttributeAny (noE (ho A env s R rm F.rom F.eo) fun ov s₁ p₁ => ?_))
  have h1 := p₁.2
  (have q_ := Rd.valE h1; clear h1; subst q_)
  have F₁ := F.ext p₁.1
  have r₁ := F₁.rom
  obtain ⟨attr, ha, hn⟩ := any_some O.attr
  refine getA_own (B.ins r₁.hle0) (r₁.mu _ _ hx) (r₁.mu _ _ hd) O.get O.dict ha hn ((lookIn_dict name es k).trans hl) hv ?_
  have F₂ := F₁.ext (Keeps.toks s₁ (s₁.toks + 1))
  refine noE (he A env _ _ rm F₂.rom F₂.eo) fun v₁ s₃ p₃ => ?_
  have F₃ := F₂.ext p₃.1
  refine noE (hop A s₃ _ v v₁ rm F₃.rom (hd₀ _) p₃.2) fun r s₄ p₄ => ?_
  have F₄ := F₃.ext p₄.1
  have r₄ := F₄.rom
  refine setA_own (B.ins r₄.hle0) (r₄.mu _ _ hx) (r₄.mu _ _ hd) O.set O.over O.take O.dict (by rw [hl]; rfl) rfl ?_ fun h' hsb hg => ?_
  · have := putL_len name (PyData.keyHash C.w.params name) (.str name (s₄.toks + 1)) r es; omega
  · exact h _ _ r _ ((Reg.ext_le F.ro.on).trans ((Reg.ext_le F₁.ro.on).trans ((Reg.ext_le F₂.ro.on).trans (Reg.ext_le F₃.ro.on)))) p₄.2 (F₄.mut hd (fun _ q => nomatch q) hsb hg)
theorem st_slotAug {o e : Expr} {ap pos : Pos} {op : Operator} {d₀ d₁ d : Dat} {rest : List Stmt} (B : Base C K) (O : SlotA K Cl name p i) (F : Fra C s₀ R₀ V sc env W s R Mu Δ) (rm : Room n A) (ho : Ev (C.at Mu) n sc Δ o (.val (.ref x))) (he : Ev (C.at Mu) n sc Δ e d₁) (hx : Mu x = some (insObj Cl dx sl)) (hd : Mu dx = some od)
    (hl : (sl[i]?).join = some v) (hv : handedIn v = true) (hd₀ : ∀ R, Rd R v d₀) (hop : Op2 (C.at Mu) n (inplaceOp op) d₀ d₁ d)
    (h : ∀ s₁ R₁ v, R.le R₁ → Rd R₁ v d → Fra C s₀ R₀ V sc env W s₁ R₁ (Mu.set x (insObj Cl dx ((sl ++ Array.replicate (i + 1 - sl.size) none).setIfInBounds i (some v)))) Δ → wpAny C.M A (execs rest env) Q E s₁) :
    wpAny C.M A (execs (.AugAssign (.Attribute o name ap) op e pos :: rest) env) Q E s := by
  refine wpAny_execs_cons (wpAny_AugAssign_AttributeAny (noE (ho A env s R rm F.rom F.eo) fun ov s₁ p₁ => ?_))
  have h1 := p₁.2
  (have q_ := Rd.valE h1; clear h1; subst q_)
  have F₁ := F.ext p₁.1
  have r₁ := F₁.rom
  refine getA_slot (B.ins r₁.hle0) (r₁.mu _ _ hx) (r₁.mu _ _ hd) O.get O.cls O.find O.sget O.takes O.slot hl hv ?_
  have F₂ := F₁.ext (Keeps.toks s₁ (s₁.toks + 1))
  refine noE (he A env _ _ rm F₂.rom F₂.eo) fun v₁ s₃ p₃ => ?_
  have F₃ := F₂.ext p₃.1
  refine noE (hop A s₃ _ v v₁ rm F₃.rom (hd₀ _) p₃.2) fun r s₄ p₄ => ?_
  have F₄ := F₃.ext p₄.1
  have r₄ := F₄.rom
  refine setA_slot (B.ins r₄.hle0) (r₄.mu _ _ hx) (r₄.mu _ _ hd) O.set O.over O.take O.typ O.slot O.small fun h' hsb hg => ?_
  exact h _ _ r ((Reg.ext_le F.ro.on).trans ((Reg.ext_le F₁.ro.on).trans ((Reg.ext_le F₂.ro.on).trans (Reg.ext_le F₃.ro.on)))) p₄.2 (F₄.mut hx (fun _ q => nomatch q) hsb hg)
end
end Mine
end
noncomputable section
open PySem PySem.W PyProof.Rows PySem.SeqAt PySem.MeetsSeq
set_option Elab.async false
set_option autoImplicit false
set_option maxRecDepth 100000
namespace Mine

section
variable {C : Cx} {n : Nat} {sc : Scope} {Δ : Vars} {D : Addr} {od : Obj} {kvs : List (Int × Value)}
noncomputable abbrev iK (C : Cx) : KeyKind C.prog C.w Int := intKind C.prog C.w
theorem dictAt_of {h : Heap} (hD : h.get? D = some od) (hk : od.IsDictOf (iK C) kvs) : h.DictOf (iK C) D kvs := Heap.dictOf_iff.mpr ⟨od, hD, hk⟩

theorem ev_dget {o e : Expr} {ap p : Pos} {k : Int} (ho : Ev C n sc Δ o (.val (.ref D))) (he : Ev C n sc Δ e (.int k)) (hD : C.mu D = some od) (hk : od.IsDictOf (iK C) kvs) (hds : (D == sysModules) = false)
    (hline : (ap.endLine == p.line) = true := by rfl) (hbase : ∀ env, attributeBase o (Str.ofString "get") env (eval o env) = eval o env := by intro _; rfl) (hs : ∀ env, backTo p (starEach [e] env) = [(false, eval e env)] := by intro _; rfl) :
    Ev C n sc Δ (.Call (.Attribute o (Str.ofString "get") ap) [e] [] p) (.val ((valueAt kvs k).getD .none)) := by
  intro A env s R rm ro eo
  refine wpAny_Call_method1_late (hbase env) hline (hs env) (noE (ho A env s R rm ro eo) fun ov s₁ p₁ => ?_)
  have h1 := p₁.2
  (have q_ := Rd.valE h1; clear h1; subst q_)
  have k₁ := Keeps.hle p₁.1
  have r₁ := ro.ext k₁
  have dm := dictAt_of (C := C) (r₁.mu _ _ hD) hk
  refine ⟨"dict", "dict.get", F.plainAttrs_dict, F.slot_dict_get, F.type_dict_get, dm.typeIs, dm.mapOf.noDict, ?_⟩
  refine wpAny_dict_get1 (knd := iK C) hds (noE (he A env s₁ _ rm r₁ (eo.ext ro k₁)) fun key s₂ p₂ => ?_)
  have h2 := p₂.2
  (have q_ := Rd.intE h2; clear h2; obtain ⟨_, rfl⟩ := q_)
  have r₂ := r₁.ext (Keeps.hle p₂.1)
  exact ⟨k, _, intKind_is _ _ _ _, (dictAt_of (C := C) (r₂.mu _ _ hD) hk).mapOf, Keeps.tr (Keeps.tr p₁.1 p₂.1) (Keeps.toks s₂ _), .val _⟩

theorem op_ditem {v i : Expr} {k : Int} {w : Value} (hD : C.mu D = some od) (hk : od.IsDictOf (iK C) kvs) (hv : valueAt kvs k = some w)
    (hs : ∀ o u, subscripted i false o (.int k u) = operate [o, .int k u] (getItem o (.int k u)) := by intro _ _; rfl) : Op2 C n (subscriptTail v i) (.val (.ref D)) (.int k) (.val w) := by
  intro A s R v₁ v₂ rm ro h₁ h₂
  (have q_ := Rd.valE h₁; clear h₁; subst q_)
  (have q_ := Rd.intE h₂; clear h₂; obtain ⟨_, rfl⟩ := q_)
  have dm := dictAt_of (C := C) (ro.mu _ _ hD) hk
  exact tail_any dm.typeIs slot_dict_getitem.lookup (wpAny_getItem_of (intKind_is _ _ _ _) dm.mapOf hv ⟨Keeps.toks s _, .val _⟩) (hs _ _)

theorem iter_dict {I : Addr} {ep : Nat} {R₀ : Reg} {es : Array DictEntry} (hD : C.mu D = some od) (hk : od.ExactDict ∧ od.data = .dict es ep ∧ KeysOf (iK C) es ∧ Pairs (iK C) es.toList kvs ∧ (kvs.map (·.1)).Nodup) (hI : C.mu I = none) :
    Iter C (.ref I) [I] (kvs.map fun kv => Dat.int kv.1) R₀ (fun i h => h.IsKeyIter I D i kvs.length ep ∧ h.get? D = some od) where
  frame := fun i h h' st hk' _ hm => ⟨let ⟨o, ho, r⟩ := st.1; ⟨o, hk' I (by simp) o ho, r⟩, hm _ _ hD⟩
  alive := fun i h st b hb => by
    obtain ⟨o, x, _⟩ := st.1
    rw [List.mem_singleton.mp hb]; exact ⟨o, x⟩
  next := fun A i s R d hh hi st hle ho hW => by
    have hne : D ≠ I := fun h => by rw [h, hI] at hD; (have q_ := oNS hD; clear hD; exact q_.elim)
    rw [List.getElem?_map] at hi
    obtain ⟨⟨k, v⟩, hkv, rfl⟩ := Option.map_eq_some_iff.mp hi
    refine wpAny_pyNext_dict_item (knd := iK C) st.1 ⟨od, es, st.2, hk⟩ hkv fun key h' hkey hit' hs' => ?_
    refine ⟨key, rfl, ⟨hit', hs'.extBut _ _ hne st.2⟩, ⟨h', s.toks, rfl, fun b o hb e => hs'.extBut b o (fun h => hb (by simp [h])) e⟩, ?_⟩
    have : ∃ t, key = .int k t := by
      simp only [intKind, Value.isInt] at hkey
      cases key <;> first | exact ⟨_, by rw [beq_iff_eq.mp hkey]⟩ | (simp at hkey)
    obtain ⟨t, rfl⟩ := this
    exact .int k t
  done := fun A s hh st => by
    refine wpAny_pyNext_dict_end (knd := iK C) hh st.1 ⟨od, es, st.2, hk⟩ (by simp) fun h' he' => ⟨rfl, h', s.toks, rfl, fun b o hb e => he' b o (fun h => hb (by simp [h])) e⟩
  self := fun A i s Q E st hQ => wpAny_pyIter_keyiter st.1 hQ
  letgo := fun A i s t v Q E _ st hQ => by
    obtain ⟨o, ho, hc, _⟩ := st.1
    exact letgo_plain ho hc (by decide) (hQ s st (.rfl' _ _))
end
end Mine
end
noncomputable section
open PySem PySem.W PyProof.Rows PySem.SeqAt PySem.MeetsSeq
set_option Elab.async false
set_option autoImplicit false
set_option maxRecDepth 100000
namespace Mine

noncomputable def ItV (C : Cx) (v : Value) (R : Reg) (s : Shared) (ds : List Dat) : Prop :=
  ∀ A, A.handled = none → wpAny C.M A (pyIter v) (fun it s₂ => Keeps s s₂ ∧ ∃ wr St, Iter C it wr ds ((R.ext s.heap s₂.heap).minus wr) St ∧ St 0 s₂.heap ∧ (∀ a ∈ wr, s.heap.get? a = none)) NoE s
section
variable {C : Cx} {n : Nat} {sc : Scope} {Δ : Vars} {D : Addr} {od : Obj} {kvs : List (Int × Value)} {s : Shared} {R : Reg}
theorem evIt_of {e : Expr} {ds : List Dat} {P : Value → Reg → Prop} (h : ∀ A env s R, Room n A → Rok C R s.heap → EnvOk sc env s.heap R Δ → wpAny C.M A (eval e env) (fun v s' => Keeps s s' ∧ P v (R.ext s.heap s'.heap)) NoE s)
    (hp : ∀ v R s, P v R → Rok C R s.heap → ItV C v R s ds) : EvIt C n sc Δ e ds := by
  intro A env s R rm ro eo
  refine noE (h A env s R rm ro eo) fun v s₁ p₁ => ?_
  have k₁ := Keeps.hle p₁.1
  refine noE (hp v _ s₁ p₁.2 (ro.ext k₁) A rm.handled) fun it s₂ h₂ => ?_
  obtain ⟨k₂, wr, St, It, st, hw⟩ := h₂
  have hdead : ∀ a ∈ wr, s.heap.get? a = none := fun a ha => by
    cases e : s.heap.get? a with
    | none => rfl
    | some o => have := k₁ _ _ e; rw [hw a ha] at this; (have q_ := oNS this; clear this; exact q_.elim)
  refine ⟨Keeps.tr p₁.1 k₂, wr, St, ?_, st, hdead⟩
  have le : (((R.ext s.heap s₁.heap).ext s₁.heap s₂.heap).minus wr).le ((R.ext s.heap s₂.heap).minus wr) := fun a o e => by
    by_cases ha : a ∈ wr
    · rw [Reg.minus_off ha] at e; (have q_ := oNS e; clear e; exact q_.elim)
    · exact Reg.minus_some ha (Reg.ext_ext k₁ (Keeps.hle k₂) a o (Reg.minus_le a o e))
  exact { It with frame := fun i h h' st hk ho hm => It.frame i h h' st hk (ho.le le) hm, next := fun A i s R d hh hi st hle => It.next A i s R d hh hi st (le.trans hle) }
theorem new_up {o : Obj} (ro : R.on s.heap) : R.le ((R.ext s.heap (s.heap.push o)).minus [s.heap.objs.size]) := fun a ob e =>
  Reg.minus_some (fun h => by
    have := ro a ob e
    rw [List.mem_singleton.mp h, fresh_none] at this; (have q_ := oNS this; clear this; exact q_.elim)) (Reg.ext_le ro a ob e)

theorem iter_tuple {I l : Addr} {vs : List Value} {ds : List Dat} {R₀ : Reg} {o : Obj} {n : Nat} (hl : R₀ l = some o) (hc : o.cls = .type "tuple") (hd : o.data = .seq vs.toArray n) (hr : RdAll R₀ vs ds) (hI : R₀ I = none) :
    Iter C (.ref I) [I] ds R₀ (fun i h => h.IsTupleIter I l i ∧ h.IsTuple l vs.toArray) where
  frame := fun i h h' st hk ho _ => ⟨let ⟨o, a, r⟩ := st.1; ⟨o, hk I (by simp) o a, r⟩, ⟨_, ho _ _ hl, hc, _, hd⟩⟩
  alive := fun i h st b hb => by
    obtain ⟨o, x, _⟩ := st.1
    rw [List.mem_singleton.mp hb]; exact ⟨o, x⟩
  next := fun A i s R d hh hi st hle ho hW => by
    obtain ⟨v, hv, hdv⟩ := hr.get hi
    have hne : l ≠ I := fun h => by rw [h, hI] at hl; (have q_ := oNS hl; clear hl; exact q_.elim)
    refine wpAny_pyNext_tuple_item st.1 st.2 (x := v) (by simpa using hv) fun h' hit' hs' => ?_
    refine ⟨v, rfl, ⟨hit', st.2.extBut hs'.extBut hne⟩, ⟨h', s.toks, rfl, fun b o hb e => hs'.extBut b o (fun h => hb (by simp [h])) e⟩, hdv.mono (hle.trans (Reg.ext_le ho))⟩
  done := fun A s hh st => by
    refine wpAny_pyNext_tuple_end hh st.1 st.2 (by simp [hr.length]) fun h' he' => ⟨rfl, h', s.toks, rfl, fun b o hb e => he' b o (fun h => hb (by simp [h])) e⟩
  self := fun A i s Q E st hQ => wpAny_pyIter_tupleiter st.1 hQ
  letgo := fun A i s t v Q E _ st hQ => by
    obtain ⟨o, ho, hc, _⟩ := st.1
    exact letgo_plain ho hc (by decide) (hQ s st (.rfl' _ _))
theorem itv_tup {v : Value} {ds : List Dat} (h : Rd R v (.tup ds)) (ro : R.on s.heap) : ItV C v R s ds := by
  intro A hh
  obtain ⟨l, rfl⟩ := h.tup_ref
  cases h with
  | tup hl hc hd hr =>
    rename_i o vs n
    have hL : s.heap.IsTuple l vs.toArray := ⟨o, ro _ _ hl, hc, n, hd⟩
    refine wpAny_pyIter_tuple hL ⟨Keeps.push s _, [s.heap.objs.size], _, iter_tuple (new_up ro _ _ hl) hc hd (hr.mono (new_up ro)) (Reg.minus_off (by simp)), ⟨⟨_, Heap.get?_push_size _ rfl, rfl, rfl⟩, hL.push _⟩, fun a ha => by rw [List.mem_singleton.mp ha]; exact fresh_none⟩
theorem evIt_tup {e : Expr} {ds : List Dat} (h : Ev C n sc Δ e (.tup ds)) : EvIt C n sc Δ e ds := evIt_of (P := fun v R => Rd R v (.tup ds)) h fun _ _ _ p ro => itv_tup p ro.on

theorem iter_mul {I l : Addr} {vs : List Value} {ds : List Dat} {R₀ : Reg} {n : Nat} (hl : C.mu l = some (lstObj vs n)) (hr : RdAll R₀ vs ds) (hI : I ≠ l) :
    Iter C (.ref I) [I] ds R₀ (fun i h => h.IsListIter I l i ∧ h.IsList l vs.toArray) where
  frame := fun i h h' st hk _ ho => ⟨st.1.at fun o e => hk I (by simp) o e, ⟨_, ho _ _ hl, rfl, _, rfl⟩⟩
  alive := fun i h st b hb => by
    obtain ⟨o, x, _⟩ := st.1
    rw [List.mem_singleton.mp hb]; exact ⟨o, x⟩
  next := fun A i s R d hh hi st hle ho hW => by
    obtain ⟨v, hv, hdv⟩ := hr.get hi
    refine wpAny_pyNext_list_item st.1 st.2 (x := v) (by simpa using hv) fun h' hit' hs' => ?_
    refine ⟨v, rfl, ⟨hit', st.2.extBut hs'.extBut (Ne.symm hI)⟩, ⟨h', s.toks, rfl, fun b o hb e => hs'.extBut b o (fun h => hb (by simp [h])) e⟩, hdv.mono (hle.trans (Reg.ext_le ho))⟩
  done := fun A s hh st => by
    refine wpAny_pyNext_list_end hh st.1 st.2 (by simp [hr.length]) fun h' he' => ⟨rfl, h', s.toks, rfl, fun b o hb e => he' b o (fun h => hb (by simp [h])) e⟩
  self := fun A i s Q E st hQ => wpAny_pyIter_listiter st.1 hQ
  letgo := fun A i s t v Q E _ st hQ => by
    obtain ⟨o, ho, hc, _⟩ := st.1
    exact letgo_plain ho hc (by decide) (hQ s st (.rfl' _ _))
theorem evIt_mul {e : Expr} {ds : List Dat} {l : Addr} {vs : List Value} {m : Nat} (h : Ev C n sc Δ e (.val (.ref l))) (hl : C.mu l = some (lstObj vs m)) (hr : RdAll noM vs ds) : EvIt C n sc Δ e ds := by
  refine evIt_of (P := fun v R => Rd R v (.val (.ref l))) h fun v R s p ro => ?_
  (have q_ := Rd.valE p; clear p; subst q_)
  intro A hh
  have hL : s.heap.IsList l vs.toArray := ⟨_, ro.mu _ _ hl, rfl, m, rfl⟩
  refine wpAny_pyIter_list hL ⟨Keeps.push s _, [s.heap.objs.size], _, iter_mul hl (hr.mono (show noM.le _ from fun a o (e : noM a = some o) => nomatch e)) (fun h => by have := ro.mu _ _ hl; rw [← h, fresh_none] at this; (have q_ := oNS this; clear this; exact q_.elim)), ⟨⟨_, Heap.get?_push_size _ rfl, rfl, rfl⟩, hL.push _⟩, fun a ha => by rw [List.mem_singleton.mp ha]; exact fresh_none⟩
theorem evIt_dict {e : Expr} (h : Ev C n sc Δ e (.val (.ref D))) (hD : C.mu D = some od) (hk : od.IsDictOf (iK C) kvs) (hds : (D == sysModules) = false) : EvIt C n sc Δ e (kvs.map fun kv => Dat.int kv.1) := by
  refine evIt_of (P := fun v R => Rd R v (.val (.ref D))) h fun v R s p ro => ?_
  (have q_ := Rd.valE p; clear p; subst q_)
  intro A hh
  obtain ⟨es, ep, hk⟩ := hk
  have dm : s.heap.DictAt (iK C) D kvs ep := ⟨od, es, ro.mu _ _ hD, hk⟩
  have hI : C.mu s.heap.objs.size = none := by
    cases e : C.mu s.heap.objs.size with
    | none => rfl
    | some o => have := ro.mu _ _ e; rw [fresh_none] at this; (have q_ := oNS this; clear this; exact q_.elim)
  refine wpAny_pyIter_dict hds dm ⟨Keeps.push s _, [s.heap.objs.size], _, iter_dict hD hk hI, ⟨⟨_, Heap.get?_push_size _ rfl, rfl, rfl⟩, Heap.get?_push_of_some _ (ro.mu _ _ hD)⟩, fun a ha => by rw [List.mem_singleton.mp ha]; exact fresh_none⟩

theorem iter_values {I : Addr} {ep : Nat} {R₀ : Reg} {es : Array DictEntry} (hD : C.mu D = some od) (hk : od.ExactDict ∧ od.data = .dict es ep ∧ KeysOf (iK C) es ∧ Pairs (iK C) es.toList kvs ∧ (kvs.map (·.1)).Nodup) (hI : C.mu I = none) :
    Iter C (.ref I) [I] (kvs.map fun kv => Dat.val kv.2) R₀ (fun i h => h.IsValIter I D i kvs.length ep ∧ h.get? D = some od) where
  frame := fun i h h' st hk' _ hm => ⟨let ⟨o, ho, r⟩ := st.1; ⟨o, hk' I (by simp) o ho, r⟩, hm _ _ hD⟩
  alive := fun i h st b hb => by
    obtain ⟨o, x, _⟩ := st.1
    rw [List.mem_singleton.mp hb]; exact ⟨o, x⟩
  next := fun A i s R d hh hi st hle ho hW => by
    have hne : D ≠ I := fun h => by rw [h, hI] at hD; (have q_ := oNS hD; clear hD; exact q_.elim)
    rw [List.getElem?_map] at hi
    obtain ⟨⟨k, v⟩, hkv, rfl⟩ := Option.map_eq_some_iff.mp hi
    refine wpAny_pyNext_values_item (knd := iK C) st.1 ⟨od, es, st.2, hk⟩ hkv fun h' hit' hs' => ?_
    exact ⟨v, rfl, ⟨hit', hs'.extBut _ _ hne st.2⟩, ⟨h', s.toks, rfl, fun b o hb e => hs'.extBut b o (fun h => hb (by simp [h])) e⟩, .val v⟩
  done := fun A s hh st => by
    refine wpAny_pyNext_values_end (knd := iK C) hh st.1 ⟨od, es, st.2, hk⟩ (by simp) fun h' he' => ⟨rfl, h', s.toks, rfl, fun b o hb e => he' b o (fun h => hb (by simp [h])) e⟩
  self := fun A i s Q E st hQ => wpAny_pyIter_valiter st.1 hQ
  letgo := fun A i s t v Q E _ st hQ => by
    obtain ⟨o, ho, hc, _⟩ := st.1
    exact letgo_plain ho hc (by decide) (hQ s st (.rfl' _ _))
theorem evIt_values {o : Expr} {ap p : Pos} (ho : Ev C n sc Δ o (.val (.ref D))) (hD : C.mu D = some od) (hk : od.IsDictOf (iK C) kvs) (hds : (D == sysModules) = false)
    (hline : (ap.endLine == p.line) = true := by rfl) (hbase : ∀ env, attributeBase o (Str.ofString "values") env (eval o env) = eval o env := by intro _; rfl) :
    EvIt C n sc Δ (.Call (.Attribute o (Str.ofString "values") ap) [] [] p) (kvs.map fun kv => Dat.val kv.2) := by
  refine evIt_of (P := fun v R => ∃ a, v = .ref a ∧ R a = some { cls := .type "dict_values", data := .fields #[.ref D] }) (fun A env s R rm ro eo => ?_) fun v R s p ro => ?_
  · refine wpAny_Call_method0_late (hbase env) hline (noE (ho A env s R rm ro eo) fun ov s₁ p₁ => ?_)
    have h1 := p₁.2
    (have q_ := Rd.valE h1; clear h1; subst q_)
    have k₁ := Keeps.hle p₁.1
    have r₁ := ro.ext k₁
    have dm := dictAt_of (C := C) (r₁.mu _ _ hD) hk
    refine ⟨"dict", "dict.values", F.plainAttrs_dict, F.slot_dict_values, F.type_dict_values, dm.typeIs, dm.mapOf.noDict, ?_⟩
    refine method_meetsIn F.slot_dict_values F.entry_dict_values rfl (PyProof.Rows.evalArgs_none ⟨rfl, dm.typeIs, F.args_dict_values_1 _, _, meets_dict_values (iK C) D hds, ⟨_, dm⟩, ?_⟩)
    have kp := Keeps.push s₁ { cls := .type "dict_values", data := .fields #[.ref D] }
    refine ⟨Keeps.tr p₁.1 kp, _, rfl, ?_⟩
    refine Reg.new_ext ?_ (Heap.get?_push_size _ rfl)
    cases e : s.heap.get? s₁.heap.objs.size with
    | none => rfl
    | some o' => have := k₁ _ _ e; rw [fresh_none] at this; (have q_ := oNS this; clear this; exact q_.elim)
  · obtain ⟨a, rfl, ha⟩ := p
    intro A hh
    obtain ⟨es, ep, hk⟩ := hk
    have dm : s.heap.DictAt (iK C) D kvs ep := ⟨od, es, ro.mu _ _ hD, hk⟩
    have hI : C.mu s.heap.objs.size = none := by
      cases e : C.mu s.heap.objs.size with
      | none => rfl
      | some o => have := ro.mu _ _ e; rw [fresh_none] at this; (have q_ := oNS this; clear this; exact q_.elim)
    refine wpAny_pyIter_values (knd := iK C) ⟨_, ro.on _ _ ha, rfl, rfl⟩ dm ⟨Keeps.push s _, [s.heap.objs.size], _, iter_values hD hk hI, ⟨⟨_, Heap.get?_push_size _ rfl, rfl, rfl⟩, Heap.get?_push_of_some _ (ro.mu _ _ hD)⟩, fun a ha => by rw [List.mem_singleton.mp ha]; exact fresh_none⟩
end
end Mine
end
noncomputable section
open PySem PySem.W PyProof.Rows PySem.SeqAt PySem.MeetsSeq
set_option Elab.async false
set_option autoImplicit false
set_option maxRecDepth 100000
namespace Mine

inductive Role where
  | no | s | d | D | q
  | inf (k : Nat) | emp (k : Nat) | suc (k : Nat)
deriving DecidableEq
structure Srt where
  s : Addr
  d : Addr
  D : Addr
  q : Addr
  inf : Nat → Addr
  emp : Nat → Addr
  suc : Nat → Addr
  role : Addr → Role
structure Sd where
  ks : List Nat
  np : Nat → Int
  su : Nat → List Nat
  rd : Option (List Nat)
  po : Int
  nf : Int
noncomputable abbrev encN (l : List Nat) : List Dat := l.map fun (k : Nat) => Dat.int (k : Int)
noncomputable def rdV (Z : Srt) : Option (List Nat) → Value
  | none => .none
  | some _ => .ref Z.q
noncomputable abbrev nodeObj (cN emp : Addr) (k : Nat) (t : Tok) (np : Int) (u : Tok) (suc : Addr) : Obj := insObj cN emp #[some (.int (k : Int) t), some (.int np u), some (.ref suc)]
noncomputable abbrev nodePairs (ks : List Nat) (inf : Nat → Addr) : List (Int × Value) := ks.map fun (k : Nat) => ((k : Int), Value.ref (inf k))
noncomputable def sEnts (Z : Srt) (rd : Value) (po nf : Int) (h : Nat → Int) (t : Nat → Tok) : List DictEntry :=
  [⟨h 0, .str (Str.ofString "_node2info") (t 0), .ref Z.D⟩, ⟨h 1, .str (Str.ofString "_ready_nodes") (t 1), rd⟩, ⟨h 2, .str (Str.ofString "_npassedout") (t 2), .int po (t 4)⟩, ⟨h 3, .str (Str.ofString "_nfinished") (t 3), .int nf (t 5)⟩]

structure SAt (C : Cx) (cT cN : Addr) (M : Reg) (Z : Srt) (σ : Sd) : Prop where
  s : M Z.s = some (insObj cT Z.d #[])
  d : ∃ h t n, M Z.d = some (dictOf (sEnts Z (rdV Z σ.rd) σ.po σ.nf h t) n)
  D : ∃ o, M Z.D = some o ∧ o.IsDictOf (iK C) (nodePairs σ.ks Z.inf)
  inf : ∀ k ∈ σ.ks, ∃ t u, M (Z.inf k) = some (nodeObj cN (Z.emp k) k t (σ.np k) u (Z.suc k))
  emp : ∀ k ∈ σ.ks, M (Z.emp k) = some emptyDict
  suc : ∀ k ∈ σ.ks, ∃ vs n, M (Z.suc k) = some (lstObj vs n) ∧ RdAll noM vs (encN (σ.su k))
  q : ∀ l, σ.rd = some l → ∃ vs n, M Z.q = some (lstObj vs n) ∧ RdAll noM vs (encN l)
  rs : Z.role Z.s = .s
  rd : Z.role Z.d = .d
  rD : Z.role Z.D = .D
  rq : σ.rd ≠ none → Z.role Z.q = .q
  rinf : ∀ k ∈ σ.ks, Z.role (Z.inf k) = .inf k
  remp : ∀ k ∈ σ.ks, Z.role (Z.emp k) = .emp k
  rsuc : ∀ k ∈ σ.ks, Z.role (Z.suc k) = .suc k
  nod : σ.ks.Nodup
  sm : (Z.D == sysModules) = false
  len : σ.ks.length ≤ 7

noncomputable def Srt.all (Z : Srt) (σ : Sd) : List Addr := Z.s :: Z.d :: Z.D :: ((if σ.rd.isSome then [Z.q] else []) ++ σ.ks.flatMap fun k => [Z.inf k, Z.emp k, Z.suc k])
theorem Srt.mem_all {Z : Srt} {σ : Sd} {a : Addr} : a ∈ Z.all σ ↔ a = Z.s ∨ a = Z.d ∨ a = Z.D ∨ (σ.rd ≠ none ∧ a = Z.q) ∨ ∃ k ∈ σ.ks, a = Z.inf k ∨ a = Z.emp k ∨ a = Z.suc k := by
  simp only [Srt.all, List.mem_cons, List.mem_append, List.mem_flatMap, List.not_mem_nil, or_false]
  cases h : σ.rd <;> simp

section
variable {C : Cx} {cT cN : Addr} {M M' : Reg} {Z : Srt} {σ : Sd}
theorem SAt.obj (S : SAt C cT cN M Z σ) {a : Addr} (ha : a ∈ Z.all σ) : ∃ o, M a = some o ∧ ∀ v, o.data ≠ .cell v := by
  rcases Srt.mem_all.mp ha with rfl | rfl | rfl | ⟨h, rfl⟩ | ⟨k, hk, rfl | rfl | rfl⟩
  · exact ⟨_, S.s, fun v e => nomatch e⟩
  · obtain ⟨h, t, n, e⟩ := S.d; exact ⟨_, e, fun v e => nomatch e⟩
  · obtain ⟨o, e, es, ep, hx, hd, _⟩ := S.D
    refine ⟨o, e, fun v q => ?_⟩
    rw [hd] at q; cases q
  · cases e : σ.rd with
    | none => exact absurd e h
    | some l => obtain ⟨vs, n, z, _⟩ := S.q l e; exact ⟨_, z, fun v e => nomatch e⟩
  · obtain ⟨t, u, e⟩ := S.inf k hk; exact ⟨_, e, fun v e => nomatch e⟩
  · exact ⟨_, S.emp k hk, fun v e => nomatch e⟩
  · obtain ⟨vs, n, e, _⟩ := S.suc k hk; exact ⟨_, e, fun v e => nomatch e⟩
theorem SAt.on (S : SAt C cT cN M Z σ) (h : ∀ a o, a ∈ Z.all σ → M a = some o → M' a = some o) : SAt C cT cN M' Z σ :=
  { S with
    s := h _ _ (Srt.mem_all.mpr (.inl rfl)) S.s
    d := let ⟨x, t, n, e⟩ := S.d; ⟨x, t, n, h _ _ (Srt.mem_all.mpr (.inr (.inl rfl))) e⟩
    D := let ⟨o, e, r⟩ := S.D; ⟨o, h _ _ (Srt.mem_all.mpr (.inr (.inr (.inl rfl)))) e, r⟩
    inf := fun k hk => let ⟨t, u, e⟩ := S.inf k hk; ⟨t, u, h _ _ (Srt.mem_all.mpr (.inr (.inr (.inr (.inr ⟨k, hk, .inl rfl⟩))))) e⟩
    emp := fun k hk => h _ _ (Srt.mem_all.mpr (.inr (.inr (.inr (.inr ⟨k, hk, .inr (.inl rfl)⟩))))) (S.emp k hk)
    suc := fun k hk => let ⟨vs, n, e, r⟩ := S.suc k hk; ⟨vs, n, h _ _ (Srt.mem_all.mpr (.inr (.inr (.inr (.inr ⟨k, hk, .inr (.inr rfl)⟩))))) e, r⟩
    q := fun l hl => let ⟨vs, n, e, r⟩ := S.q l hl; ⟨vs, n, h _ _ (Srt.mem_all.mpr (.inr (.inr (.inr (.inl ⟨by rw [hl]; simp, rfl⟩))))) e, r⟩ }
theorem role_ne {Z : Srt} {a b : Addr} {x y : Role} (ha : Z.role a = x) (hb : Z.role b = y) (h : x ≠ y) : a ≠ b := fun e => h (by rw [← ha, ← hb, e])

theorem SAt.setd (S : SAt C cT cN M Z σ) {rd : Option (List Nat)} {po nf : Int} {h : Nat → Int} {t : Nat → Tok} {n : Nat} (hrd : rd = σ.rd) :
    SAt C cT cN (M.set Z.d (dictOf (sEnts Z (rdV Z rd) po nf h t) n)) Z { σ with po := po, nf := nf } := by
  subst hrd
  have ne : ∀ {a x}, Z.role a = x → x ≠ .d → a ≠ Z.d := fun ha hx => role_ne ha S.rd hx
  exact { S with
    s := by rw [Reg.set_ne _ _ (ne S.rs (by simp))]; exact S.s
    d := ⟨h, t, n, Reg.set_self _ _ _⟩
    D := let ⟨o, e, r⟩ := S.D; ⟨o, by rw [Reg.set_ne _ _ (ne S.rD (by simp))]; exact e, r⟩
    inf := fun k hk => let ⟨t, u, e⟩ := S.inf k hk; ⟨t, u, by rw [Reg.set_ne _ _ (ne (S.rinf k hk) (by simp))]; exact e⟩
    emp := fun k hk => by rw [Reg.set_ne _ _ (ne (S.remp k hk) (by simp))]; exact S.emp k hk
    suc := fun k hk => let ⟨vs, n, e, r⟩ := S.suc k hk; ⟨vs, n, by rw [Reg.set_ne _ _ (ne (S.rsuc k hk) (by simp))]; exact e, r⟩
    q := fun l hl => let ⟨vs, n, e, r⟩ := S.q l hl; ⟨vs, n, by rw [Reg.set_ne _ _ (ne (S.rq (by rw [hl]; simp)) (by simp))]; exact e, r⟩ }
theorem SAt.setnp (S : SAt C cT cN M Z σ) {k : Nat} (hk : k ∈ σ.ks) {t u : Tok} {x : Int} :
    SAt C cT cN (M.set (Z.inf k) (nodeObj cN (Z.emp k) k t x u (Z.suc k))) Z { σ with np := fun j => if j = k then x else σ.np j } := by
  have ne : ∀ {a y}, Z.role a = y → y ≠ .inf k → a ≠ Z.inf k := fun ha hx => role_ne ha (S.rinf k hk) hx
  exact { S with
    s := by rw [Reg.set_ne _ _ (ne S.rs (by simp))]; exact S.s
    d := let ⟨h, t, n, e⟩ := S.d; ⟨h, t, n, by rw [Reg.set_ne _ _ (ne S.rd (by simp))]; exact e⟩
    D := let ⟨o, e, r⟩ := S.D; ⟨o, by rw [Reg.set_ne _ _ (ne S.rD (by simp))]; exact e, r⟩
    inf := fun j hj => by
      by_cases h : j = k
      · subst h; exact ⟨t, u, by rw [Reg.set_self]; simp⟩
      · obtain ⟨t, u, e⟩ := S.inf j hj
        exact ⟨t, u, by rw [Reg.set_ne _ _ (ne (S.rinf j hj) (by simpa using h))]; simpa [h] using e⟩
    emp := fun j hj => by rw [Reg.set_ne _ _ (ne (S.remp j hj) (by simp))]; exact S.emp j hj
    suc := fun j hj => let ⟨vs, n, e, r⟩ := S.suc j hj; ⟨vs, n, by rw [Reg.set_ne _ _ (ne (S.rsuc j hj) (by simp))]; exact e, r⟩
    q := fun l hl => let ⟨vs, n, e, r⟩ := S.q l hl; ⟨vs, n, by rw [Reg.set_ne _ _ (ne (S.rq (by rw [hl]; simp)) (by simp))]; exact e, r⟩ }
theorem SAt.setsu (S : SAt C cT cN M Z σ) {k : Nat} (hk : k ∈ σ.ks) {vs : List Value} {n : Nat} {l : List Nat} (hr : RdAll noM vs (encN l)) :
    SAt C cT cN (M.set (Z.suc k) (lstObj vs n)) Z { σ with su := fun j => if j = k then l else σ.su j } := by
  have ne : ∀ {a y}, Z.role a = y → y ≠ .suc k → a ≠ Z.suc k := fun ha hx => role_ne ha (S.rsuc k hk) hx
  exact { S with
    s := by rw [Reg.set_ne _ _ (ne S.rs (by simp))]; exact S.s
    d := let ⟨h, t, n, e⟩ := S.d; ⟨h, t, n, by rw [Reg.set_ne _ _ (ne S.rd (by simp))]; exact e⟩
    D := let ⟨o, e, r⟩ := S.D; ⟨o, by rw [Reg.set_ne _ _ (ne S.rD (by simp))]; exact e, r⟩
    inf := fun j hj => let ⟨t, u, e⟩ := S.inf j hj; ⟨t, u, by rw [Reg.set_ne _ _ (ne (S.rinf j hj) (by simp))]; exact e⟩
    emp := fun j hj => by rw [Reg.set_ne _ _ (ne (S.remp j hj) (by simp))]; exact S.emp j hj
    suc := fun j hj => by
      by_cases h : j = k
      · subst h; exact ⟨vs, n, Reg.set_self _ _ _, by simpa using hr⟩
      · obtain ⟨vs, n, e, r⟩ := S.suc j hj
        exact ⟨vs, n, by rw [Reg.set_ne _ _ (ne (S.rsuc j hj) (by simpa using h))]; exact e, by simpa [h] using r⟩
    q := fun l hl => let ⟨vs, n, e, r⟩ := S.q l hl; ⟨vs, n, by rw [Reg.set_ne _ _ (ne (S.rq (by rw [hl]; simp)) (by simp))]; exact e, r⟩ }
theorem SAt.setrd (S : SAt C cT cN M Z σ) (hrd : σ.rd ≠ none) {vs : List Value} {n : Nat} {l : List Nat} (hr : RdAll noM vs (encN l)) :
    SAt C cT cN (M.set Z.q (lstObj vs n)) Z { σ with rd := some l } := by
  have ne : ∀ {a y}, Z.role a = y → y ≠ .q → a ≠ Z.q := fun ha hx => role_ne ha (S.rq hrd) hx
  have hv : rdV Z σ.rd = rdV Z (some l) := by cases h : σ.rd with | none => exact absurd h hrd | some _ => rfl
  exact { S with
    s := by rw [Reg.set_ne _ _ (ne S.rs (by simp))]; exact S.s
    d := let ⟨h, t, n, e⟩ := S.d; ⟨h, t, n, by rw [Reg.set_ne _ _ (ne S.rd (by simp)), ← hv]; exact e⟩
    D := let ⟨o, e, r⟩ := S.D; ⟨o, by rw [Reg.set_ne _ _ (ne S.rD (by simp))]; exact e, r⟩
    inf := fun j hj => let ⟨t, u, e⟩ := S.inf j hj; ⟨t, u, by rw [Reg.set_ne _ _ (ne (S.rinf j hj) (by simp))]; exact e⟩
    emp := fun j hj => by rw [Reg.set_ne _ _ (ne (S.remp j hj) (by simp))]; exact S.emp j hj
    suc := fun j hj => let ⟨vs, n, e, r⟩ := S.suc j hj; ⟨vs, n, by rw [Reg.set_ne _ _ (ne (S.rsuc j hj) (by simp))]; exact e, r⟩
    q := fun l' hl => by (have q_ := oSS hl; clear hl; subst q_); exact ⟨vs, n, Reg.set_self _ _ _, hr⟩
    rq := fun _ => S.rq hrd }
theorem SAt.node (S : SAt C cT cN M Z σ) {k : Nat} (hk : k ∈ σ.ks) : valueAt (nodePairs σ.ks Z.inf) (k : Int) = some (.ref (Z.inf k)) := by
  have : ∀ l : List Nat, k ∈ l → valueAt (nodePairs l Z.inf) (k : Int) = some (.ref (Z.inf k)) := fun l => by
    induction l with
    | nil => intro h; cases h
    | cons j l ih =>
      intro h
      simp only [valueAt, nodePairs, List.map_cons, List.find?_cons]
      by_cases e : j = k
      · subst e; simp
      · have h' : k ∈ l := by rcases List.mem_cons.mp h with q | q; exact absurd q.symm e; exact q
        have e' : decide ((j : Int) = (k : Int)) = false := by simp; omega
        rw [e']
        exact ih h'
  exact this _ hk
theorem SAt.nonode (σ : Sd) (Z : Srt) {k : Nat} (hk : k ∉ σ.ks) : valueAt (nodePairs σ.ks Z.inf) (k : Int) = none := by
  simp only [valueAt, nodePairs, Option.map_eq_none_iff, List.find?_eq_none, List.mem_map]
  rintro x ⟨j, hj, rfl⟩
  simp only [decide_eq_true_eq]
  intro h
  have : j = k := by omega
  exact hk (this ▸ hj)
end
end Mine
end
noncomputable section
open PySem PySem.W PyProof.Rows PySem.SeqAt PySem.MeetsSeq
set_option Elab.async false
set_option autoImplicit false
set_option maxRecDepth 100000
namespace Mine
noncomputable abbrev aT : Addr := 137
noncomputable abbrev aTi : Addr := 73
noncomputable abbrev aGet : Addr := 80
noncomputable abbrev aAdd : Addr := 87
noncomputable abbrev aPrep : Addr := 92
noncomputable abbrev aReady : Addr := 99
noncomputable abbrev aAct : Addr := 106
noncomputable abbrev aDone : Addr := 120
noncomputable abbrev aCyc : Addr := 127
noncomputable abbrev aN : Addr := 40
noncomputable abbrev aNi : Addr := 36
section
variable (C : Cx)
theorem k_n2i : OwnA (K3 C) aT (Str.ofString "_node2info") := ⟨by kernel_rfl!, by kernel_rfl!, by kernel_rfl!, by kernel_rfl!, by kernel_rfl!, by kernel_rfl!⟩
theorem k_rdy : OwnA (K3 C) aT (Str.ofString "_ready_nodes") := ⟨by kernel_rfl!, by kernel_rfl!, by kernel_rfl!, by kernel_rfl!, by kernel_rfl!, by kernel_rfl!⟩
theorem k_po : OwnA (K3 C) aT (Str.ofString "_npassedout") := ⟨by kernel_rfl!, by kernel_rfl!, by kernel_rfl!, by kernel_rfl!, by kernel_rfl!, by kernel_rfl!⟩
theorem k_nf : OwnA (K3 C) aT (Str.ofString "_nfinished") := ⟨by kernel_rfl!, by kernel_rfl!, by kernel_rfl!, by kernel_rfl!, by kernel_rfl!, by kernel_rfl!⟩
theorem k_node : SlotA (K3 C) aN (Str.ofString "node") 41 0 := ⟨by kernel_rfl!, by kernel_rfl!, by kernel_rfl!, by kernel_rfl!, by kernel_rfl!, by kernel_rfl!, by kernel_rfl!, by kernel_rfl!, by kernel_rfl!, by kernel_rfl!, by decide⟩
theorem k_np : SlotA (K3 C) aN (Str.ofString "npredecessors") 42 1 := ⟨by kernel_rfl!, by kernel_rfl!, by kernel_rfl!, by kernel_rfl!, by kernel_rfl!, by kernel_rfl!, by kernel_rfl!, by kernel_rfl!, by kernel_rfl!, by kernel_rfl!, by decide⟩
theorem k_suc : SlotA (K3 C) aN (Str.ofString "successors") 43 2 := ⟨by kernel_rfl!, by kernel_rfl!, by kernel_rfl!, by kernel_rfl!, by kernel_rfl!, by kernel_rfl!, by kernel_rfl!, by kernel_rfl!, by kernel_rfl!, by kernel_rfl!, by decide⟩
theorem k_get : MethA (K3 C) aT (Str.ofString "_get_nodeinfo") aGet := ⟨by kernel_rfl!, by kernel_rfl!, by kernel_rfl!, by kernel_rfl!⟩
theorem k_add : MethA (K3 C) aT (Str.ofString "add") aAdd := ⟨by kernel_rfl!, by kernel_rfl!, by kernel_rfl!, by kernel_rfl!⟩
theorem k_prep : MethA (K3 C) aT (Str.ofString "prepare") aPrep := ⟨by kernel_rfl!, by kernel_rfl!, by kernel_rfl!, by kernel_rfl!⟩
theorem k_ready : MethA (K3 C) aT (Str.ofString "get_ready") aReady := ⟨by kernel_rfl!, by kernel_rfl!, by kernel_rfl!, by kernel_rfl!⟩
theorem k_done : MethA (K3 C) aT (Str.ofString "done") aDone := ⟨by kernel_rfl!, by kernel_rfl!, by kernel_rfl!, by kernel_rfl!⟩
theorem k_cyc : MethA (K3 C) aT (Str.ofString "_find_cycle") aCyc := ⟨by kernel_rfl!, by kernel_rfl!, by kernel_rfl!, by kernel_rfl!⟩
end
section
variable {C : Cx} (B : Base C (K3 C))
include B
theorem g_sorter : GlobIs C (Str.ofString "TopologicalSorter") (.ref aT) := glob_own B (by kernel_rfl!)
theorem g_nodeinfo : GlobIs C (Str.ofString "_NodeInfo") (.ref aN) := glob_own B (by kernel_rfl!)
theorem g_tuple : GlobIs C (Str.ofString "tuple") (.type "tuple") := glob_bui B (by kernel_rfl!) (by decide +kernel) (by decide +kernel)
theorem g_setT : GlobIs C (Str.ofString "set") (.type "set") := glob_bui B (by kernel_rfl!) (by decide +kernel) (by decide +kernel)
theorem g_iter : GlobIs C (Str.ofString "iter") (.builtin "iter") := glob_bui B (by kernel_rfl!) (by decide +kernel) (by decide +kernel)
theorem g_out : ∃ t, GlobIs C (Str.ofString "_NODE_OUT") (.int (-1) t) := ⟨_, glob_own B rfl⟩
theorem g_ndone : ∃ t, GlobIs C (Str.ofString "_NODE_DONE") (.int (-2) t) := ⟨_, glob_own B rfl⟩
end
end Mine
end
noncomputable section
open PySem PySem.W PyProof.Rows PySem.SeqAt PySem.MeetsSeq
set_option Elab.async false
set_option autoImplicit false
set_option maxRecDepth 100000
namespace Mine

structure FnC (C : Cx) (a : Addr) (fd : FuncData) (xs : List Str) (body : List Stmt) : Prop where
  at' : ∃ o, C.h₀.get? a = some o ∧ o.data = .func fd
  code : C.h₀.CodeRec fd.code fd.qualname
  nolimit : C.h₀.NoLimit
  co : fd.scope.isCoroutine = false
  gen : fd.scope.isGenerator = false
  body' : fd.body = .stmts body
  glob : fd.globals = mainGlobals
  bui : fd.builtins = builtinsNs
  clo : fd.closure = []
  kind : fd.scope.kind = .function
  uniq : (fd.scope.names.map (·.1)).Nodup
  par : ∀ x ∈ xs, fd.scope.names.lookup x = some .local ∨ fd.scope.names.lookup x = some .cell
theorem fnC {C : Cx} {K : Frag} {a : Addr} {oc : Value} {od : Option Addr} {osl : Array (Option Value)} {fd : FuncData} {xs : List Str} {body : List Stmt} (B : Base C K) (h1 : K.lookup a = some ⟨oc, od, .func fd, osl⟩) (h2 : codeIn K fd.code fd.qualname = true) (h3 : fd.body = .stmts body)
    (h4 : (!fd.scope.isCoroutine && !fd.scope.isGenerator && fd.globals == mainGlobals && fd.builtins == builtinsNs && fd.closure.isEmpty && fd.scope.kind == .function && decide (fd.scope.names.map (·.1)).Nodup && xs.all (fun x => fd.scope.names.lookup x == some .local || fd.scope.names.lookup x == some .cell)) = true) : FnC C a fd xs body := by
  simp only [Bool.and_eq_true, Bool.not_eq_true', beq_iff_eq, decide_eq_true_eq, List.all_eq_true, Bool.or_eq_true, List.isEmpty_iff] at h4
  obtain ⟨⟨⟨⟨⟨⟨⟨g1, g2⟩, g3⟩, g4⟩, g5⟩, g6⟩, g7⟩, g8⟩ := h4
  exact ⟨⟨_, B.K a _ h1, rfl⟩, codeRec_of B.K h2, B.nolimit, g1, g2, h3, g3, g4, g5, g6, g7, g8⟩

noncomputable def Bnd (C : Cx) (fd : FuncData) (vs : List Value) (xs : List Str) (ds : List Dat) (R : Reg) (s : Shared) : Prop :=
  ∀ A, wpAny C.M A (bindArgs fd ⟨vs, []⟩) (fun b s₁ => Keeps s s₁ ∧ ∃ us, b = xs.zip us ∧ RdAll (R.ext s.heap s₁.heap) us ds) NoE s

section
variable {C : Cx} {s₀ : Shared} {R₀ : Reg} {V : List Addr} {sc : Scope} {env : Env} {W : List Addr} {s s' : Shared} {R R' Mu Mu' : Reg} {Δ Δ' : Vars} {n : Nat} {A : Around} {E : Value → Shared → Prop} {Q : Flow → Shared → Prop}
theorem bnd_plain {fd : FuncData} {vs : List Value} {xs : List Str} {ds : List Dat} (ro : R.on s.heap) (h : bindArgs fd ⟨vs, []⟩ = pure (xs.zip vs)) (hr : RdAll R vs ds) : Bnd C fd vs xs ds R s := fun A => by
  rw [h]; exact wpAny_pure ⟨Keeps.rfl' s, vs, rfl, hr.mono (Reg.ext_le ro)⟩
theorem bnd_all1 {fd : FuncData} {vs : List Value} {xs : List Str} {d₁ : Dat} {es : List Dat} (hr : RdAll R vs [d₁]) (h : ∀ v₁, RdAll R [v₁] [d₁] → Bnd C fd [v₁] xs es R s) : Bnd C fd vs xs es R s := by
  cases hr with
  | cons a r => (have q_ := RdAll.nilE r; clear r; subst q_); exact h _ (.cons a .nil)
theorem bnd_all2 {fd : FuncData} {vs : List Value} {xs : List Str} {d₁ d₂ : Dat} {es : List Dat} (hr : RdAll R vs [d₁, d₂]) (h : ∀ v₁ v₂, RdAll R [v₁, v₂] [d₁, d₂] → Bnd C fd [v₁, v₂] xs es R s) : Bnd C fd vs xs es R s := by
  cases hr with
  | cons a r => cases r with | cons b r => (have q_ := RdAll.nilE r; clear r; subst q_); exact h _ _ (.cons a (.cons b .nil))
theorem bnd_all3 {fd : FuncData} {vs : List Value} {xs : List Str} {d₁ d₂ d₃ : Dat} {es : List Dat} (hr : RdAll R vs [d₁, d₂, d₃]) (h : ∀ v₁ v₂ v₃, RdAll R [v₁, v₂, v₃] [d₁, d₂, d₃] → Bnd C fd [v₁, v₂, v₃] xs es R s) : Bnd C fd vs xs es R s := by
  cases hr with
  | cons a r => cases r with | cons b r => cases r with | cons c r => (have q_ := RdAll.nilE r; clear r; subst q_); exact h _ _ _ (.cons a (.cons b (.cons c .nil)))
theorem bnd_star {fd : FuncData} {vs us : List Value} {xs : List Str} {ds es : List Dat} (ro : R.on s.heap) (h : bindArgs fd ⟨vs ++ us, []⟩ = newTuple us >>= fun t => pure (xs.zip (vs ++ [t]))) (hr : RdAll R vs ds) (hu : RdAll R us es) (hz : us.length ≤ sizeLine) : Bnd C fd (vs ++ us) xs (ds ++ [.tup es]) R s := fun A => by
  rw [h]
  refine wpAny_bind (wpAny_newTuple (wpAny_pure ?_) hz)
  have k := Keeps.push s { cls := .type "tuple", data := .seq us.toArray }
  refine ⟨k, _, rfl, (hr.mono (Reg.ext_le ro)).append (.cons (.tup (Reg.new_ext fresh_none (Heap.get?_push_size _ rfl)) rfl rfl (hu.mono (Reg.ext_le ro))) .nil)⟩
theorem bnd_dflt {fd : FuncData} {vs : List Value} {w : Value} {xs : List Str} {ds : List Dat} {d : Dat} {T : Addr} {o : Obj} {m : Nat} {k : Option (Array Value) → Sem (List (Str × Value))} (ro : R.on s.heap) (hd : fd.defaults = .ref T) (ho : s.heap.get? T = some o) (hs : o.data = .seq #[w] m)
    (h₁ : bindArgs fd ⟨vs, []⟩ = seqItems? fd.defaults >>= k) (h₂ : k (some #[w]) = pure (xs.zip (vs ++ [w]))) (hr : RdAll R vs ds) (hw : Rd R w d) : Bnd C fd vs xs (ds ++ [d]) R s := fun A => by
  rw [h₁, hd]
  refine wpAny_bind (wpAny_seqItems ho hs ?_)
  rw [h₂]
  exact wpAny_pure ⟨Keeps.rfl' s, _, rfl, (hr.mono (Reg.ext_le ro)).append (.cons (hw.mono (Reg.ext_le ro)) .nil)⟩

theorem Fra.back {s₁ : Shared} (F : Fra C s₁ (R₀.ext s₀.heap s₁.heap) [] sc env W s R Mu Δ) (k : Keeps s₀ s₁) (ro : R₀.on s₀.heap) : Fra C s₀ R₀ [] sc env W s R Mu Δ where
  keep := (KeepsBut.of k).tr F.keep
  vold := fun _ h => nomatch h
  vnew := fun _ h => nomatch h
  ro := F.ro
  le := (Reg.ext_le ro).trans F.le
  sub := fun a o e => by
    rcases F.sub a o e with h | h
    · simp only [Reg.ext] at h
      split at h
      · exact .inl h
      · rename_i q; exact .inr q
    · right
      cases q : s₀.heap.get? a with
      | none => rfl
      | some o' => rw [Keeps.hle k _ _ q] at h; (have q_ := oSN h; clear h; exact q_.elim)
  ew := F.ew
  fresh := fun a ha => by
    cases q : s₀.heap.get? a with
    | none => rfl
    | some o' => have := F.fresh a ha; rw [Keeps.hle k _ _ q] at this; (have q_ := oSN this; clear this; exact q_.elim)
  stor := F.stor
  mu := fun a o e => by
    obtain ⟨h1, h2, h3, h4⟩ := F.mu a o e
    refine ⟨h1, h2, h3, .inr ?_⟩
    rcases h4 with h4 | h4
    · cases h4
    · cases q : s₀.heap.get? a with
      | none => rfl
      | some o' => rw [Keeps.hle k _ _ q] at h4; (have q_ := oSN h4; clear h4; exact q_.elim)

theorem fn_callB {a : Addr} {fd : FuncData} {xs : List Str} {body : List Stmt} {vs : List Value} {ds : List Dat} {Rs : Result → Shared → Prop} (f : FnC C a fd xs body) (rm : Room (n + 1) A) (ro : Rok (C.at noM) R s.heap) (hb : Bnd C fd vs xs ds R s) (hl : xs.length = ds.length)
    (h : ∀ env W s' R', env.scope = fd.scope → Room n (A.deeper env) → Fra C s R [] fd.scope env W s' R' noM (updAll noV xs ds) → wpAny C.M (A.deeper env) (execs body env) (fun fl s₂ => Rs (.ok (.ret (match fl with | .ret v => v | _ => .none))) s₂)
      (fun e s' => wpAny C.M (A.deeper env) (leaving env e) (fun _ s'' => Rs (.error e) s'') (fun e' s'' => Rs (.error e') s'') s') s') :
    codeAny C.M A (.call (.ref a) ⟨vs, []⟩) Rs s := by
  obtain ⟨o, ho, hd⟩ := f.at'
  have k0 := ro.hle0
  refine codeAny_call_function rm.lt (k0 _ _ ho) hd f.co f.gen f.body' (f.code.keeps k0) ?_
  refine noE (hb _) fun b s₁ p => ?_
  obtain ⟨k, us, rfl, hr⟩ := p
  rw [f.glob, f.clo, f.bui]
  have r₁ := ro.ext (Keeps.hle k)
  refine fn_frame r₁ f.kind f.uniq CloOk.none hr hl f.par fun env W s' e1 e2 e3 e4 _ F => ⟨?_, ?_⟩
  · exact f.nolimit.keeps F.ro.hle0
  · exact codeAny_func (h env W s' _ e1 rm.deeper (F.back k ro.on))
end

structure SPost (C : Cx) (cT cN : Addr) (s : Shared) (R : Reg) (Z : Srt) (σ : Sd) (v : Value) (s' : Shared) (Z' : Srt) (σ' : Sd) (d : Dat) : Prop where
  self : Z'.s = Z.s
  keep : KeepsBut (Z.all σ) s s'
  at' : SAt C cT cN s'.heap.get? Z' σ'
  new : ∀ a ∈ Z'.all σ', a ∈ Z.all σ ∨ s.heap.get? a = none
  old : ∀ a ∈ Z.all σ, a ∈ Z'.all σ'
  val : Rd ((R.ext s.heap s'.heap).minus (Z'.all σ')) v d
noncomputable def SCall (C : Cx) (cT cN : Addr) (n : Nat) (f : Addr) (ds : List Dat) (Z : Srt) (σ : Sd) (P : Srt → Sd → Dat → Prop) : Prop :=
  ∀ A s R vs, Room n A → Rok (C.at noM) R s.heap → RdAll R vs ds → SAt C cT cN s.heap.get? Z σ → (∀ a ∈ Z.all σ, R a = none) →
    wpAny C.M A (call (.ref f) (.ref Z.s :: vs)) (fun v s' => ∃ Z' σ' d, P Z' σ' d ∧ SPost C cT cN s R Z σ v s' Z' σ' d) NoE s
section
variable {C : Cx} {cT cN : Addr} {s₀ : Shared} {R₀ : Reg} {V : List Addr} {sc : Scope} {env : Env} {W : List Addr} {s s' : Shared} {R R' Mu Mu' : Reg} {Δ Δ' : Vars} {n : Nat} {A : Around} {E : Value → Shared → Prop} {Q : Flow → Shared → Prop} {Z Z' : Srt} {σ σ' : Sd} {v : Value} {d : Dat}
theorem SCall.le {k : Nat} {f : Addr} {ds : List Dat} {P : Srt → Sd → Dat → Prop} (h : SCall C cT cN k f ds Z σ P) (hk : k ≤ n) : SCall C cT cN n f ds Z σ P := fun A s R vs r => h A s R vs (r.le hk)
theorem SPost.region (p : SPost C cT cN s R Z σ v s' Z' σ' d) (F : Fra C s₀ R₀ V sc env W s R Mu Δ) (S : SAt C cT cN Mu Z σ) : R.le ((R.ext s.heap s'.heap).minus (Z'.all σ')) := fun a o e => by
  refine Reg.minus_some (fun h => ?_) (Reg.ext_le F.ro.on a o e)
  rcases p.new a h with q | q
  · obtain ⟨o', e', _⟩ := S.obj q
    rw [(F.mu a o' e').2.1] at e; (have q_ := oNS e; clear e; exact q_.elim)
  · have := F.ro.on a o e; rw [q] at this; (have q_ := oNS this; clear this; exact q_.elim)
theorem SPost.fra (p : SPost C cT cN s R Z σ v s' Z' σ' d) (F : Fra C s₀ R₀ V sc env W s R Mu Δ) (S : SAt C cT cN Mu Z σ) :
    Fra C s₀ R₀ V sc env W s' ((R.ext s.heap s'.heap).minus (Z'.all σ')) (fun a => if a ∈ Z'.all σ' then s'.heap.get? a else Mu a) Δ ∧ SAt C cT cN (fun a => if a ∈ Z'.all σ' then s'.heap.get? a else Mu a) Z' σ' := by
  refine ⟨F.stepG p.keep (fun a ha => S.obj ha) (fun a ha => let ⟨o, e, _⟩ := p.at'.obj (p.old a ha); ⟨o, e⟩) (p.region F S) Reg.minus_le fun a o e => ?_, p.at'.on fun a o ha e => by simp only [ha, if_true]; exact e⟩
  by_cases ha : a ∈ Z'.all σ'
  · simp only [ha, if_true] at e
    refine ⟨e, Reg.minus_off ha, ?_⟩
    rcases p.new a ha with q | q
    · obtain ⟨o', e', _⟩ := S.obj q; exact .inl ⟨o', e'⟩
    · exact .inr q
  · simp only [ha, if_false] at e
    obtain ⟨h1, h2, h3, h4⟩ := F.mu a o e
    have hz : a ∉ Z.all σ := fun h => ha (p.old a h)
    refine ⟨p.keep.get hz h1, ?_, .inl ⟨o, e⟩⟩
    cases q : ((R.ext s.heap s'.heap).minus (Z'.all σ')) a with
    | none => rfl
    | some o' =>
      have := Reg.minus_le a o' q
      rw [ext_off h1 h2] at this; (have q_ := oNS this; clear this; exact q_.elim)
theorem SPost.off (_ : SPost C cT cN s R Z σ v s' Z' σ' d) {Z₀ : List Addr} (hs : ∀ a ∈ Z'.all σ', a ∈ Z₀ ∨ s.heap.get? a = none) (F : Fra C s₀ R₀ V sc env W s R Mu Δ) : Reg.keepsOff Z₀ Mu (fun a => if a ∈ Z'.all σ' then s'.heap.get? a else Mu a) := fun a o ha e => by
  have hn : a ∉ Z'.all σ' := fun h => by
    rcases hs a h with q | q
    · exact ha q
    · rw [(F.mu a o e).1] at q; (have q_ := oSN q; clear q; exact q_.elim)
  simp only [hn, if_false]; exact e

theorem scall_fn {a : Addr} {fd : FuncData} {xs : List Str} {body : List Stmt} {ds es : List Dat} {P : Srt → Sd → Dat → Prop} (f : FnC C a fd xs body) (hl : xs.length = es.length)
    (hb : ∀ R s vs, R.on s.heap → Rok (C.at noM) R s.heap → RdAll R vs ds → Bnd C fd (.ref Z.s :: vs) xs es R s)
    (h : ∀ A env W s₀ s R R₁ Mu, env.scope = fd.scope → Room n A → Fra C s₀ R (Z.all σ) fd.scope env W s R₁ Mu (updAll noV xs es) → SAt C cT cN Mu Z σ →
      wpAny C.M A (execs body env) (fun fl s₂ => ∃ R₂ Mu₂ Δ₂ Z' σ' d, Fra C s₀ R (Z.all σ) fd.scope env W s₂ R₂ Mu₂ Δ₂ ∧ SAt C cT cN Mu₂ Z' σ' ∧ P Z' σ' d ∧ Z'.s = Z.s ∧ (∀ a ∈ Z'.all σ', a ∈ Z.all σ ∨ s₀.heap.get? a = none) ∧ (∀ a ∈ Z.all σ, a ∈ Z'.all σ') ∧ Rd R₂ (match (motive := Flow → Value) fl with | .ret v => v | _ => .none) d) NoE s) :
    SCall C cT cN (n + 1) a ds Z σ P := by
  intro A s R vs rm ro hr S hR
  refine wpAny_call (fn_callB f rm ro (hb R s vs ro.on ro hr) hl fun env W s' R' e rm' F => ?_)
  have F' : Fra C s R (Z.all σ) fd.scope env W s' R' (fun a => if a ∈ Z.all σ then s.heap.get? a else none) (updAll noV xs es) := F.lent (fun a ha => by
    cases q : R' a with
    | none => rfl
    | some o =>
      rcases F.sub a o q with h | h
      · rw [hR a ha] at h; (have q_ := oNS h; clear h; exact q_.elim)
      · obtain ⟨o', e', _⟩ := S.obj ha; rw [e'] at h; (have q_ := oSN h; clear h; exact q_.elim)) (fun a ha => let ⟨o, e, _⟩ := S.obj ha; ⟨o, e⟩)
  refine noE (h _ env W s s' R R' _ e rm' F' (S.on fun a o ha e => by simp only [ha, if_true]; exact e)) fun fl s₂ p => ?_
  obtain ⟨R₂, Mu₂, Δ₂, Z', σ', d, F₂, S₂, hP, hs, hn, ho, hv⟩ := p
  refine ⟨Z', σ', d, hP, hs, F₂.keep, S₂.on fun a o _ e => (F₂.mu a o e).1, hn, ho, hv.mono fun b ob e => ?_⟩
  refine Reg.minus_some (fun hb => ?_) ?_
  · obtain ⟨o', e', _⟩ := S₂.obj hb
    rw [(F₂.mu b o' e').2.1] at e; (have q_ := oNS e; clear e; exact q_.elim)
  · have on := F₂.ro.on b ob e
    rcases F₂.sub b ob e with q | q
    · simp only [Reg.ext, ro.on b ob q]; exact q
    · simp only [Reg.ext, q]; exact on
end
end Mine
end
noncomputable section
open PySem PySem.W PyProof.Rows PySem.SeqAt PySem.MeetsSeq
set_option Elab.async false
set_option autoImplicit false
set_option maxRecDepth 100000
namespace Mine
section
variable {C : Cx} {s₀ : Shared} {R₀ : Reg} {V : List Addr} {sc : Scope} {env : Env} {W : List Addr} {s s' : Shared} {R R' Mu Mu' : Reg} {Δ Δ' : Vars} {n : Nat} {A : Around} {E : Value → Shared → Prop} {Q : Flow → Shared → Prop}
theorem op_is_none {v : Value} : Op2 C n (compareOp .Is) (.val v) .none (.bool (v == .none)) := by
  intro A s R v₁ v₂ rm ro h₁ h₂
  (have q_ := Rd.valE h₁; clear h₁; subst q_); (have q_ := Rd.noneE h₂; clear h₂; subst q_)
  exact is_none_gen (Post.pure ro (.bool _))
theorem op_isnot_none {v : Value} (hp : PySem.plainIs v .none = true := by rfl) : Op2 C n (compareOp .IsNot) (.val v) .none (.bool (!(v == .none))) := by
  intro A s R v₁ v₂ rm ro h₁ h₂
  (have q_ := Rd.valE h₁; clear h₁; subst q_); (have q_ := Rd.noneE h₂; clear h₂; subst q_)
  exact wpAny_isNot_plain hp (Post.pure ro (.bool _))
theorem ev_tuple_mul {x : Str} {np p : Pos} {e : Expr} {l : Addr} {vs : List Value} {m : Nat} {ds : List Dat} (hf : Ev C n sc Δ (.Name x np) (.val (.type "tuple"))) (he : Ev C n sc Δ e (.val (.ref l))) (hl : C.mu l = some (lstObj vs m)) (hr : RdAll noM vs ds) (hz : vs.length ≤ sizeLine)
    (hs : ∀ env, starEach [e] env = [(false, eval e env)] := by intro _; rfl) : Ev C n sc Δ (.Call (.Name x np) [e] [] p) (.tup ds) := by
  intro A env s R rm ro eo
  refine Call_ (noE (hf A env s R rm ro eo) fun f s₁ p₁ => ?_)
  have hf' := p₁.2
  (have q_ := Rd.valE hf'; clear hf'; subst q_)
  have k₁ := Keeps.hle p₁.1
  refine callWith_type1 (wpAny_items_cons (noE (he A env s₁ _ rm (ro.ext k₁) (eo.ext ro k₁)) fun v s₂ p₂ => wpAny_items_nil ?_) (hs env)) (hs env) rfl
  have hv := p₂.2
  (have q_ := Rd.valE hv; clear hv; subst q_)
  have k₂ := Keeps.tr p₁.1 p₂.1
  have r₂ := (ro.ext k₁).ext (Keeps.hle p₂.1)
  refine call_tuple_list (items := vs.toArray) ⟨_, r₂.mu _ _ hl, rfl, m, rfl⟩ (fun h' hk => ?_) (by simpa using hz)
  have k₃ : Keeps s₂ { s₂ with heap := h'.push { cls := .type "tuple", data := .seq vs.toArray } } := ⟨_, s₂.toks, rfl, fun b o e => Heap.get?_push_of_some _ (hk b o e)⟩
  refine ⟨Keeps.tr k₂ k₃, .tup (Reg.new_ext ?_ (Heap.get?_push_size _ rfl)) rfl rfl (hr.mono (show noM.le _ from fun a o (e : noM a = some o) => nomatch e))⟩
  cases q : s.heap.get? h'.objs.size with
  | none => rfl
  | some o => have := hk _ _ (Keeps.hle k₂ _ _ q); rw [fresh_none] at this; (have q_ := oNS this; clear this; exact q_.elim)

theorem mlist_append {o e : Expr} {ap pos : Pos} {l : Addr} {vs : List Value} {m : Nat} {d : Dat} {Qv : Value → Shared → Prop} (F : Fra C s₀ R₀ V sc env W s R Mu Δ) (rm : Room n A) (ho : Ev (C.at Mu) n sc Δ o (.val (.ref l))) (he : Ev (C.at Mu) n sc Δ e d) (hl : Mu l = some (lstObj vs m)) (hz : vs.length ≤ sizeLine)
    (h : ∀ s₁ R₁ v m', R.le R₁ → Rd R₁ v d → Fra C s₀ R₀ V sc env W s₁ R₁ (Mu.set l (lstObj (vs ++ [v]) m')) Δ → Qv .none s₁)
    (hline : (ap.endLine == pos.line) = true := by rfl) (hbase : attributeBase o (Str.ofString "append") env (eval o env) = eval o env := by rfl) (hs : starEach [e] env = [(false, eval e env)] := by rfl) :
    wpAny C.M A (eval (.Call (.Attribute o (Str.ofString "append") ap) [e] [] pos) env) Qv E s := by
  refine wpAny_Call_method1_late hbase hline (by rw [hs]; rfl) (noE (ho A env s R rm F.rom F.eo) fun ov s₁ p₁ => ?_)
  have h1 := p₁.2
  (have q_ := Rd.valE h1; clear h1; subst q_)
  have F₁ := F.ext p₁.1
  refine ⟨"list", "list.append", PySem.F.plainAttrs_list, PySem.F.slot_list_append, PySem.F.type_list_append, ⟨_, F₁.rom.mu _ _ hl, rfl⟩, fun a ha => by (have q_ := vRR ha; clear ha; subst q_); exact ⟨_, F₁.rom.mu _ _ hl, rfl⟩, ?_⟩
  have he' : backTo pos (starEach [e] env) = [(false, eval e env)] := by rw [hs]; rfl
  rw [← he']
  refine callWith_method1 (wpAny_items_cons (noE (he A env s₁ _ rm F₁.rom F₁.eo) fun v s₂ p₂ => wpAny_items_nil ?_) hs) hs rfl
  have F₂ := F₁.ext p₂.1
  refine wpAny_list_append_plain (items := vs.toArray) ⟨m, F₂.rom.mu _ _ hl⟩ (fun h' hp hsb => ?_) (by simpa using hz)
  obtain ⟨m', hp⟩ := hp
  refine h _ _ v m' ((Reg.ext_le F.ro.on).trans (Reg.ext_le F₁.ro.on)) p₂.2 (F₂.mut hl (fun _ q => nomatch q) hsb ?_)
  rw [hp]; simp [lstObj]
theorem mlist_clear {o : Expr} {ap pos : Pos} {l : Addr} {vs : List Value} {m : Nat} {Qv : Value → Shared → Prop} (F : Fra C s₀ R₀ V sc env W s R Mu Δ) (rm : Room n A) (ho : Ev (C.at Mu) n sc Δ o (.val (.ref l))) (hl : Mu l = some (lstObj vs m)) (hz : vs.length ≤ sizeLine)
    (h : ∀ s₁ R₁ m', R.le R₁ → Fra C s₀ R₀ V sc env W s₁ R₁ (Mu.set l (lstObj [] m')) Δ → Qv .none s₁)
    (hline : (ap.endLine == pos.line) = true := by rfl) (hbase : attributeBase o (Str.ofString "clear") env (eval o env) = eval o env := by rfl) :
    wpAny C.M A (eval (.Call (.Attribute o (Str.ofString "clear") ap) [] [] pos) env) Qv E s := by
  refine wpAny_Call_method0_late hbase hline (noE (ho A env s R rm F.rom F.eo) fun ov s₁ p₁ => ?_)
  have h1 := p₁.2
  (have q_ := Rd.valE h1; clear h1; subst q_)
  have F₁ := F.ext p₁.1
  have hl₁ := F₁.rom.mu _ _ hl
  refine ⟨"list", "list.clear", PySem.F.plainAttrs_list, PySem.F.slot_list_clear, PySem.F.type_list_clear, ⟨_, hl₁, rfl⟩, fun a ha => by (have q_ := vRR ha; clear ha; subst q_); exact ⟨_, hl₁, rfl⟩, ?_⟩
  refine PySem.P.clear_list (items := vs.toArray) (n := m) hl₁ ?_ (by simpa using hz)
  have hg : (s₁.heap.update l (Obj.mapSeq fun _ => #[])).get? l = some (Obj.mapSeq (fun _ => #[]) (lstObj vs m)) := Heap.get?_update_self _ hl₁ (by rfl)
  refine h _ _ _ (Reg.ext_le F.ro.on) (F₁.mut (tk := s₁.toks) hl (fun _ q => nomatch q) (Heap.SameBut.update ..) (o' := lstObj [] ?_) (hg.trans ?_))
  rotate_left
  · rfl
end
end Mine
end
noncomputable section
open PySem PySem.W PyProof.Rows PySem.SeqAt PySem.MeetsSeq
set_option Elab.async false
set_option autoImplicit false
set_option maxRecDepth 100000
namespace Mine
section
variable {Z : Srt} {r v : Value} {po nf x : Int} {h : Nat → Int} {t : Nat → Tok} {n : Nat} {u u' : Tok} {k : Int}
theorem look_n2i : lookIn (Str.ofString "_node2info") (dictOf (sEnts Z r po nf h t) n) = some (some (.ref Z.D)) := rfl
theorem look_rdy : lookIn (Str.ofString "_ready_nodes") (dictOf (sEnts Z r po nf h t) n) = some (some r) := rfl
theorem look_get : lookIn (Str.ofString "_get_nodeinfo") (dictOf (sEnts Z r po nf h t) n) = some none := rfl
theorem look_add : lookIn (Str.ofString "add") (dictOf (sEnts Z r po nf h t) n) = some none := rfl
theorem look_prep : lookIn (Str.ofString "prepare") (dictOf (sEnts Z r po nf h t) n) = some none := rfl
theorem look_ready : lookIn (Str.ofString "get_ready") (dictOf (sEnts Z r po nf h t) n) = some none := rfl
theorem look_done : lookIn (Str.ofString "done") (dictOf (sEnts Z r po nf h t) n) = some none := rfl
theorem look_cyc : lookIn (Str.ofString "_find_cycle") (dictOf (sEnts Z r po nf h t) n) = some none := rfl
theorem put_rdy : putL (Str.ofString "_ready_nodes") k (.str (Str.ofString "_ready_nodes") u) v (sEnts Z r po nf h t) = sEnts Z v po nf h t := rfl
theorem put_po : putL (Str.ofString "_npassedout") k (.str (Str.ofString "_npassedout") u) (.int x u') (sEnts Z r po nf h t) = sEnts Z r x nf h (fun i => if i = 4 then u' else t i) := rfl
theorem put_nf : putL (Str.ofString "_nfinished") k (.str (Str.ofString "_nfinished") u) (.int x u') (sEnts Z r po nf h t) = sEnts Z r po x h (fun i => if i = 5 then u' else t i) := rfl
theorem getL_rdy : getL (Str.ofString "_ready_nodes") (sEnts Z r po nf h t) = some (some r) := rfl
theorem getL_po : getL (Str.ofString "_npassedout") (sEnts Z r po nf h t) = some (some (.int po (t 4))) := rfl
theorem getL_nf : getL (Str.ofString "_nfinished") (sEnts Z r po nf h t) = some (some (.int nf (t 5))) := rfl
theorem sEnts_len : (sEnts Z r po nf h t).length = 4 := rfl
theorem encN_len {vs : List Value} {l : List Nat} {R : Reg} (h : RdAll R vs (encN l)) : vs.length = l.length := by rw [h.length]; simp
end
end Mine
end
noncomputable section
open PySem PySem.W PyProof.Rows PySem.SeqAt PySem.MeetsSeq
set_option Elab.async false
set_option autoImplicit false
set_option maxRecDepth 100000
namespace Mine
section
variable {C : Cx} (B : Base C (K3 C)) {Z : Srt} {σ : Sd}
include B
end
end Mine
end
noncomputable section
open PySem PySem.W PyProof.Rows PySem.SeqAt PySem.MeetsSeq
set_option Elab.async false
set_option autoImplicit false
set_option maxRecDepth 100000
namespace Mine
section
variable {C : Cx} {n : Nat}
theorem call_lent {ds : List Dat} (hlen : ds.length ≤ sizeLine) : CallOp C n (.builtin "len") [.tup ds] (.int ds.length) := by
  intro A s R vs rm ro h
  have q_ := RdAll.consE h
  clear h
  obtain ⟨_, _, rfl, h, r⟩ := q_
  next =>
    (have q_ := RdAll.nilE r; clear r; subst q_)
    obtain ⟨a, rfl⟩ := h.tup_ref
    obtain ⟨vs, t, r⟩ := h.isTuple ro.on
    have e : (vs.toArray.size : Int) = ds.length := by simp [r.length]
    refine len_tuple t (by rw [e]; rw [sizeLine_eq] at hlen; omega) ?_
    rw [e]; exact ⟨Keeps.toks _ _, .int _ _⟩
theorem Srt.all_same {Z : Srt} {σ σ' : Sd} (h1 : σ'.ks = σ.ks) (h2 : σ'.rd.isSome = σ.rd.isSome) : Z.all σ' = Z.all σ := by simp only [Srt.all, h1, h2]
theorem SAt.to {C : Cx} {cT cN : Addr} {M : Reg} {Z : Srt} {σ σ' : Sd} (S : SAt C cT cN M Z σ) (h : σ = σ') : SAt C cT cN M Z σ' := h ▸ S
end
end Mine
end
noncomputable section
open PySem PySem.W PyProof.Rows PySem.SeqAt PySem.MeetsSeq
set_option Elab.async false
set_option autoImplicit false
set_option maxRecDepth 100000
namespace Mine
section
variable {C : Cx} (B : Base C (K3 C)) {Z : Srt} {σ : Sd}
include B
theorem ready_spec {l : List Nat} (hrd : σ.rd = some l) (hl : ∀ k ∈ l, k ∈ σ.ks) (hz : l.length ≤ 1000) :
    SCall C aT aN 2 aReady [] Z σ (fun Z' σ' d => Z' = Z ∧ σ' = { σ with rd := some [], np := fun j => if j ∈ l then -1 else σ.np j, po := σ.po + l.length } ∧ d = .tup (encN l)) := by
  refine scall_fn (xs := [Str.ofString "self"]) (es := [.val (.ref Z.s)]) (fnC B rfl (by kernel_rfl!) rfl (by kernel_rfl!)) rfl (fun R s vs ro _ hr => by (have q_ := RdAll.nilE hr; clear hr; subst q_); exact bnd_plain ro (by kernel_rfl!) (.cons (.val _) .nil)) ?_
  intro A env W s₀ s R R₁ Mu hsc rm F S
  refine cps fun Q hQ => ?_
  obtain ⟨h, t, n, hd⟩ := S.d
  obtain ⟨vs, m, hq, hr⟩ := S.q l hrd
  have hlen := encN_len hr
  have hrv : rdV Z σ.rd = .ref Z.q := by rw [hrd]; rfl
  rw [hrv] at hd
  refine st_if F rm (evT_cmp (ev_own B.at (k_rdy _) (ev_name rfl) S.s hd look_rdy) ev_none op_is_none) fun s₁ R₂ l₁ F₁ => ?_
  refine st_nil ?_
  refine st_assign F₁ rm (ev_tuple_mul (ev_glob (g_tuple B.at) rfl) (ev_own B.at (k_rdy _) (ev_name rfl) S.s hd look_rdy) hq hr (by rw [sizeLine_val]; omega)) fun s₂ R₃ l₂ F₂ => ?_
  refine st_assign F₂ rm (ev_own B.at (k_n2i _) (ev_name rfl) S.s hd look_n2i) fun s₃ R₄ l₃ F₃ => ?_
  obtain ⟨tk, gout⟩ := g_out B
  refine st_for (L := l) (enc := fun k => Dat.int (k : Int)) (tds := fun k => [.int (k : Int)]) [Str.ofString "node"] (Z.all σ) (fun _ => ofL [(Str.ofString "self", .val (.ref Z.s)), (Str.ofString "result", .tup (encN l)), (Str.ofString "n2i", .val (.ref Z.D))])
    (fun i _ M => SAt C aT aN M Z { σ with np := fun j => if j ∈ l.take i then -1 else σ.np j }) F₃ rm (evIt_tup (ev_name rfl)) (AllIn.le ⟨rfl, rfl, rfl, trivial⟩) (fun a ha => let ⟨o, e, _⟩ := S.obj ha; ⟨o, e⟩) (by decide +kernel) (fun a _ => ⟨rfl, rfl⟩)
    (fun i R R' M M' hJ _ he => hJ.on fun a o ha e => (he a ha).trans e) (S.to (by simp)) ?_ ?_
  · intro i k s₄ R₅ M₄ hi l₄ hk F₄ hJ
    refine cps fun Qf hQf => ?_
    have hkm : k ∈ σ.ks := hl k (List.mem_of_getElem? hi)
    obtain ⟨od, hD, hdo⟩ := hJ.D
    obtain ⟨t', u', hin⟩ := hJ.inf k hkm
    refine st_slot B (k_np _) F₄ rm (ev_sub (ev_name rfl) (ev_name rfl) (op_ditem hD hdo (hJ.node hkm))) (ev_glob (C := C.at M₄) gout rfl) hin (hJ.emp k hkm) fun s₅ R₆ v l₅ hv F₅ => ?_
    (have q_ := Rd.valE hv; clear hv; subst q_)
    have S₅ := hJ.setnp hkm (t := t') (u := tk) (x := -1)
    refine st_nil (hQf _ _ ⟨R₆, _, l₅, ?_, F₅.toL _ ⟨rfl, rfl, rfl, trivial⟩, S₅.to ?_⟩)
    · intro a o ha e
      rw [Reg.set_ne _ _ (fun h => ha (Srt.mem_all.mpr (.inr (.inr (.inr (.inr ⟨k, hkm, .inl h⟩))))))]; exact e
    · congr 1
      funext j
      have htk : l.take (i + 1) = l.take i ++ [k] := by rw [List.take_add_one, hi]; rfl
      simp only [htk, List.mem_append, List.mem_singleton]
      by_cases hj : j = k
      · simp [hj]
      · simp [hj]
  · intro s₄ R₅ M₄ l₄ hk F₄ hJ
    rw [List.take_length] at hJ
    obtain ⟨h, t, n, hd⟩ := hJ.d
    simp only [hrd, rdV] at hd
    obtain ⟨vs', m', hq', hr'⟩ := hJ.q l hrd
    refine st_expr (mlist_clear F₄ rm (ev_own B.at (k_rdy _) (ev_name rfl) hJ.s hd look_rdy) hq' (by rw [sizeLine_val, encN_len hr']; omega) fun s₅ R₆ m₂ l₅ F₅ => ?_) F₄.quiet
    have S₅ := hJ.setrd (by rw [hrd]; simp) (vs := []) (n := m₂) (l := []) .nil
    obtain ⟨h₂, t₂, n₂, hd₂⟩ := S₅.d
    refine st_ownAug B (k_po _) F₅ rm (ev_name rfl) (ev_callb (ev_glob (g_len B.at) rfl) (evAll_cons (ev_name rfl) evAll_nil) (call_lent (by rw [sizeLine_val]; simp; omega))) S₅.s hd₂ getL_po rfl (fun _ => .int _ _) op_iadd (by rw [sEnts_len]; omega) fun s₆ R₇ v u l₆ hv F₆ => ?_
    (have q_ := Rd.intE hv; clear hv; obtain ⟨_, rfl⟩ := q_)
    rw [put_po] at F₆
    refine st_ret F₆ rm (ev_name rfl) fun s₇ R₈ v l₇ F₇ hv => ?_
    refine hQ _ _ ⟨R₈, _, _, Z, _, _, F₇, S₅.setd (rd := some []) rfl, ⟨rfl, ?_, rfl⟩, rfl, fun a ha => .inl ?_, fun a ha => ?_, hv⟩
    · simp
    · rwa [Srt.all_same (σ := σ) (by rfl) (by rw [hrd]; rfl)] at ha
    · rwa [Srt.all_same (σ := σ) (by rfl) (by rw [hrd]; rfl)]
end
end Mine
end
noncomputable section
open PySem PySem.W PyProof.Rows PySem.SeqAt PySem.MeetsSeq
set_option Elab.async false
set_option autoImplicit false
set_option maxRecDepth 100000
namespace Mine
section
variable {C : Cx} {s₀ : Shared} {R₀ : Reg} {V : List Addr} {sc : Scope} {env : Env} {W : List Addr} {s s' : Shared} {R R' Mu Mu' : Reg} {Δ Δ' : Vars} {n : Nat} {A : Around} {E : Value → Shared → Prop} {Q : Flow → Shared → Prop}
theorem st_if_walrus {x : Str} {xp np cp np' : Pos} {k : Nat} {e : Expr} {v : Value} {body orelse rest : List Stmt} {p : Pos} (F : Fra C s₀ R₀ V sc env W s R Mu Δ) (rm : Room n A) (he : Ev (C.at Mu) n sc Δ e (.val v))
    (h : ∀ s' R', R.le R' → Fra C s₀ R₀ V sc env W s' R' Mu (upd Δ x (.val v)) → wpAny C.M A (execs (if v == .none then body else orelse) env) (fun f s₂ => match f with | .next => wpAny C.M A (execs rest env) Q E s₂ | f => Q f s₂) E s')
    (hx : sc.names.lookup x = some .local ∨ sc.names.lookup x = some .cell := by first | exact Or.inl rfl | exact Or.inr rfl) :
    wpAny C.M A (execs (.If (.Compare (.NamedExpr (.Name x xp) e np) [.Is] [.Constant .none k np'] cp) body orelse p :: rest) env) Q E s := by
  refine wpAny_execs_cons (wpAny_If (wpAny_isTrue_Compare1 (wpAny_NamedExpr (noE (he A env s R rm F.rom F.eo) fun v₁ s₁ p₁ => ?_)) rfl))
  have hv := p₁.2
  (have q_ := Rd.valE hv; clear hv; subst q_)
  have F₁ := F.ext p₁.1
  refine wpAny_assign_Name (F₁.store (.val v) (fun s₂ _ F₂ => ?_) hx)
  refine noE (ev_none (C := C.at Mu) A env s₂ _ rm F₂.rom F₂.eo) fun v₂ s₃ p₃ => ?_
  have hv := p₃.2
  (have q_ := Rd.noneE hv; clear hv; subst q_)
  have F₃ := F₂.ext p₃.1
  refine is_none_gen (wpAny_truthy_bool ?_)
  have := h s₃ _ ((Reg.ext_le F.ro.on).trans (Reg.ext_le F₂.ro.on)) F₃
  cases hb : v == Value.none <;> rw [hb] at this <;> exact this
end

noncomputable def relaxStep (st : (Nat → Int) × List Nat) (j : Nat) : (Nat → Int) × List Nat :=
  (fun i => if i = j then st.1 j - 1 else st.1 i, if st.1 j - 1 = 0 then st.2 ++ [j] else st.2)
noncomputable def doneS (σ : Sd) (l : List Nat) (k : Nat) : (Nat → Int) × List Nat := (σ.su k).foldl relaxStep (fun i => if i = k then -2 else σ.np i, l)
end Mine
end
noncomputable section
open PySem PySem.W PyProof.Rows PySem.SeqAt PySem.MeetsSeq
set_option Elab.async false
set_option autoImplicit false
set_option maxRecDepth 100000
namespace Mine
noncomputable def patch (T : List Addr) (M₀ M : Reg) : Reg := fun a => if a ∈ T then M a else M₀ a
section
variable {C : Cx} {cT cN : Addr} {M₀ M M' : Reg} {Z : Srt} {σ : Sd} {T : List Addr}
theorem patch_to (h : Reg.keepsOff T M₀ M) (S : SAt C cT cN (patch T M₀ M) Z σ) : SAt C cT cN M Z σ := S.on fun a o _ e => by
  simp only [patch] at e
  split at e
  · exact e
  · exact h a o ‹_› e
theorem patch_from (h : Reg.keepsOff T M₀ M) (h₀ : ∀ a ∈ Z.all σ, ∃ o, M₀ a = some o) (S : SAt C cT cN M Z σ) : SAt C cT cN (patch T M₀ M) Z σ := S.on fun a o ha e => by
  simp only [patch]
  split
  · exact e
  · obtain ⟨o', e'⟩ := h₀ a ha
    have := h a o' ‹_› e'
    rw [e] at this; (have q_ := oSS this; clear this; subst q_); exact e'
theorem patch_same (h : ∀ a ∈ T, M' a = M a) : patch T M₀ M' = patch T M₀ M := by
  funext a
  simp only [patch]
  split
  · exact h a ‹_›
  · rfl
theorem keepsOff_set {a : Addr} {o : Obj} (ha : a ∈ T) : Reg.keepsOff T M (M.set a o) := fun b ob hb e => by
  have hne : b ≠ a := fun h => hb (h ▸ ha)
  rw [Reg.set_ne _ _ hne]; exact e
theorem keepsOff_trans (h : Reg.keepsOff T M₀ M) (h' : Reg.keepsOff T M M') : Reg.keepsOff T M₀ M' := fun b ob hb e => h' b ob hb (h b ob hb e)
theorem keepsOff_refl : Reg.keepsOff T M M := fun _ _ _ e => e
theorem keepsOff_sub {T' : List Addr} (hs : ∀ a ∈ T, a ∈ T') (h : Reg.keepsOff T M M') : Reg.keepsOff T' M M' := fun b ob hb e => h b ob (fun x => hb (hs b x)) e
theorem relax_len (js : List Nat) (st : (Nat → Int) × List Nat) : (js.foldl relaxStep st).2.length ≤ st.2.length + js.length := by
  induction js generalizing st with
  | nil => simp
  | cons j js ih =>
    rw [List.foldl_cons]
    refine Nat.le_trans (ih _) ?_
    simp only [relaxStep, List.length_cons]
    split
    · simp; omega
    · omega
end
end Mine
end
noncomputable section
open PySem PySem.W PyProof.Rows PySem.SeqAt PySem.MeetsSeq
set_option Elab.async false
set_option autoImplicit false
set_option maxRecDepth 100000
namespace Mine
theorem Room.made {n : Nat} {A : Around} {Cl : Addr} {vals : List Value} {kw : List (Str × Value)} (r : Room (n + 1) A) : Room n (A.under (.builtin "type.__call__" ⟨.ref Cl :: vals, kw⟩)) := by
  refine ⟨r.handled, ?_, ?_⟩
  · have := r.depth
    have e : (A.under (.builtin "type.__call__" ⟨.ref Cl :: vals, kw⟩)).depth = A.depth + 1 := depth_under_kw A Cl vals kw
    omega
  · have := r.units
    have e : (A.under (.builtin "type.__call__" ⟨.ref Cl :: vals, kw⟩)).units = A.units + (Code.builtin "type.__call__" ⟨.ref Cl :: vals, kw⟩).cUnits := rfl
    have e' : (Code.builtin "type.__call__" ⟨.ref Cl :: vals, kw⟩).cUnits ≤ 10 := by
      first | decide | (show (0 : Nat) ≤ 10; decide) | (show (1 : Nat) ≤ 10; decide) | (show (2 : Nat) ≤ 10; decide)
    omega
section
variable {C : Cx} {s₀ : Shared} {R₀ : Reg} {V : List Addr} {sc : Scope} {env : Env} {W : List Addr} {s s' : Shared} {R R' Mu Mu' : Reg} {Δ Δ' : Vars} {n : Nat} {A : Around} {E : Value → Shared → Prop} {Q : Flow → Shared → Prop} {K : Frag} {Cl x dx p f : Addr} {sl : Array (Option Value)} {od : Obj} {name : Str} {v : Value} {i : Nat}
theorem Fra.made (F : Fra C s₀ R₀ V sc env W s R Mu Δ) (o : Obj) (hf : o.isFreed = false) : ∃ R', R.le R' ∧ R'.le (R.ext s.heap (s.heap.push o)) ∧ Fra C s₀ R₀ V sc env W { s with heap := s.heap.push o } R' (Mu.set s.heap.objs.size o) Δ := by
  have F' := F.begin (X := [s.heap.objs.size]) (Keeps.push s o) (fun a ha => by rw [List.mem_singleton.mp ha]; exact fresh_none)
  refine ⟨_, new_up F.ro.on, Reg.minus_le, ?_⟩
  have e : (fun a => if a ∈ [s.heap.objs.size] then (s.heap.push o).get? a else Mu a) = Mu.set s.heap.objs.size o := by
    funext a
    simp only [List.mem_singleton, Reg.set]
    by_cases h : a = s.heap.objs.size
    · subst h; simp only [if_true]; exact Heap.get?_push_size _ hf
    · simp only [h, if_false]
  rw [← e]
  exact F'
theorem st_slot_new {o : Expr} {ap lp pos : Pos} {rest : List Stmt} (B : Base C K) (O : SlotA K Cl name p i) (F : Fra C s₀ R₀ V sc env W s R Mu Δ) (rm : Room n A) (ho : ∀ mu, Ev (C.at mu) n sc Δ o (.val (.ref x))) (hx : Mu x = some (insObj Cl dx sl)) (hd : Mu dx = some od)
    (h : ∀ s₁ R₁ l, R.le R₁ → s.heap.get? l = none → Fra C s₀ R₀ V sc env W s₁ R₁ ((Mu.set l (lstObj [] 0)).set x (insObj Cl dx ((sl ++ Array.replicate (i + 1 - sl.size) none).setIfInBounds i (some (.ref l))))) Δ → wpAny C.M A (execs rest env) Q E s₁)
    (hs : swapsWith (.List [] lp) (some (.Attribute o name ap)) pos.line env = pure false := by rfl) :
    wpAny C.M A (execs (.Assign [.Attribute o name ap] (.List [] lp) pos :: rest) env) Q E s := by
  refine wpAny_execs_cons (plainObj_wpAny_Assign_Attribute (wpAny_List (wpAny_items_nil ⟨by simp, ?_⟩)) hs)
  obtain ⟨R₁, l₁, _, F₁⟩ := F.made (lstObj [] 0) rfl
  have hne : x ≠ s.heap.objs.size := fun h => by have := (F.mu _ _ hx).1; rw [h, fresh_none] at this; (have q_ := oNS this; clear this; exact q_.elim)
  have hne' : dx ≠ s.heap.objs.size := fun h => by have := (F.mu _ _ hd).1; rw [h, fresh_none] at this; (have q_ := oNS this; clear this; exact q_.elim)
  have hx₁ : (Mu.set s.heap.objs.size (lstObj [] 0)) x = some (insObj Cl dx sl) := by rw [Reg.set_ne _ _ hne]; exact hx
  have hd₁ : (Mu.set s.heap.objs.size (lstObj [] 0)) dx = some od := by rw [Reg.set_ne _ _ hne']; exact hd
  refine noE (ho (Mu.set s.heap.objs.size (lstObj [] 0)) A env _ _ rm F₁.rom F₁.eo) fun ov s₂ p₂ => ?_
  have h1 := p₂.2
  (have q_ := Rd.valE h1; clear h1; subst q_)
  have F₂ := F₁.ext p₂.1
  have r₂ := F₂.rom
  refine setA_slot (B.ins r₂.hle0) (r₂.mu _ _ hx₁) (r₂.mu _ _ hd₁) O.set O.over O.take O.typ O.slot O.small fun h' hsb hg => ?_
  exact h _ _ s.heap.objs.size (l₁.trans (Reg.ext_le F₁.ro.on)) fresh_none (F₂.mut hx₁ (fun _ q => nomatch q) hsb hg)
theorem st_own_new {o : Expr} {ap lp pos : Pos} {es : List DictEntry} {k : Nat} {rest : List Stmt} (B : Base C K) (O : OwnA K Cl name) (F : Fra C s₀ R₀ V sc env W s R Mu Δ) (rm : Room n A) (ho : ∀ mu, Ev (C.at mu) n sc Δ o (.val (.ref x))) (hx : Mu x = some (insObj Cl dx sl)) (hd : Mu dx = some (dictOf es k))
    (hl : (getL name es).isSome = true) (hz : es.length < 1000)
    (h : ∀ s₁ R₁ l t, R.le R₁ → s.heap.get? l = none → s.heap.objs.size ≤ l → Fra C s₀ R₀ V sc env W s₁ R₁ ((Mu.set l emptyDict).set dx (dictOf (putL name (PyData.keyHash C.w.params name) (.str name t) (.ref l) es) (putN name es k))) Δ → wpAny C.M A (execs rest env) Q E s₁)
    (hs : swapsWith (.Dict [] [] lp) (some (.Attribute o name ap)) pos.line env = pure false := by rfl) :
    wpAny C.M A (execs (.Assign [.Attribute o name ap] (.Dict [] [] lp) pos :: rest) env) Q E s := by
  refine wpAny_execs_cons (plainObj_wpAny_Assign_Attribute (wpAny_Dict_empty ?_) hs)
  obtain ⟨R₁, l₁, _, F₁⟩ := F.made emptyDict rfl
  have hne : x ≠ s.heap.objs.size := fun h => by have := (F.mu _ _ hx).1; rw [h, fresh_none] at this; (have q_ := oNS this; clear this; exact q_.elim)
  have hne' : dx ≠ s.heap.objs.size := fun h => by have := (F.mu _ _ hd).1; rw [h, fresh_none] at this; (have q_ := oNS this; clear this; exact q_.elim)
  have hx₁ : (Mu.set s.heap.objs.size emptyDict) x = some (insObj Cl dx sl) := by rw [Reg.set_ne _ _ hne]; exact hx
  have hd₁ : (Mu.set s.heap.objs.size emptyDict) dx = some (dictOf es k) := by rw [Reg.set_ne _ _ hne']; exact hd
  refine noE (ho (Mu.set s.heap.objs.size emptyDict) A env _ _ rm F₁.rom F₁.eo) fun ov s₂ p₂ => ?_
  have h1 := p₂.2
  (have q_ := Rd.valE h1; clear h1; subst q_)
  have F₂ := F₁.ext p₂.1
  have r₂ := F₂.rom
  refine setA_own (B.ins r₂.hle0) (r₂.mu _ _ hx₁) (r₂.mu _ _ hd₁) O.set O.over O.take O.dict hl rfl ?_ fun h' hsb hg => ?_
  · have := putL_len name (PyData.keyHash C.w.params name) (.str name (s₂.toks + 1)) (.ref s.heap.objs.size) es; omega
  · exact h _ _ s.heap.objs.size _ (l₁.trans (Reg.ext_le F₁.ro.on)) fresh_none (Nat.le_refl _) (F₂.mut hd₁ (fun _ q => nomatch q) hsb hg)
end
end Mine
end
noncomputable section
open PySem PySem.W PyProof.Rows PySem.SeqAt PySem.MeetsSeq
set_option Elab.async false
set_option autoImplicit false
set_option maxRecDepth 100000
namespace Mine
section
variable {C : Cx} {s₀ : Shared} {R₀ : Reg} {V : List Addr} {sc : Scope} {env : Env} {W : List Addr} {s s' : Shared} {R R' Mu Mu' : Reg} {Δ Δ' : Vars} {n : Nat} {A : Around} {E : Value → Shared → Prop}
theorem Fra.ev {e : Expr} {d : Dat} {Qv : Value → Shared → Prop} (F : Fra C s₀ R₀ V sc env W s R Mu Δ) (rm : Room n A) (he : Ev (C.at Mu) n sc Δ e d)
    (h : ∀ v s₁ R₁, R.le R₁ → Keeps s s₁ → Rd R₁ v d → Fra C s₀ R₀ V sc env W s₁ R₁ Mu Δ → Qv v s₁) : wpAny C.M A (eval e env) Qv E s :=
  noE (he A env s R rm F.rom F.eo) fun v s₁ p₁ => h v s₁ _ (Reg.ext_le F.ro.on) p₁.1 p₁.2 (F.ext p₁.1)
theorem Fra.evAll {es : List Expr} {ds : List Dat} {p : Pos} {Qv : List Value → Shared → Prop} (F : Fra C s₀ R₀ V sc env W s R Mu Δ) (rm : Room n A) (he : EvAll (C.at Mu) n sc Δ es ds)
    (h : ∀ vs s₁ R₁, R.le R₁ → Keeps s s₁ → RdAll R₁ vs ds → Fra C s₀ R₀ V sc env W s₁ R₁ Mu Δ → Qv vs s₁) : wpAny C.M A (spliced (backTo p (starEach es env))) Qv E s :=
  noE (he A env s R p rm F.rom F.eo) fun v s₁ p₁ => h v s₁ _ (Reg.ext_le F.ro.on) p₁.1 p₁.2 (F.ext p₁.1)
end
noncomputable def Srt.grow (Z : Srt) (k : Nat) (x e l : Addr) : Srt :=
  { Z with inf := fun j => if j = k then x else Z.inf j, emp := fun j => if j = k then e else Z.emp j, suc := fun j => if j = k then l else Z.suc j,
           role := fun a => if a = x then .inf k else if a = e then .emp k else if a = l then .suc k else Z.role a }
noncomputable def Sd.grow (σ : Sd) (k : Nat) : Sd := { σ with ks := σ.ks ++ [k], np := fun j => if j = k then 0 else σ.np j, su := fun j => if j = k then [] else σ.su j }
section
variable {C : Cx} {cT cN : Addr} {M M' : Reg} {Z : Srt} {σ : Sd} {k : Nat} {x e l : Addr}
theorem nodePairs_grow (hk : k ∉ σ.ks) : nodePairs (σ.ks ++ [k]) (Z.grow k x e l).inf = nodePairs σ.ks Z.inf ++ [((k : Int), Value.ref x)] := by
  simp only [nodePairs, List.map_append, List.map_cons, List.map_nil, Srt.grow, if_true]
  congr 1
  refine List.map_congr_left fun j hj => ?_
  have : j ≠ k := fun h => hk (h ▸ hj)
  simp [this]
theorem stored_new {kvs : List (Int × Value)} {i : Int} {v : Value} (h : valueAt kvs i = none) : stored kvs i v = kvs ++ [(i, v)] := by
  unfold stored
  rw [if_neg]
  intro hc
  simp only [List.any_eq_true, decide_eq_true_eq] at hc
  obtain ⟨kv, hm, he⟩ := hc
  simp only [valueAt, Option.map_eq_none_iff, List.find?_eq_none] at h
  exact h kv hm (by simp [he])
theorem SAt.grow {o : Obj} {t u : Tok} (S : SAt C cT cN M Z σ) (hk : k ∉ σ.ks) (hlen : σ.ks.length < 7) (h3 : x ≠ e ∧ x ≠ l ∧ e ≠ l) (hn : M x = none ∧ M e = none ∧ M l = none)
    (hx : M' x = some (nodeObj cN e k t 0 u l)) (he : M' e = some emptyDict) (hl : M' l = some (lstObj [] 0)) (hD : M' Z.D = some o) (ho : o.IsDictOf (iK C) (nodePairs (σ.ks ++ [k]) (Z.grow k x e l).inf))
    (hs : ∀ a oa, a ≠ Z.D → M a = some oa → M' a = some oa) : SAt C cT cN M' (Z.grow k x e l) (σ.grow k) := by
  have off : ∀ {a oa}, M a = some oa → a ≠ x ∧ a ≠ e ∧ a ≠ l := fun {a oa} h => by
    refine ⟨?_, ?_, ?_⟩
    · intro q; rw [q, hn.1] at h; (have q_ := oNS h; clear h; exact q_.elim)
    · intro q; rw [q, hn.2.1] at h; (have q_ := oNS h; clear h; exact q_.elim)
    · intro q; rw [q, hn.2.2] at h; (have q_ := oNS h; clear h; exact q_.elim)
  have rl : ∀ {a oa r}, M a = some oa → Z.role a = r → (Z.grow k x e l).role a = r := fun {a oa r} h hr => by
    obtain ⟨h1, h2, h4⟩ := off h
    simp only [Srt.grow, h1, h2, h4, if_false]; exact hr
  have hj : ∀ {j}, j ∈ σ.ks → j ≠ k := fun {j} h q => hk (q ▸ h)
  obtain ⟨hd, td, nd, ed⟩ := S.d
  obtain ⟨oD, eD, _⟩ := S.D
  have mem : ∀ {j}, j ∈ (σ.grow k).ks → j ∈ σ.ks ∨ j = k := fun {j} h => by simpa [Sd.grow] using h
  refine ⟨hs _ _ (role_ne S.rs S.rD (by simp)) S.s, ⟨hd, td, nd, ?_⟩, ⟨o, hD, ho⟩, fun j hjm => ?_, fun j hjm => ?_, fun j hjm => ?_, fun l' hl' => ?_, rl S.s S.rs, rl ed S.rd, rl eD S.rD, fun h => ?_, fun j hjm => ?_, fun j hjm => ?_, fun j hjm => ?_, ?_, S.sm, ?_⟩
  · have := hs _ _ (role_ne S.rd S.rD (by simp)) ed
    cases hr : σ.rd <;> simpa [Srt.grow, Sd.grow, sEnts, rdV, hr] using this
  · rcases mem hjm with h | rfl
    · obtain ⟨t', u', e'⟩ := S.inf j h
      have := hs _ _ (role_ne (S.rinf j h) S.rD (by simp)) e'
      exact ⟨t', u', by simpa [Srt.grow, Sd.grow, hj h] using this⟩
    · exact ⟨t, u, by simpa [Srt.grow, Sd.grow] using hx⟩
  · rcases mem hjm with h | rfl
    · have := hs _ _ (role_ne (S.remp j h) S.rD (by simp)) (S.emp j h)
      simpa [Srt.grow, hj h] using this
    · simpa [Srt.grow] using he
  · rcases mem hjm with h | rfl
    · obtain ⟨vs, n, e', r⟩ := S.suc j h
      have := hs _ _ (role_ne (S.rsuc j h) S.rD (by simp)) e'
      exact ⟨vs, n, by simpa [Srt.grow, hj h] using this, by simpa [Sd.grow, hj h] using r⟩
    · exact ⟨[], 0, by simpa [Srt.grow] using hl, by simp [Sd.grow]; exact .nil⟩
  · obtain ⟨vs, n, e', r⟩ := S.q l' hl'
    exact ⟨vs, n, hs _ _ (role_ne (S.rq (by rw [show σ.rd = some l' from hl']; simp)) S.rD (by simp)) e', r⟩
  · have h' : σ.rd ≠ none := h
    cases hr : σ.rd with
    | none => exact absurd hr h'
    | some l' => obtain ⟨vs, n, e', r⟩ := S.q l' hr; exact rl e' (S.rq h')
  · rcases mem hjm with h | rfl
    · obtain ⟨t', u', e'⟩ := S.inf j h
      have := rl e' (S.rinf j h)
      simpa [Srt.grow, hj h] using this
    · simp [Srt.grow]
  · rcases mem hjm with h | rfl
    · have := rl (S.emp j h) (S.remp j h)
      simpa [Srt.grow, hj h] using this
    · simp [Srt.grow, Ne.symm h3.1]
  · rcases mem hjm with h | rfl
    · obtain ⟨vs, n, e', r⟩ := S.suc j h
      have := rl e' (S.rsuc j h)
      simpa [Srt.grow, hj h] using this
    · simp [Srt.grow, Ne.symm h3.2.1, Ne.symm h3.2.2]
  · simp only [Sd.grow]
    rw [List.nodup_append]
    refine ⟨S.nod, by simp, fun a ha b hb => ?_⟩
    simp at hb; subst hb
    exact hj ha
  · simp [Sd.grow]; omega
theorem Srt.mem_grow {a : Addr} (hk : k ∉ σ.ks) : a ∈ (Z.grow k x e l).all (σ.grow k) ↔ a ∈ Z.all σ ∨ a = x ∨ a = e ∨ a = l := by
  have hj : ∀ {j}, j ∈ σ.ks → j ≠ k := fun {j} h q => hk (q ▸ h)
  rw [Srt.mem_all, Srt.mem_all]
  constructor
  · rintro (h | h | h | h | ⟨j, hjm, h⟩)
    · exact .inl (.inl h)
    · exact .inl (.inr (.inl h))
    · exact .inl (.inr (.inr (.inl h)))
    · exact .inl (.inr (.inr (.inr (.inl h))))
    · have hj' : j ∈ σ.ks ∨ j = k := by simpa [Sd.grow] using hjm
      rcases hj' with hj' | rfl
      · simp only [Srt.grow, hj hj', if_false] at h
        exact .inl (.inr (.inr (.inr (.inr ⟨j, hj', h⟩))))
      · simp only [Srt.grow, if_true] at h
        exact .inr h
  · rintro ((h | h | h | h | ⟨j, hjm, h⟩) | h)
    · exact .inl h
    · exact .inr (.inl h)
    · exact .inr (.inr (.inl h))
    · exact .inr (.inr (.inr (.inl h)))
    · exact .inr (.inr (.inr (.inr ⟨j, by simp [Sd.grow, hjm], by simpa [Srt.grow, hj hjm] using h⟩)))
    · exact .inr (.inr (.inr (.inr ⟨k, by simp [Sd.grow], by simpa [Srt.grow] using h⟩)))
end
end Mine
end
noncomputable section
open PySem PySem.W PyProof.Rows PySem.SeqAt PySem.MeetsSeq
set_option Elab.async false
set_option autoImplicit false
set_option maxRecDepth 100000
namespace Mine
section
variable {C : Cx} {cT cN : Addr} {s₀ : Shared} {R₀ : Reg} {V : List Addr} {sc : Scope} {env : Env} {W : List Addr} {s s' : Shared} {R R' Mu Mu' : Reg} {Δ Δ' : Vars} {n : Nat} {A : Around} {E : Value → Shared → Prop} {Z Z' : Srt} {σ σ' : Sd} {K : Frag} {od : Obj} {name : Str} {f : Addr}
theorem Fra.dead (F : Fra C s₀ R₀ V sc env W s R Mu Δ) {a : Addr} (h : s.heap.get? a = none) : s₀.heap.get? a = none := by
  cases x : s₀.heap.get? a with
  | none => rfl
  | some o' =>
    exfalso
    by_cases hv : a ∈ V
    · obtain ⟨o, e⟩ := F.vnew a hv; rw [h] at e; (have q_ := oNS e; clear e; exact q_.elim)
    · rw [F.keep.get hv x] at h; (have q_ := oSN h; clear h; exact q_.elim)
theorem Fra.scall {ds : List Dat} {vs : List Value} {P : Srt → Sd → Dat → Prop} {Qv : Value → Shared → Prop} (F : Fra C s₀ R₀ V sc env W s R Mu Δ) (rm : Room n A) (S : SAt C cT cN Mu Z σ) (hc : SCall C cT cN n f ds Z σ P) (hvs : RdAll R vs ds)
    (h : ∀ v s' R' Mu' Z' σ' d, P Z' σ' d → Z'.s = Z.s → R.le R' → Rd R' v d → Fra C s₀ R₀ V sc env W s' R' Mu' Δ → SAt C cT cN Mu' Z' σ' → (∀ a ∈ Z'.all σ', a ∈ Z.all σ ∨ s.heap.get? a = none) → (∀ a ∈ Z.all σ, a ∈ Z'.all σ') → Reg.keepsOff (Z.all σ) Mu Mu' → Qv v s') :
    wpAny C.M A (call (.ref f) (.ref Z.s :: vs)) Qv E s := by
  refine noE (hc A s R vs rm F.ro hvs (S.on fun a o _ e => (F.mu a o e).1) (fun a ha => let ⟨o, e, _⟩ := S.obj ha; (F.mu a o e).2.1)) fun v s' q => ?_
  obtain ⟨Z', σ', d, hP, p⟩ := q
  obtain ⟨F', S'⟩ := p.fra F S
  exact h v s' _ _ Z' σ' d hP p.self (p.region F S) p.val F' S' p.new p.old (p.off p.new F)
theorem Fra.smeth {o e : Expr} {ap pos : Pos} {es : List Expr} {ds : List Dat} {P : Srt → Sd → Dat → Prop} {Qv : Value → Shared → Prop} (F : Fra C s₀ R₀ V sc env W s R Mu Δ) (rm : Room n A) (B : Base C K) (O : MethA K cT name f) (S : SAt C cT cN Mu Z σ) (hd : Mu Z.d = some od) (hl : lookIn name od = some none)
    (ho : Ev (C.at Mu) n sc Δ o (.val (.ref Z.s))) (ha : EvAll (C.at Mu) n sc Δ (e :: es) ds) (hc : SCall C cT cN n f ds Z σ P)
    (h : ∀ v s' R' Mu' Z' σ' d, P Z' σ' d → Z'.s = Z.s → R.le R' → Rd R' v d → Fra C s₀ R₀ V sc env W s' R' Mu' Δ → SAt C cT cN Mu' Z' σ' → (∀ a ∈ Z'.all σ', a ∈ Z.all σ ∨ s.heap.get? a = none) → (∀ a ∈ Z.all σ, a ∈ Z'.all σ') → Reg.keepsOff (Z.all σ) Mu Mu' → Qv v s')
    (h2 : starEach (e :: es) env = (false, eval e env) :: starEach es env := by rfl) (h3 : (backTo pos (starEach es env)).any (·.1) = false := by rfl)
    {pl : Sem Bool} (hm : eval (.Call (.Attribute o name ap) (e :: es) [] pos) env = (do
      let ov ← eval o env
      standAt ap.atName
      let (f, first) ← holding [ov] (getMethod ov name pl)
      callWith pos f first (backTo pos (starEach (e :: es) env)) (backToKw pos (keywordEach [] env))) := by rfl) :
    wpAny C.M A (eval (.Call (.Attribute o name ap) (e :: es) [] pos) env) Qv E s := by
  refine meth_run B O F rm ho S.s hd hl ha (fun s₁ R₁ vs l₁ k₁ F₁ hvs => ?_) h2 h3 (pl := pl) hm
  refine F₁.scall rm S hc hvs fun v s' R' Mu' Z' σ' d hP hs l hv F' S' hn ho hk => h v s' R' Mu' Z' σ' d hP hs (l₁.trans l) hv F' S' (fun a ha => ?_) ho hk
  rcases hn a ha with q | q
  · exact .inl q
  · right
    cases z : s.heap.get? a with
    | none => rfl
    | some o => rw [Keeps.hle k₁ _ _ z] at q; (have q_ := oSN q; clear q; exact q_.elim)
theorem Fra.smeth0 {o : Expr} {ap pos : Pos} {P : Srt → Sd → Dat → Prop} {Qv : Value → Shared → Prop} (F : Fra C s₀ R₀ V sc env W s R Mu Δ) (rm : Room n A) (B : Base C K) (O : MethA K cT name f) (S : SAt C cT cN Mu Z σ) (hd : Mu Z.d = some od) (hl : lookIn name od = some none)
    (ho : Ev (C.at Mu) n sc Δ o (.val (.ref Z.s))) (hc : SCall C cT cN n f [] Z σ P)
    (h : ∀ v s' R' Mu' Z' σ' d, P Z' σ' d → Z'.s = Z.s → R.le R' → Rd R' v d → Fra C s₀ R₀ V sc env W s' R' Mu' Δ → SAt C cT cN Mu' Z' σ' → (∀ a ∈ Z'.all σ', a ∈ Z.all σ ∨ s.heap.get? a = none) → (∀ a ∈ Z.all σ, a ∈ Z'.all σ') → Reg.keepsOff (Z.all σ) Mu Mu' → Qv v s')
    {pl : Sem Bool} (hm : eval (.Call (.Attribute o name ap) [] [] pos) env = (do
      let ov ← eval o env
      standAt ap.atName
      let (f, first) ← holding [ov] (getMethod ov name pl)
      callWith pos f first (backTo pos (starEach [] env)) (backToKw pos (keywordEach [] env))) := by rfl) :
    wpAny C.M A (eval (.Call (.Attribute o name ap) [] [] pos) env) Qv E s := by
  refine meth_run0 B O F rm ho S.s hd hl (fun s₁ R₁ l₁ k₁ F₁ => ?_) (pl := pl) hm
  refine F₁.scall rm S hc .nil fun v s' R' Mu' Z' σ' d hP hs l hv F' S' hn ho hk => h v s' R' Mu' Z' σ' d hP hs (l₁.trans l) hv F' S' (fun a ha => ?_) ho hk
  rcases hn a ha with q | q
  · exact .inl q
  · right
    cases z : s.heap.get? a with
    | none => rfl
    | some o => rw [Keeps.hle k₁ _ _ z] at q; (have q_ := oSN q; clear q; exact q_.elim)
end
end Mine
end
noncomputable section
open PySem PySem.W PyProof.Rows PySem.SeqAt PySem.MeetsSeq
set_option Elab.async false
set_option autoImplicit false
set_option maxRecDepth 100000
namespace Mine
theorem slot_li_ga : Slot "list_iterator" "__getattribute__" "object.__getattribute__" :=
  .of (owner := "object") (n := "__getattribute__") (by rw [typeLookup_type, builtinLookup_eq_fast]; kernel_rfl) (by decide +kernel) (by decide +kernel) (by decide +kernel)
    (by first | exact .inl (by decide +kernel) | exact .inr (by decide +kernel)) (by rw [isSubtype_type]; kernel_rfl)
theorem entry_li_ga : entryFor table "object.__getattribute__" = some Builtin.«object.__getattribute__» := entryFor_of_tree (by kernel_rfl)
theorem args_li_ga (a b : Value) : argsOk "object.__getattribute__" ⟨[a, b], []⟩ := by unfold argsOk; kernel_rfl
theorem look_li_next : typeLookup (.type "list_iterator") "__next__" = pure (some (.builtin "list_iterator.__next__")) := by rw [typeLookup_type, builtinLookup_eq_fast]; kernel_rfl
theorem type_li_next : typeOf (.builtin "list_iterator.__next__") = pure (.type "wrapper_descriptor") := by show builtinType _ = _; rw [builtinType_eq_fast]; kernel_rfl
theorem look_wd_get : typeLookup (.type "wrapper_descriptor") "__get__" = pure (some (.builtin "wrapper_descriptor.__get__")) := by rw [typeLookup_type, builtinLookup_eq_fast]; kernel_rfl
theorem look_wd_set : typeLookup (.type "wrapper_descriptor") "__set__" = pure none := by rw [typeLookup_type, builtinLookup_eq_fast]; kernel_rfl
theorem look_wd_del : typeLookup (.type "wrapper_descriptor") "__delete__" = pure none := by rw [typeLookup_type, builtinLookup_eq_fast]; kernel_rfl
theorem slot_wd_get : Slot "wrapper_descriptor" "__get__" "wrapper_descriptor.__get__" :=
  .of (owner := "wrapper_descriptor") (n := "__get__") (by rw [typeLookup_type, builtinLookup_eq_fast]; kernel_rfl) (by decide +kernel) (by decide +kernel) (by decide +kernel)
    (by first | exact .inl (by decide +kernel) | exact .inr (by decide +kernel)) (by rw [isSubtype_type]; kernel_rfl)
theorem entry_wd_get : entryFor table "wrapper_descriptor.__get__" = some Builtin.«wrapper_descriptor.__get__» := entryFor_of_tree (by kernel_rfl)
theorem args_wd_get (a b c : Value) : argsOk "wrapper_descriptor.__get__" ⟨[a, b, c], []⟩ := by unfold argsOk; kernel_rfl
theorem sub_li : isSubtype (.type "list_iterator") (.type "list_iterator") = pure true := by rw [isSubtype_type]; kernel_rfl

section
variable {prog : Program} {w : World} {A : Around} {E : Value → Shared → Prop} {s : Shared}
noncomputable abbrev wrapObj (I : Addr) : Obj := { cls := .type "method-wrapper", data := .fields #[.builtin "list_iterator.__next__", .ref I] }
theorem look_li_hook : typeLookup (.type "list_iterator") "__getattr__" = pure none := by rw [typeLookup_type, builtinLookup_eq_fast]; kernel_rfl
theorem call_wd_get {I : Addr} {o : Obj} {R : Result → Shared → Prop} (ho : s.heap.get? I = some o) (hc : o.cls = .type "list_iterator") (h : R (.ok (.ret (.ref s.heap.objs.size))) { s with heap := s.heap.push (wrapObj I) }) :
    codeAny (model prog w) A (.call (.builtin "wrapper_descriptor.__get__") ⟨[.builtin "list_iterator.__next__", .ref I, .type "list_iterator"], []⟩) R s := by
  refine codeAny_call_builtin slot_wd_get.plain entry_wd_get (slot_wd_get.check _ _ _ _ _ _ _ _ type_li_next (args_wd_get _ _ _) ?_)
  obtain ⟨hp, g, d, tk, os⟩ := s
  have hT : (⟨hp, g, d, tk, os⟩ : Shared).TypeIs (.ref I) "list_iterator" := ⟨o, ho, hc⟩
  unfold Builtin.«wrapper_descriptor.__get__»
  repeat (any_goals (first | assumption | wp_step))
  rw [show (".".intercalate ("list_iterator.__next__".cutAt '.').dropLast) = "list_iterator" from by decide +kernel, sub_li]
  refine wpAny_pure ?_
  rw [if_neg (by decide)]
  exact wpAny_pure (wpAny_bind (wpAny_newObj_type (wpAny_pure h)))
theorem meets_li_ga (I : Addr) (o : Obj) (u : Tok) (hc : o.cls = .type "list_iterator") (hd : o.dict = none) (hf : ∃ vs, o.data = .fields vs) :
    Meets (Builtin.«object.__getattribute__» ⟨[.ref I, .str (Str.ofString "__next__") u], []⟩) (fun _ R s => s.heap.get? I = some o ∧ R (.ok (.ret (.ref s.heap.objs.size))) { s with heap := s.heap.push (wrapObj I) }) :=
  Meets.of_wp fun prog w A R s hs => by
    obtain ⟨hp, g, d, tk, os⟩ := s
    obtain ⟨hx, hs⟩ := hs
    obtain ⟨vs, hf⟩ := hf
    obtain ⟨c, dct, dat, sl⟩ := o
    dsimp only at hc hd hf
    subst hc hd hf
    have hT : (⟨hp, g, d, tk, os⟩ : Shared).TypeIs (.ref I) "list_iterator" := ⟨_, hx, rfl⟩
    have f1 := look_li_next
    have f2 := type_li_next
    have f3 := look_wd_get
    have f4 := look_wd_set
    have f5 := look_wd_del
    unfold Builtin.«object.__getattribute__»
    repeat (any_goals (first | assumption | wp_step))
    refine call_wd_get (s := ⟨hp, g, d, tk, os⟩) hx rfl ?_
    exact wpAny_pure ⟨_, rfl, hs⟩
theorem getAttr_next {I : Addr} {o : Obj} {Q : Value → Shared → Prop} (hx : s.heap.get? I = some o) (hc : o.cls = .type "list_iterator") (hd : o.dict = none) (hf : ∃ vs, o.data = .fields vs)
    (h : Q (.ref s.heap.objs.size) { s with heap := s.heap.push (wrapObj I), toks := s.toks + 1 }) : wpAny (model prog w) A (getAttr (.ref I) (Str.ofString "__next__") true) Q E s := by
  obtain ⟨vs, hf⟩ := hf
  obtain ⟨c, dct, dat, sl⟩ := o
  dsimp only at hc hd hf
  subst hc hd hf
  obtain ⟨hp, g, d, tk, os⟩ := s
  have hT : ∀ tk', (⟨hp, g, d, tk', os⟩ : Shared).TypeIs (.ref I) "list_iterator" := fun _ => ⟨_, hx, rfl⟩
  have f3 := slot_li_ga.lookup
  have f4 := slot_li_ga.bind (.ref I)
  have f5 := look_li_hook
  unfold getAttr getAttrBy
  repeat (any_goals (first | assumption | exact hT _ | ((with_reducible show wpAny _ _ (call (Value.builtin "object.__getattribute__") _ _) _ _ _); refine call_meets slot_li_ga (hT _) entry_li_ga (args_li_ga _ _) (meets_li_ga I _ _ rfl rfl ⟨_, rfl⟩) ⟨hx, ?_⟩) | wp_step))
  exact (handed_on rfl h : wpAny (model prog w) A (handedOut (.ref hp.objs.size)) Q E _)
end
end Mine
end
noncomputable section
open PySem PySem.W PyProof.Rows PySem.SeqAt PySem.MeetsSeq
set_option Elab.async false
set_option autoImplicit false
set_option maxRecDepth 100000
namespace Mine
section
variable {prog : Program} {w : World} {A : Around} {E : Value → Shared → Prop} {s : Shared} {R : Result → Shared → Prop}
theorem call_wrap {q I : Addr} (ho : s.heap.get? q = some (wrapObj I)) (h : codeAny (model prog w) A (.builtin "list_iterator.__next__" ⟨[.ref I], []⟩) R s) : codeAny (model prog w) A (.call (.ref q) ⟨[], []⟩) R s := by
  obtain ⟨hh, g, dr, t, os⟩ := s
  refine codeAny_of_tree ?_
  show wpAny _ _ (callAny (.ref q) _) _ _ _
  dsimp only at ho
  refine nd_load ho ?_
  have e : checkBoundCall "list_iterator.__next__" ⟨[.ref I], []⟩ = pure () := by kernel_rfl
  show wpAny _ _ (checkBoundCall "list_iterator.__next__" ⟨[.ref I], []⟩ >>= fun _ => again (.builtin "list_iterator.__next__" ⟨[.ref I], []⟩) >>= fun r => pure r) _ _ _
  rw [e]
  exact wpAny_pure ⟨Code.quiet_builtin _ (by decide +kernel), h⟩
theorem plain_li_next : plainId "list_iterator.__next__" = true := by decide +kernel
noncomputable abbrev stopObj (T : Addr) (tb : Value) : Obj := { cls := .type "StopIteration", data := .fields #[.ref T, tb, .none, .none, .bool false, .none] }
theorem next_item {I l : Addr} {i : Nat} {items : Array Value} {x : Value} (hit : s.heap.IsListIter I l i) (hl : s.heap.IsList l items) (hx : items[i]? = some x)
    (h : ∀ h', h'.IsListIter I l (i + 1) → Heap.SameBut I s.heap h' → R (.ok (.ret x)) { s with heap := h' }) : codeAny (model prog w) A (.builtin "list_iterator.__next__" ⟨[.ref I], []⟩) R s := by
  obtain ⟨o, ho, hc, hd⟩ := id hit
  obtain ⟨ol, hol, _, nl, hdl⟩ := hl
  refine codeAny_builtin entry_listiter_next ?_
  show wpAny _ _ (field (.ref I) 0 >>= _) _ _ s
  refine wpAny_bind (wpAny_field ho hd (x := .ref l) rfl ?_)
  show wpAny _ _ (if (Value.ref l == Value.none) = true then _ else _) _ _ s
  rw [if_neg (show ¬ ((Value.ref l == Value.none) = true) from Bool.false_ne_true)]
  show wpAny _ _ (field (.ref I) 1 >>= _) _ _ s
  refine wpAny_bind (wpAny_field ho hd (x := .int i 0) rfl ?_)
  show wpAny _ _ (seqItems? (.ref l) >>= _) _ _ s
  refine wpAny_bind (wpAny_seqItems hol hdl ?_)
  simp only [Int.toNat_natCast, hx]
  refine wpAny_bind (wpAny_setField ho hd (by simp) (wpAny_pure (h _ ?_ (Heap.SameBut.update ..))))
  exact ⟨_, Heap.get?_update_self _ ho (Obj.isFreed_of_fields (Obj.data_mapFields hd _)), (Obj.cls_mapFields ..).trans hc, by
    rw [Obj.data_mapFields hd]; simp [rawInt]⟩
theorem next_end {I l : Addr} {i : Nat} {items : Array Value} (hh : A.handled = none) (hit : s.heap.IsListIter I l i) (hl : s.heap.IsList l items) (hx : items[i]? = none)
    (h : ∀ h' e T, Heap.ExtBut I s.heap h' → (∃ o, h'.get? I = some o) → s.heap.get? e = none → s.heap.get? T = none → e ≠ T → h'.get? e = some (stopObj T .none) → R (.error (.ref e)) { s with heap := h' }) : codeAny (model prog w) A (.builtin "list_iterator.__next__" ⟨[.ref I], []⟩) R s := by
  obtain ⟨o, ho, hc, hd⟩ := id hit
  obtain ⟨ol, hol, _, nl, hdl⟩ := hl
  refine codeAny_builtin entry_listiter_next ?_
  show wpAny _ _ (field (.ref I) 0 >>= _) _ _ s
  refine wpAny_bind (wpAny_field ho hd (x := .ref l) rfl ?_)
  show wpAny _ _ (if (Value.ref l == Value.none) = true then _ else _) _ _ s
  rw [if_neg (show ¬ ((Value.ref l == Value.none) = true) from Bool.false_ne_true)]
  show wpAny _ _ (field (.ref I) 1 >>= _) _ _ s
  refine wpAny_bind (wpAny_field ho hd (x := .int i 0) rfl ?_)
  show wpAny _ _ (seqItems? (.ref l) >>= _) _ _ s
  refine wpAny_bind (wpAny_seqItems hol hdl ?_)
  simp only [Int.toNat_natCast, hx]
  refine wpAny_bind (wpAny_rule (wpAny_bind (wpAny_setField ho hd (by simp) ?_)))
  show wpAny _ _ (newExc (.type "StopIteration") [] >>= _) _ _ _
  refine wpAny_bind ?_
  simp only [newExc, newTuple]
  refine wpAny_bind (wpAny_newObj_type ?_ (by size_fits))
  refine wpAny_bind (m := firstArgMember _ _) (wpAny_of_eq (a := Value.none) (by first | rfl | (simp only [firstArgMember]; rfl)) ?_)
  refine wpAny_newObj_type ?_ (by size_fits)
  simp only [raiseNew]
  refine wpAny_bind (wpAny_handled ?_)
  rw [Around.under_plainId plain_li_next]
  rw [show A.in1.handled = none from hh]
  refine wpAny_bind (wpAny_pure (wpAny_throw ?_))
  have hsz : ∀ {h : Heap} {a : Addr}, h.objs.size ≤ a → h.get? a = none := fun {h a} ha => by
    cases e : h.get? a with
    | none => rfl
    | some o' => exact absurd (Heap.lt_size e) (Nat.not_lt.mpr ha)
  have hus : (s.heap.update I (Obj.mapFields (·.setIfInBounds 0 Value.none))).objs.size = s.heap.objs.size := Heap.size_after_update ..
  refine h _ _ (s.heap.update I (Obj.mapFields (·.setIfInBounds 0 Value.none))).objs.size (((Heap.SameBut.update ..).extBut.push _).push _) ?_ ?_ ?_ ?_ ?_
  · exact ⟨_, Heap.get?_push_of_some _ (Heap.get?_push_of_some _ (Heap.get?_update_self _ ho (Obj.isFreed_of_fields (Obj.data_mapFields hd _))))⟩
  · exact hsz (by rw [Heap.size_push, hus]; exact Nat.le_succ _)
  · exact hsz (by rw [hus]; exact Nat.le_refl _)
  · rw [Heap.size_push]; exact Nat.succ_ne_self _
  · exact Heap.get?_push_size _ rfl
end
end Mine
end
noncomputable section
open PySem PySem.W PyProof.Rows PySem.SeqAt PySem.MeetsSeq
set_option Elab.async false
set_option autoImplicit false
set_option maxRecDepth 100000
namespace Mine
noncomputable def noH : Heap := {}
structure Marked (LS : List Addr) (e : Addr) (h h' : Heap) : Prop where
  keep : ∀ b o, b ∉ LS → b ≠ e → h.get? b = some o → h'.get? b = some o
  fr : ∀ b o, b ∈ LS → h.get? b = some o → ∃ sl, h'.get? b = some { o with slots := sl }
section
variable {M : Model} {A : Around} {E : Value → Shared → Prop} {s : Shared}
noncomputable def FlyAt (h : Heap) (e T tb : Addr) (fl : Value) : Prop := h.get? e = some (stopObj T (.ref tb)) ∧ tb ≠ e ∧ ∃ ot ts, h.get? tb = some ot ∧ ot.data = .fields ts ∧ ts[3]? = some fl
theorem note_first {env : Env} {outer : List Env} {L e T : Addr} {Q : Unit → Shared → Prop} (hfr : A.frames = some (env :: outer)) (hl : s.heap.FunFrames noH (env :: outer)) (hf : env.frame = some L) (he : s.heap.get? e = some (stopObj T .none))
    (h : ∀ h' tb, Marked ((env :: outer).filterMap (·.frame)) e s.heap h' → s.heap.get? tb = none → FlyAt h' e T tb (rawInt L) → Q () { s with heap := h' }) : wpAny M A (noteFrame (.ref e) env) Q E s := by
  have hene : e ∉ (env :: outer).filterMap (·.frame) := fun hm => by
    obtain ⟨_, o, ho, hnf⟩ := hl.mem hm
    rw [he] at ho; injection ho with ho; subst ho; exact hnf _ rfl
  unfold noteFrame
  simp only [hf]
  refine wpAny_bind (wpAny_field he rfl (x := .none) rfl ?_)
  rw [if_neg (by decide)]
  refine wpAny_bind (wpAny_frameOf_fun hfr hl hf fun h₁ hs₁ => ?_)
  refine wpAny_bind (wpAny_entryPlaceOf fun pl hpl => ?_)
  unfold EntryCells.newEntry newFields
  refine wpAny_bind (wpAny_newObj_type ?_ (hpl.sizeOk5 _ _ _ _ _))
  have he₁ : h₁.get? e = some (stopObj T .none) := (hs₁.2.1 e hene).trans he
  have he₂ := Heap.get?_push_of_some (h := h₁) { cls := .type "traceback", dict := none, data := .fields ([Value.none, .ref L, .none, rawInt L, .none] ++ (if pl.isEmpty then List.replicate 6 Value.none else pl)).toArray } he₁
  refine wpAny_setField he₂ rfl (by simp) (h _ h₁.objs.size ?_ ?_ ?_)
  · refine ⟨fun b o h1 h2 q => ?_, fun b o h1 q => ?_⟩
    · rw [Heap.get?_update_other _ _ (Ne.symm h2)]
      exact Heap.get?_push_of_some _ ((hs₁.2.1 b h1).trans q)
    · obtain ⟨sl, hsl⟩ := hs₁.2.2 b o q
      refine ⟨sl, ?_⟩
      have hbe : e ≠ b := fun w => hene (w ▸ h1)
      rw [Heap.get?_update_other _ _ hbe]
      exact Heap.get?_push_of_some _ hsl
  · cases q : s.heap.get? h₁.objs.size with
    | none => rfl
    | some o => have := Heap.lt_size q; rw [hs₁.1] at this; exact absurd this (Nat.lt_irrefl _)
  · have hTe : h₁.objs.size ≠ e := Nat.ne_of_gt (Heap.lt_size he₁)
    have hT := (Heap.get?_update_other (h₁.push { cls := .type "traceback", dict := none, data := .fields ([Value.none, .ref L, .none, rawInt L, .none] ++ (if pl.isEmpty then List.replicate 6 Value.none else pl)).toArray }) (Obj.mapFields (·.setIfInBounds 1 (Value.ref h₁.objs.size))) (Ne.symm hTe)).trans (Heap.get?_push_size h₁ rfl)
    refine ⟨?_, hTe, _, _, hT, rfl, ?_⟩
    · rw [Heap.get?_update_self _ he₂ rfl]; rfl
    · first | (simp; done) | (rcases hpl with rfl | ⟨_, _, _, _, _, _, _, rfl⟩ <;> simp)
theorem land {e T tb : Addr} {fl : Value} {LS : List Addr} {Q : Unit → Shared → Prop} (ht : FlyAt s.heap e T tb fl)
    (h : ∀ h', Heap.SameBut tb s.heap h' → FlyAt h' e T tb .none → Q () { s with heap := h' }) : wpAny M A (setFlight (.ref e) none) Q E s := by
  obtain ⟨he, hne, ot, ts, hT, hd, h3⟩ := ht
  have hsz3 : 3 < ts.size := (Array.getElem?_eq_some_iff.mp h3).1
  unfold setFlight
  refine wpAny_bind (wpAny_field he rfl (x := .ref tb) rfl ?_)
  rw [if_pos (show (Value.ref tb != Value.none) = true from by simp)]
  refine wpAny_setField hT hd hsz3 (h _ (Heap.SameBut.update ..) ⟨?_, hne, _, _, Heap.get?_update_self _ hT (Obj.isFreed_of_fields (Obj.data_mapFields hd _)), Obj.data_mapFields hd _, by simp [hsz3]⟩)
  rw [Heap.get?_update_other _ _ hne]; exact he
end
end Mine
end
noncomputable section
open PySem PySem.W PyProof.Rows PySem.SeqAt PySem.MeetsSeq
set_option Elab.async false
set_option autoImplicit false
set_option maxRecDepth 100000
namespace Mine
section
variable {C : Cx} {s₀ : Shared} {R₀ : Reg} {V : List Addr} {sc : Scope} {env : Env} {W : List Addr} {s s' : Shared} {R R' Mu Mu' : Reg} {Δ Δ' : Vars} {n : Nat} {A : Around} {E : Value → Shared → Prop} {Q : Flow → Shared → Prop}
theorem delItem_int {d : Addr} {o : Obj} {kvs : List (Int × Value)} {k : Int} {t : Tok} {Qu : Unit → Shared → Prop} (hd : s.heap.get? d = some o) (hk : o.IsDictOf (iK C) kvs) (hv : (valueAt kvs k).isSome = true) (hz : kvs.length ≤ sizeLine)
    (h : ∀ h' o', Heap.SameBut d s.heap h' → h'.get? d = some o' → o'.IsDictOf (iK C) (without kvs k) → Qu () { s with heap := h', toks := s.toks + 1 }) : wpAny C.M A (delItem (.ref d) (.int k t)) Qu E s := by
  have hD : s.heap.DictOf (iK C) d kvs := dictAt_of hd hk
  unfold delItem
  try with_reducible refine wpAny_holding ?_
  refine wpAny_bind (wpAny_sequenceKey hD.typeIs (by decide) ?_)
  refine wpAny_bind (wpAny_callSpecial?_slot (name := Str.ofString "__delitem__") hD.typeIs PySem.F.slot_dict_delitem
    (call_meetsIn PySem.F.slot_dict_delitem hD.typeIs PySem.F.entry_dict_delitem (PySem.F.args_dict_delitem_2 _ _) (meets_dict_delitem_pairs (iK C) d (intKind_is _ _ _ _)) ⟨kvs, hD, hz, hv, fun h' hmm hs => ?_⟩))
  obtain ⟨o', ho', hd'⟩ := Heap.dictOf_iff.mp hmm
  exact wpAny_pure (h h' o' hs ho' hd')
theorem Fra.name {x : Str} {p : Pos} {d : Dat} {Qv : Value → Shared → Prop} (F : Fra C s₀ R₀ V sc env W s R Mu Δ) (h : Δ x = some d) (hQ : ∀ v, Rd R v d → Qv v s) (hx : ((x == ("__debug__" : Str)) || (x == ("__classdict__" : Str))) = false := by decide +kernel) :
    wpAny C.M A (eval (.Name x p) env) Qv E s := by
  obtain ⟨v, hv, hd⟩ := F.eo.vars x d h
  obtain ⟨h1, h2⟩ := Bool.or_eq_false_iff.mp hx
  exact wpAny_Name (wpAny_var (F.eo.hsc ▸ F.eo.fn) hv (hQ v hd) h2) h1
theorem Fra.pop {x : Str} {np ap pos : Pos} {l : Addr} {vs : List Value} {v : Value} {m : Nat} {Qv : Value → Shared → Prop} (F : Fra C s₀ R₀ V sc env W s R Mu Δ) (hx : Δ x = some (.val (.ref l))) (hl : Mu l = some (lstObj (vs ++ [v]) m)) (hz : vs.length < sizeLine)
    (h : ∀ s₁ m', KeepsBut [l] s s₁ → Fra C s₀ R₀ V sc env W s₁ R (Mu.set l (lstObj vs m')) Δ → Qv v s₁)
    (hn : ((x == ("__debug__" : Str)) || (x == ("__classdict__" : Str))) = false := by decide +kernel)
    (hline : (ap.endLine == pos.line) = true := by rfl) (hbase : attributeBase (.Name x np) (Str.ofString "pop") env (eval (.Name x np) env) = eval (.Name x np) env := by rfl) :
    wpAny C.M A (eval (.Call (.Attribute (.Name x np) (Str.ofString "pop") ap) [] [] pos) env) Qv E s := by
  refine wpAny_Call_method0_late hbase hline (F.name hx (fun ov h1 => ?_) hn)
  (have q_ := Rd.valE h1; clear h1; subst q_)
  have hl₁ := F.rom.mu _ _ hl
  refine ⟨"list", "list.pop", PySem.F.plainAttrs_list, PySem.F.slot_list_pop, PySem.F.type_list_pop, ⟨_, hl₁, rfl⟩, fun a ha => by (have q_ := vRR ha; clear ha; subst q_); exact ⟨_, hl₁, rfl⟩, ?_⟩
  refine PySem.P.pop_list (items := (vs ++ [v]).toArray) (n := m) (y := v) hl₁ (by simp) ?_ (by simp; omega)
  have hg : (s.heap.update l (Obj.mapSeq fun xs => xs.eraseIdxIfInBounds ((vs ++ [v]).toArray.size - 1))).get? l = some (Obj.mapSeq (fun xs => xs.eraseIdxIfInBounds ((vs ++ [v]).toArray.size - 1)) (lstObj (vs ++ [v]) m)) := Heap.get?_update_self _ hl₁ (by rfl)
  have hv : ((vs ++ [v]).toArray.eraseIdxIfInBounds ((vs ++ [v]).toArray.size - 1)) = vs.toArray := by
    simp [Array.eraseIdxIfInBounds, List.eraseIdx_append_of_length_le]
  refine h _ _ ⟨_, s.toks, rfl, fun b o hb e => (Heap.SameBut.update ..).extBut b o (fun q => hb (by simp [q])) e⟩ (F.mut (tk := s.toks) hl (fun _ q => nomatch q) (Heap.SameBut.update ..) (o' := lstObj vs ?_) (hg.trans ?_))
  rotate_left
  · simp only [Obj.mapSeq, hv]
    rfl
end
end Mine
end
noncomputable section
open PySem PySem.W PyProof.Rows PySem.SeqAt PySem.MeetsSeq
set_option Elab.async false
set_option autoImplicit false
set_option maxRecDepth 100000
namespace Mine
noncomputable abbrev frs (Out : List Env) : List Addr := Out.filterMap (·.frame)
noncomputable def Live (Out : List Env) (G : Reg) : Prop := ∀ e ∈ Out, e.scope.kind ≠ .module ∧ ∃ L o, e.frame = some L ∧ G L = some o ∧ (∀ vs, o.data ≠ .fields vs) ∧ ∀ v, o.data ≠ .cell v
noncomputable def UpTo (LS : List Addr) (G G' : Reg) : Prop := ∀ a ∈ LS, ∀ o, G a = some o → ∃ sl, G' a = some { o with slots := sl }
theorem UpTo.trans {LS : List Addr} {G G' G'' : Reg} (x : UpTo LS G G') (y : UpTo LS G' G'') : UpTo LS G G'' := fun a ha o e => let ⟨_, e1⟩ := x a ha o e; let ⟨sl, e2⟩ := y a ha _ e1; ⟨sl, e2⟩
theorem UpTo.of {LS : List Addr} {G G' : Reg} (x : ∀ a ∈ LS, ∀ o, G a = some o → G' a = some o) : UpTo LS G G' := fun a ha o e => ⟨o.slots, x a ha o e⟩
theorem UpTo.off {T LS : List Addr} {G G' : Reg} (x : Reg.keepsOff T G G') (h : ∀ a ∈ LS, a ∉ T) : UpTo LS G G' := .of fun a ha o e => x a o (h a ha) e
theorem Live.up {Out : List Env} {G G' : Reg} (x : Live Out G) (y : UpTo (frs Out) G G') : Live Out G' := fun e he => by
  obtain ⟨h1, L, o, h2, h3, h4, h5⟩ := x e he
  obtain ⟨sl, e'⟩ := y L (List.mem_filterMap.mpr ⟨e, he, h2⟩) o h3
  exact ⟨h1, L, _, h2, e', h4, h5⟩
theorem Live.obj {Out : List Env} {G : Reg} (x : Live Out G) {a : Addr} (ha : a ∈ frs Out) : ∃ o, G a = some o ∧ ∀ v, o.data ≠ .cell v := by
  obtain ⟨e, he, h⟩ := List.mem_filterMap.mp ha
  obtain ⟨_, L, o, h2, h3, _, h5⟩ := x e he
  rw [h2] at h; (have q_ := oSS h; clear h; subst q_)
  exact ⟨o, h3, h5⟩
theorem Live.fun {Out : List Env} {h : Heap} (x : Live Out h.get?) : h.FunFrames noH Out := by
  induction Out with
  | nil => trivial
  | cons e l ih =>
    obtain ⟨h1, L, o, h2, h3, h4, _⟩ := x e List.mem_cons_self
    exact ⟨h1, ⟨L, o, h2, rfl, h3, h4⟩, ih fun e' he' => x e' (List.mem_cons_of_mem _ he')⟩
section
variable {C : Cx} {s₀ : Shared} {R₀ : Reg} {V : List Addr} {sc : Scope} {env : Env} {W : List Addr} {s s' : Shared} {R R' Mu Mu' : Reg} {Δ Δ' : Vars} {n : Nat} {A : Around} {E : Value → Shared → Prop} {Q : Flow → Shared → Prop}
theorem Fra.slots {o : Obj} {sl : Array (Option Value)} (F : Fra C s₀ R₀ V sc env W s R Mu Δ) (ho : s.heap.get? env.locals = some o) (hf : ({ o with slots := sl } : Obj).isFreed = false) :
    Fra C s₀ R₀ V sc env W { s with heap := s.heap.update env.locals fun o => { o with slots := sl } } R Mu Δ := by
  have hs : Heap.SameBut env.locals s.heap (s.heap.update env.locals fun o => { o with slots := sl }) := Heap.SameBut.update ..
  have hg : (s.heap.update env.locals fun o => { o with slots := sl }).get? env.locals = some { o with slots := sl } := Heap.get?_update_self _ ho hf
  have ns : ∀ m, s.heap.Ns env.locals m → (s.heap.update env.locals fun o => { o with slots := sl }).Ns env.locals m := fun m hm => by
    obtain ⟨o', es, ep, h1, h2, h3⟩ := hm
    rw [ho] at h1; (have q_ := oSS h1; clear h1; subst q_)
    exact ⟨_, es, ep, hg, h2, h3⟩
  have e := F.ew
  refine F.stored ⟨_, s.toks, rfl, fun b o hb eb => hs.extBut b o (fun h => hb (h ▸ e.locW)) eb⟩ ?_
  refine ⟨⟨e.ok.hsc, e.ok.fn, e.ok.gl, e.ok.bl, fun y dy ey => ?_⟩, let ⟨m, x⟩ := e.ns; ⟨m, ns m x⟩, e.locW, fun c hc hn => let ⟨v, x⟩ := e.alive c hc hn; ⟨v, x.sameBut hs hn⟩, e.offR, e.inj, e.locne, fun y c h => let ⟨v, z⟩ := e.calive y c h; ⟨v, z.sameBut hs (fun q => e.locne y (q ▸ h))⟩⟩
  obtain ⟨v, hv, hr⟩ := e.ok.vars y dy ey
  refine ⟨v, ?_, hr⟩
  rcases hv with ⟨a1, m1, a2, a3⟩ | ⟨a1, c1, a2, a3⟩ | ⟨a1, c1, a2, a3⟩
  · exact .inl ⟨a1, m1, ns _ a2, a3⟩
  · exact .inr (.inl ⟨a1, c1, a2, a3.sameBut hs (fun q => e.locne y (q ▸ a2))⟩)
  · exact .inr (.inr ⟨a1, c1, a2, a3.sameBut hs (fun q => e.locne y (q ▸ a2))⟩)
theorem Fra.deep {X : List Addr} (F : Fra C s₀ R₀ V sc env W s R Mu Δ) (k : KeepsBut (env.locals :: X) s s') (hl : UpTo [env.locals] s.heap.get? s'.heap.get?) (hX : ∀ a ∈ X, ∃ o, Mu a = some o ∧ ∀ v, o.data ≠ .cell v) (hX' : ∀ a ∈ X, ∃ o, s'.heap.get? a = some o)
    (h1 : R.le R') (h2 : R'.le (R.ext s.heap s'.heap)) (hM : ∀ a o, Mu' a = some o → s'.heap.get? a = some o ∧ R' a = none ∧ ((∃ o', Mu a = some o') ∨ s.heap.get? a = none)) :
    Fra C s₀ R₀ V sc env W s' R' Mu' Δ := by
  obtain ⟨m, o, es, ep, ho, hod, hm⟩ := F.ew.ns
  obtain ⟨sl, ho'⟩ := hl _ List.mem_cons_self o ho
  have hfr : ({ o with slots := sl } : Obj).isFreed = false := by simp only [Obj.isFreed, hod]
  have F₁ := F.slots ho hfr
  have hs : Heap.SameBut env.locals s.heap (s.heap.update env.locals fun o => { o with slots := sl }) := Heap.SameBut.update ..
  have hg : (s.heap.update env.locals fun o => { o with slots := sl }).get? env.locals = some { o with slots := sl } := Heap.get?_update_self _ ho hfr
  have same : ∀ b, b ≠ env.locals → (s.heap.update env.locals fun o => { o with slots := sl }).get? b = s.heap.get? b := fun b hb => Heap.get?_update_other _ _ (Ne.symm hb)
  have dead : ∀ b, (s.heap.update env.locals fun o => { o with slots := sl }).get? b = none ↔ s.heap.get? b = none := fun b => by
    by_cases hb : b = env.locals
    · subst hb; rw [hg, ho]; simp
    · rw [same b hb]
  have ext : R.ext (s.heap.update env.locals fun o => { o with slots := sl }) s'.heap = R.ext s.heap s'.heap := by
    funext b
    simp only [Reg.ext]
    by_cases hb : b = env.locals
    · subst hb; rw [hg, ho]
    · rw [same b hb]
  refine F₁.stepG (X := X) (s' := s') ?_ hX hX' h1 (ext ▸ h2) fun a o' e => ?_
  · obtain ⟨h', tk, rfl, x⟩ := k
    refine ⟨h', tk, rfl, fun b ob hb eb => ?_⟩
    by_cases hbl : b = env.locals
    · subst hbl; rw [hg] at eb; (have q_ := oSS eb; clear eb; subst q_); exact ho'
    · refine x b ob (fun h => ?_) (by dsimp only at eb; rw [same b hbl] at eb; exact eb)
      rcases List.mem_cons.mp h with q | q
      · exact hbl q
      · exact hb q
  · obtain ⟨g1, g2, g3⟩ := hM a o' e
    exact ⟨g1, g2, g3.imp (fun x => x) (fun x => (dead a).mpr x)⟩
theorem Fra.live {Out : List Env} (F : Fra C s₀ R₀ V sc env W s R Mu Δ) (hf : env.frame = some env.locals) (L : Live Out Mu) : Live (env :: Out) s.heap.get? := fun e he => by
  rcases List.mem_cons.mp he with rfl | he
  · obtain ⟨m, o, es, ep, ho, hod, hm⟩ := F.ew.ns
    exact ⟨by rw [F.eo.hsc, F.eo.fn]; decide, _, o, hf, ho, (fun vs h => by rw [hod] at h; cases h), (fun v h => by rw [hod] at h; cases h)⟩
  · obtain ⟨h1, L', o, h2, h3, h4⟩ := L e he
    exact ⟨h1, L', o, h2, (F.mu _ _ h3).1, h4⟩
theorem frs_cons (hf : env.frame = some env.locals) (Out : List Env) : frs (env :: Out) = env.locals :: frs Out := by simp [frs, hf]
end
structure FPost (C : Cx) (cT cN : Addr) (Out : List Env) (s : Shared) (R : Reg) (Z : Srt) (σ : Sd) (v : Value) (s' : Shared) (Z' : Srt) (σ' : Sd) (d : Dat) : Prop where
  self : Z'.s = Z.s
  keep : KeepsBut (frs Out ++ Z.all σ) s s'
  fr : UpTo (frs Out) s.heap.get? s'.heap.get?
  at' : SAt C cT cN s'.heap.get? Z' σ'
  new : ∀ a ∈ Z'.all σ', a ∈ Z.all σ ∨ s.heap.get? a = none
  old : ∀ a ∈ Z.all σ, a ∈ Z'.all σ'
  val : Rd ((R.ext s.heap s'.heap).minus (Z'.all σ')) v d
noncomputable def FCall (C : Cx) (cT cN : Addr) (n : Nat) (f : Addr) (ds : List Dat) (Z : Srt) (σ : Sd) (P : Srt → Sd → Dat → Prop) : Prop :=
  ∀ A Out s R vs, Room n A → A.frames = some Out → Live Out s.heap.get? → Rok (C.at noM) R s.heap → RdAll R vs ds → SAt C cT cN s.heap.get? Z σ → (∀ a ∈ Z.all σ, R a = none) → (∀ a ∈ frs Out, R a = none ∧ a ∉ Z.all σ) →
    wpAny C.M A (call (.ref f) (.ref Z.s :: vs)) (fun v s' => ∃ Z' σ' d, P Z' σ' d ∧ FPost C cT cN Out s R Z σ v s' Z' σ' d) NoE s
section
variable {C : Cx} {cT cN : Addr} {s₀ : Shared} {R₀ : Reg} {V : List Addr} {sc : Scope} {env : Env} {W : List Addr} {s s' : Shared} {R R' Mu Mu' : Reg} {Δ Δ' : Vars} {n : Nat} {A : Around} {E : Value → Shared → Prop} {Z Z' : Srt} {σ σ' : Sd} {K : Frag} {od : Obj} {name : Str} {f : Addr}
theorem Fra.fcall {Out : List Env} {ds : List Dat} {vs : List Value} {P : Srt → Sd → Dat → Prop} {Qv : Value → Shared → Prop} (F : Fra C s₀ R₀ V sc env W s R Mu Δ) (rm : Room n A) (hfr : A.frames = some (env :: Out)) (hf : env.frame = some env.locals) (Lv : Live Out Mu) (dis : ∀ a ∈ frs Out, a ∉ Z.all σ) (S : SAt C cT cN Mu Z σ) (hc : FCall C cT cN n f ds Z σ P) (hvs : RdAll R vs ds)
    (h : ∀ v s' R' Mu' Z' σ' d, P Z' σ' d → Z'.s = Z.s → R.le R' → Rd R' v d → Fra C s₀ R₀ V sc env W s' R' Mu' Δ → SAt C cT cN Mu' Z' σ' → (∀ a ∈ Z'.all σ', a ∈ Z.all σ ∨ s.heap.get? a = none) → (∀ a ∈ Z.all σ, a ∈ Z'.all σ') → Reg.keepsOff (Z.all σ ++ frs Out) Mu Mu' → UpTo (frs Out) Mu Mu' → Qv v s') :
    wpAny C.M A (call (.ref f) (.ref Z.s :: vs)) Qv E s := by
  have hlz : env.locals ∉ Z.all σ := fun h => by
    obtain ⟨o, e, _⟩ := S.obj h
    exact (F.mu _ _ e).2.2.1 F.ew.locW
  refine noE (hc A (env :: Out) s R vs rm hfr (F.live hf Lv) F.ro hvs (S.on fun a o _ e => (F.mu a o e).1) (fun a ha => let ⟨o, e, _⟩ := S.obj ha; (F.mu a o e).2.1) fun a ha => ?_) fun v s' q => ?_
  · rw [frs_cons hf] at ha
    rcases List.mem_cons.mp ha with rfl | ha
    · exact ⟨F.ew.offR _ F.ew.locW, hlz⟩
    · obtain ⟨o, e, _⟩ := Lv.obj ha
      exact ⟨(F.mu _ _ e).2.1, dis a ha⟩
  obtain ⟨Z', σ', d, hP, p⟩ := q
  have pk := p.keep
  have pf := p.fr
  rw [frs_cons hf] at pk pf
  have reg : R.le ((R.ext s.heap s'.heap).minus (Z'.all σ')) := fun a o e => by
    refine Reg.minus_some (fun h => ?_) (Reg.ext_le F.ro.on a o e)
    rcases p.new a h with q | q
    · obtain ⟨o', e', _⟩ := S.obj q
      rw [(F.mu a o' e').2.1] at e; (have q_ := oNS e; clear e; exact q_.elim)
    · have := F.ro.on a o e; rw [q] at this; (have q_ := oNS this; clear this; exact q_.elim)
  have disj : ∀ a ∈ frs Out, a ∉ Z'.all σ' := fun a ha h => by
    rcases p.new a h with q | q
    · exact dis a ha q
    · obtain ⟨o, e, _⟩ := Lv.obj ha
      rw [(F.mu _ _ e).1] at q; (have q_ := oSN q; clear q; exact q_.elim)
  have F' : Fra C s₀ R₀ V sc env W s' ((R.ext s.heap s'.heap).minus (Z'.all σ')) (fun a => if a ∈ frs Out ++ Z'.all σ' then s'.heap.get? a else Mu a) Δ := by
    refine F.deep (X := frs Out ++ Z.all σ) pk (fun a ha o e => pf a (List.mem_cons.mpr (.inl (List.mem_singleton.mp ha))) o e) (fun a ha => ?_) (fun a ha => ?_) reg Reg.minus_le fun a o e => ?_
    · rcases List.mem_append.mp ha with h | h
      · exact Lv.obj h
      · exact S.obj h
    · rcases List.mem_append.mp ha with h | h
      · obtain ⟨o, e, _⟩ := Lv.obj h
        obtain ⟨sl, e'⟩ := pf a (List.mem_cons_of_mem _ h) o (F.mu _ _ e).1
        exact ⟨_, e'⟩
      · obtain ⟨o, e, _⟩ := p.at'.obj (p.old a h); exact ⟨o, e⟩
    · by_cases ha : a ∈ frs Out ++ Z'.all σ'
      · simp only [ha, if_true] at e
        rcases List.mem_append.mp ha with h | h
        · obtain ⟨o', e', _⟩ := Lv.obj h
          refine ⟨e, ?_, .inl ⟨o', e'⟩⟩
          cases q : ((R.ext s.heap s'.heap).minus (Z'.all σ')) a with
          | none => rfl
          | some o'' =>
            have := Reg.minus_le a o'' q
            rw [ext_off (F.mu _ _ e').1 (F.mu _ _ e').2.1] at this; (have q_ := oNS this; clear this; exact q_.elim)
        · refine ⟨e, Reg.minus_off h, ?_⟩
          rcases p.new a h with q | q
          · obtain ⟨o', e', _⟩ := S.obj q; exact .inl ⟨o', e'⟩
          · exact .inr q
      · simp only [ha, if_false] at e
        have ha1 : a ∉ frs Out := fun h => ha (List.mem_append_left _ h)
        have ha2 : a ∉ Z'.all σ' := fun h => ha (List.mem_append_right _ h)
        obtain ⟨h1, h2, h3, h4⟩ := F.mu a o e
        have hz : a ∉ Z.all σ := fun h => ha2 (p.old a h)
        refine ⟨pk.get (fun h => ?_) h1, ?_, .inl ⟨o, e⟩⟩
        · rcases List.mem_cons.mp h with h | h
          · exact h3 (h ▸ F.ew.locW)
          · rcases List.mem_append.mp h with h | h
            · exact ha1 h
            · exact hz h
        · cases q : ((R.ext s.heap s'.heap).minus (Z'.all σ')) a with
          | none => rfl
          | some o' =>
            have := Reg.minus_le a o' q
            rw [ext_off h1 h2] at this; (have q_ := oNS this; clear this; exact q_.elim)
  refine h v s' _ _ Z' σ' d hP p.self reg p.val F' (p.at'.on fun a o ha e => by simp only [List.mem_append_right (frs Out) ha, if_true]; exact e) p.new p.old (fun a o ha e => ?_) fun a ha o e => ?_
  · have hn : a ∉ frs Out ++ Z'.all σ' := fun h => by
      rcases List.mem_append.mp h with h | h
      · exact ha (List.mem_append_right _ h)
      · rcases p.new a h with q | q
        · exact ha (List.mem_append_left _ q)
        · rw [(F.mu a o e).1] at q; (have q_ := oSN q; clear q; exact q_.elim)
    simp only [hn, if_false]; exact e
  · obtain ⟨sl, e'⟩ := pf a (List.mem_cons_of_mem _ ha) o (F.mu _ _ e).1
    exact ⟨sl, by simp only [List.mem_append_left (Z'.all σ') ha, if_true]; exact e'⟩
theorem Fra.fmeth0 {Out : List Env} {o : Expr} {ap pos : Pos} {P : Srt → Sd → Dat → Prop} {Qv : Value → Shared → Prop} (F : Fra C s₀ R₀ V sc env W s R Mu Δ) (rm : Room n A) (B : Base C K) (O : MethA K cT name f) (hfr : A.frames = some (env :: Out)) (hf : env.frame = some env.locals) (Lv : Live Out Mu) (dis : ∀ a ∈ frs Out, a ∉ Z.all σ) (S : SAt C cT cN Mu Z σ) (hd : Mu Z.d = some od) (hl : lookIn name od = some none)
    (ho : Ev (C.at Mu) n sc Δ o (.val (.ref Z.s))) (hc : FCall C cT cN n f [] Z σ P)
    (h : ∀ v s' R' Mu' Z' σ' d, P Z' σ' d → Z'.s = Z.s → R.le R' → Rd R' v d → Fra C s₀ R₀ V sc env W s' R' Mu' Δ → SAt C cT cN Mu' Z' σ' → (∀ a ∈ Z'.all σ', a ∈ Z.all σ ∨ s.heap.get? a = none) → (∀ a ∈ Z.all σ, a ∈ Z'.all σ') → Reg.keepsOff (Z.all σ ++ frs Out) Mu Mu' → UpTo (frs Out) Mu Mu' → Qv v s')
    {pl : Sem Bool} (hm : eval (.Call (.Attribute o name ap) [] [] pos) env = (do
      let ov ← eval o env
      standAt ap.atName
      let (f, first) ← holding [ov] (getMethod ov name pl)
      callWith pos f first (backTo pos (starEach [] env)) (backToKw pos (keywordEach [] env))) := by rfl) :
    wpAny C.M A (eval (.Call (.Attribute o name ap) [] [] pos) env) Qv E s := by
  refine meth_run0 B O F rm ho S.s hd hl (fun s₁ R₁ l₁ k₁ F₁ => ?_) (pl := pl) hm
  refine F₁.fcall rm hfr hf Lv dis S hc .nil fun v s' R' Mu' Z' σ' d hP hs l hv F' S' hn ho hk hu => h v s' R' Mu' Z' σ' d hP hs (l₁.trans l) hv F' S' (fun a ha => ?_) ho hk hu
  rcases hn a ha with q | q
  · exact .inl q
  · right
    cases z : s.heap.get? a with
    | none => rfl
    | some o => rw [Keeps.hle k₁ _ _ z] at q; (have q_ := oSN q; clear q; exact q_.elim)
end
end Mine
end
noncomputable section
open PySem PySem.W PyProof.Rows PySem.SeqAt PySem.MeetsSeq
set_option Elab.async false
set_option autoImplicit false
set_option maxRecDepth 100000
namespace Mine
section
variable {M : Model} {A : Around} {E : Value → Shared → Prop} {s : Shared}
theorem callWith_wrap0 {pos : Pos} {env : Env} {q I : Addr} {Q : Value → Shared → Prop} (ho : s.heap.get? q = some (wrapObj I)) (h : wpAny M A (call (.ref q) []) Q E s) :
    wpAny M A (callWith pos (.ref q) [] (backTo pos (starEach [] env)) []) Q E s := by
  show wpAny M A (callWith pos (.ref q) [] [] []) Q E s
  unfold callWith
  refine wpAny_bind (wpAny_holding (PyProof.Rows.evalArgs_none (wpAny_bind (wpAny_standAt ?_))))
  simp only [List.any_nil, Bool.or_false]
  refine wpAny_bind (m := keeperOf (.ref q)) ?_
  unfold keeperOf
  refine wpAny_bind (wpAny_load ho ?_)
  dsimp only
  rw [if_pos (by decide)]
  refine wpAny_pure ?_
  exact wpAny_bind (wpAny_mono (by simpa using h) (fun r s₂ hr => wpAny_bind (wpAny_holding (wpAny_point (wpAny_pure hr)))) fun _ _ x => x)
end
section
variable {C : Cx} {s₀ : Shared} {R₀ : Reg} {V : List Addr} {sc : Scope} {env : Env} {W : List Addr} {s s' : Shared} {R R' Mu Mu' : Reg} {Δ Δ' : Vars} {n : Nat} {A : Around} {E : Value → Shared → Prop} {Q : Flow → Shared → Prop}
theorem fn_callF {a : Addr} {fd : FuncData} {xs : List Str} {body : List Stmt} {vs : List Value} {ds : List Dat} {Rs : Result → Shared → Prop} (f : FnC C a fd xs body) (rm : Room (n + 1) A) (ro : Rok (C.at noM) R s.heap) (hb : Bnd C fd vs xs ds R s) (hl : xs.length = ds.length)
    (h : ∀ env W s' R', env.scope = fd.scope → env.frame = some env.locals → Room n (A.deeper env) → Fra C s R [] fd.scope env W s' R' noM (updAll noV xs ds) → wpAny C.M (A.deeper env) (execs body env) (fun fl s₂ => Rs (.ok (.ret (match fl with | .ret v => v | _ => .none))) s₂)
      (fun e s' => wpAny C.M (A.deeper env) (leaving env e) (fun _ s'' => Rs (.error e) s'') (fun e' s'' => Rs (.error e') s'') s') s') :
    codeAny C.M A (.call (.ref a) ⟨vs, []⟩) Rs s := by
  obtain ⟨o, ho, hd⟩ := f.at'
  have k0 := ro.hle0
  refine codeAny_call_function rm.lt (k0 _ _ ho) hd f.co f.gen f.body' (f.code.keeps k0) ?_
  refine noE (hb _) fun b s₁ p => ?_
  obtain ⟨k, us, rfl, hr⟩ := p
  rw [f.glob, f.clo, f.bui]
  have r₁ := ro.ext (Keeps.hle k)
  refine fn_frame r₁ f.kind f.uniq CloOk.none hr hl f.par fun env W s' e1 e2 e3 e4 _ F => ⟨?_, ?_⟩
  · exact f.nolimit.keeps F.ro.hle0
  · exact codeAny_func (h env W s' _ e1 e2 rm.deeper (F.back k ro.on))
theorem fcall_fn {cT cN a : Addr} {fd : FuncData} {xs : List Str} {body : List Stmt} {ds es : List Dat} {Z : Srt} {σ : Sd} {P : Srt → Sd → Dat → Prop} (f : FnC C a fd xs body) (hl : xs.length = es.length)
    (hb : ∀ R s vs, R.on s.heap → Rok (C.at noM) R s.heap → RdAll R vs ds → Bnd C fd (.ref Z.s :: vs) xs es R s)
    (h : ∀ A Out env W s₀ s R R₁ Mu, env.scope = fd.scope → env.frame = some env.locals → A.frames = some (env :: Out) → Live Out Mu → (∀ a ∈ frs Out, a ∉ Z.all σ) → Room n A → Fra C s₀ R (frs Out ++ Z.all σ) fd.scope env W s R₁ Mu (updAll noV xs es) → SAt C cT cN Mu Z σ →
      wpAny C.M A (execs body env) (fun fl s₂ => ∃ R₂ Mu₂ Δ₂ Z' σ' d, Fra C s₀ R (frs Out ++ Z.all σ) fd.scope env W s₂ R₂ Mu₂ Δ₂ ∧ UpTo (frs Out) Mu Mu₂ ∧ SAt C cT cN Mu₂ Z' σ' ∧ P Z' σ' d ∧ Z'.s = Z.s ∧ (∀ a ∈ Z'.all σ', a ∈ Z.all σ ∨ s₀.heap.get? a = none) ∧ (∀ a ∈ Z.all σ, a ∈ Z'.all σ') ∧ Rd R₂ (match (motive := Flow → Value) fl with | .ret v => v | _ => .none) d) NoE s) :
    FCall C cT cN (n + 1) a ds Z σ P := by
  intro A Out s R vs rm hfr Lv ro hr S hR hO
  refine wpAny_call (fn_callF f rm ro (hb R s vs ro.on ro hr) hl fun env W s' R' e ef rm' F => ?_)
  have hVo : ∀ a ∈ frs Out ++ Z.all σ, ∃ o, s.heap.get? a = some o := fun a ha => by
    rcases List.mem_append.mp ha with q | q
    · obtain ⟨o, e, _⟩ := Lv.obj q; exact ⟨o, e⟩
    · obtain ⟨o, e, _⟩ := S.obj q; exact ⟨o, e⟩
  have F' : Fra C s R (frs Out ++ Z.all σ) fd.scope env W s' R' (fun a => if a ∈ frs Out ++ Z.all σ then s.heap.get? a else none) (updAll noV xs es) := F.lent (fun a ha => by
    cases q : R' a with
    | none => rfl
    | some o =>
      rcases F.sub a o q with h | h
      · rcases List.mem_append.mp ha with q | q
        · rw [(hO a q).1] at h; (have q_ := oNS h; clear h; exact q_.elim)
        · rw [hR a q] at h; (have q_ := oNS h; clear h; exact q_.elim)
      · obtain ⟨o', e'⟩ := hVo a ha; rw [e'] at h; (have q_ := oSN h; clear h; exact q_.elim)) hVo
  have U0 : UpTo (frs Out) s.heap.get? (fun a => if a ∈ frs Out ++ Z.all σ then s.heap.get? a else none) := .of fun a ha o e => by simp only [List.mem_append_left (Z.all σ) ha, if_true]; exact e
  refine noE (h _ Out env W s s' R R' _ e ef (Around.frames_deeper hfr) (Lv.up U0) (fun a ha => (hO a ha).2) rm' F' (S.on fun a o ha e => by simp only [List.mem_append_right (frs Out) ha, if_true]; exact e)) fun fl s₂ p => ?_
  obtain ⟨R₂, Mu₂, Δ₂, Z', σ', d, F₂, U, S₂, hP, hs, hn, ho, hv⟩ := p
  refine ⟨Z', σ', d, hP, hs, F₂.keep, fun a ha o e => ?_, S₂.on fun a o _ e => (F₂.mu a o e).1, hn, ho, hv.mono fun b ob e => ?_⟩
  · obtain ⟨sl, q⟩ := (U0.trans U) a ha o e
    exact ⟨sl, (F₂.mu _ _ q).1⟩
  refine Reg.minus_some (fun hb => ?_) ?_
  · obtain ⟨o', e', _⟩ := S₂.obj hb
    rw [(F₂.mu b o' e').2.1] at e; (have q_ := oNS e; clear e; exact q_.elim)
  · have on := F₂.ro.on b ob e
    rcases F₂.sub b ob e with q | q
    · simp only [Reg.ext, ro.on b ob q]; exact q
    · simp only [Reg.ext, q]; exact on
theorem st_whileE {test : Expr} {body orelse rest : List Stmt} {p : Pos} (I : Nat → Shared → Prop) (k : Nat) (h0 : I k s)
    (turn : ∀ k s', I k s' → wpAny C.M A (isTrue test env (eval test env)) (fun b s₁ => if b then wpAny C.M A (execs body env) (fun f s₂ => match f with
        | .next | .cont => ∃ m, m < k ∧ I m s₂
        | .brk => wpAny C.M A (execs rest env) Q E s₂
        | .ret v => Q (.ret v) s₂) NoE s₁ else wpAny C.M A (execs orelse env) (fun f s₂ => match f with | .next => wpAny C.M A (execs rest env) Q E s₂ | f => Q f s₂) NoE s₁) NoE s') :
    wpAny C.M A (execs (.While test body orelse p :: rest) env) Q E s := by
  refine wpAny_execs_cons (wpAny_While (codeAny_whileLoop I (fun m s' hI => ?_) k h0))
  refine noE (turn m s' hI) fun b s₁ h₁ => ?_
  cases b with
  | true =>
    simp only [if_true] at h₁ ⊢
    refine noE h₁ fun f s₂ h₂ => ?_
    cases f <;> exact h₂
  | false =>
    simp only [Bool.false_eq_true, if_false] at h₁ ⊢
    exact noE h₁ fun f s₂ h₂ => h₂
theorem st_list_new {x : Str} {p lp q : Pos} {rest : List Stmt} (F : Fra C s₀ R₀ V sc env W s R Mu Δ)
    (k : ∀ s' R' l, R.le R' → s.heap.get? l = none → s.heap.objs.size ≤ l → Fra C s₀ R₀ V sc env W s' R' (Mu.set l (lstObj [] 0)) (upd Δ x (.val (.ref l))) → wpAny C.M A (execs rest env) Q E s')
    (hs : swapsWith (.List [] lp) (some (.Name x p)) q.line env = pure false := by rfl) (hx : sc.names.lookup x = some .local ∨ sc.names.lookup x = some .cell := by first | exact Or.inl rfl | exact Or.inr rfl) :
    wpAny C.M A (execs (.Assign [.Name x p] (.List [] lp) q :: rest) env) Q E s := by
  refine wpAny_execs_cons (wpAny_Assign_Name (wpAny_List (wpAny_items_nil ⟨by simp, ?_⟩)) hs)
  obtain ⟨R₁, l₁, _, F₁⟩ := F.made (lstObj [] 0) rfl
  exact F₁.store (.val _) (fun s' _ F' => k s' _ _ l₁ fresh_none (Nat.le_refl _) F') hx
theorem st_dict_new {x : Str} {p lp q : Pos} {rest : List Stmt} (F : Fra C s₀ R₀ V sc env W s R Mu Δ)
    (k : ∀ s' R' l, R.le R' → s.heap.get? l = none → s.heap.objs.size ≤ l → Fra C s₀ R₀ V sc env W s' R' (Mu.set l emptyDict) (upd Δ x (.val (.ref l))) → wpAny C.M A (execs rest env) Q E s')
    (hs : swapsWith (.Dict [] [] lp) (some (.Name x p)) q.line env = pure false := by rfl) (hx : sc.names.lookup x = some .local ∨ sc.names.lookup x = some .cell := by first | exact Or.inl rfl | exact Or.inr rfl) :
    wpAny C.M A (execs (.Assign [.Name x p] (.Dict [] [] lp) q :: rest) env) Q E s := by
  refine wpAny_execs_cons (wpAny_Assign_Name (wpAny_Dict_empty ?_) hs)
  obtain ⟨R₁, l₁, _, F₁⟩ := F.made emptyDict rfl
  exact F₁.store (.val _) (fun s' _ F' => k s' _ _ l₁ fresh_none (Nat.le_refl _) F') hx
theorem st_set_new {x f : Str} {p fp cp q : Pos} {rest : List Stmt} (F : Fra C s₀ R₀ V sc env W s R Mu Δ) (rm : Room n A) (hf : Ev (C.at Mu) n sc Δ (.Name f fp) (.val (.type "set")))
    (k : ∀ s' R' l o, R.le R' → s.heap.get? l = none → o.SetObjOf (iK C) (fun _ => false) 0 → Fra C s₀ R₀ V sc env W s' R' (Mu.set l o) (upd Δ x (.val (.ref l))) → wpAny C.M A (execs rest env) Q E s')
    (hs : swapsWith (.Call (.Name f fp) [] [] cp) (some (.Name x p)) q.line env = pure false := by rfl) (hx : sc.names.lookup x = some .local ∨ sc.names.lookup x = some .cell := by first | exact Or.inl rfl | exact Or.inr rfl) :
    wpAny C.M A (execs (.Assign [.Name x p] (.Call (.Name f fp) [] [] cp) q :: rest) env) Q E s := by
  refine wpAny_execs_cons (wpAny_Assign_Name (Call_ (F.ev rm hf fun fv s₁ R₁ l₁ k₁ hv F₁ => ?_)) hs)
  (have q_ := Rd.valE hv; clear hv; subst q_)
  refine callWith_type0 (call_set_0 fun led => ?_)
  obtain ⟨R₂, l₂, _, F₂⟩ := F₁.made { cls := .type "set", dict := none, data := .set #[] 0 (.fresh 0 0 led) } rfl
  refine F₂.store (.val _) (fun s' _ F' => k s' _ _ _ (l₁.trans l₂) ?_ (setObjOf_fresh led) F') hx
  cases z : s.heap.get? s₁.heap.objs.size with
  | none => rfl
  | some o => have := Keeps.hle k₁ _ _ z; rw [fresh_none] at this; (have q_ := oNS this; clear this; exact q_.elim)
theorem op_in_set {D : Addr} {od : Obj} {S : Int → Bool} {m : Nat} {k : Int} (hD : C.mu D = some od) (hk : od.SetObjOf (iK C) S m) (hm : m < scanBound) : Op2 C n (compareOp .In) (.int k) (.val (.ref D)) (.bool (S k)) := by
  intro A s R v₁ v₂ rm ro h₁ h₂
  (have q_ := Rd.intE h₁; clear h₁; obtain ⟨_, rfl⟩ := q_); (have q_ := Rd.valE h₂; clear h₂; subst q_)
  exact wpAny_inSet_of (knd := iK C) (intKind_is _ _ _ _) rfl (hk.setOf (ro.mu _ _ hD) hm) ⟨Keeps.toks _ _, .bool _⟩
theorem op_in_dict {D : Addr} {od : Obj} {kvs : List (Int × Value)} {k : Int} (hD : C.mu D = some od) (hk : od.IsDictOf (iK C) kvs) (hds : (D == sysModules) = false) : Op2 C n (compareOp .In) (.int k) (.val (.ref D)) (.bool (valueAt kvs k).isSome) := by
  intro A s R v₁ v₂ rm ro h₁ h₂
  (have q_ := Rd.intE h₁; clear h₁; obtain ⟨_, rfl⟩ := q_); (have q_ := Rd.valE h₂; clear h₂; subst q_)
  exact wpAny_in_of (knd := iK C) (intKind_is _ _ _ _) hds (dictAt_of (C := C) (ro.mu _ _ hD) hk).mapOf ⟨Keeps.toks _ _, .bool _⟩
theorem evT_mul {e : Expr} {l : Addr} {vs : List Value} {m : Nat} (he : Ev C n sc Δ e (.val (.ref l))) (hl : C.mu l = some (lstObj vs m)) (hz : vs.length ≤ sizeLine)
    (hi : ∀ env whole, isTrue e env whole = (do let v ← whole; standAt e.pos; holding [v] (truthy v)) := by intro _ _; rfl) : EvT C n sc Δ e (!vs.isEmpty) := by
  refine evT_plain he (fun A s R v rm ro hv => ?_) hi
  (have q_ := Rd.valE hv; clear hv; subst q_)
  refine wpAny_truthy_list (items := vs.toArray) ⟨_, ro.mu _ _ hl, rfl, m, rfl⟩ (by rw [sizeLine_val] at hz; simp; omega) ⟨Keeps.toks _ _, ?_⟩
  simp
theorem call_len_mul {l : Addr} {vs : List Value} {m : Nat} {x : Str} {np p : Pos} {e : Expr} (hf : Ev C n sc Δ (.Name x np) (.val (.builtin "len"))) (he : Ev C n sc Δ e (.val (.ref l))) (hl : C.mu l = some (lstObj vs m)) (hz : vs.length ≤ sizeLine)
    (hs : ∀ env, starEach [e] env = [(false, eval e env)] := by intro _; rfl) : Ev C n sc Δ (.Call (.Name x np) [e] [] p) (.int vs.length) := by
  intro A env s R rm ro eo
  refine Call_ (noE (hf A env s R rm ro eo) fun f s₁ p₁ => ?_)
  have hf' := p₁.2
  (have q_ := Rd.valE hf'; clear hf'; subst q_)
  have k₁ := Keeps.hle p₁.1
  refine callWith_method1 (first := []) (wpAny_items_cons (noE (he A env s₁ _ rm (ro.ext k₁) (eo.ext ro k₁)) fun v s₂ p₂ => wpAny_items_nil ?_) (hs env)) (hs env) rfl
  have hv := p₂.2
  (have q_ := Rd.valE hv; clear hv; subst q_)
  have r₂ := (ro.ext k₁).ext (Keeps.hle p₂.1)
  have hL : s₂.heap.IsList l vs.toArray := ⟨_, r₂.mu _ _ hl, rfl, m, rfl⟩
  refine Calls.call_len_list hL (by rw [sizeLine_val] at hz; simp; omega) ?_
  refine ⟨Keeps.tr (Keeps.tr p₁.1 p₂.1) (Keeps.toks s₂ _), ?_⟩
  simp only [List.size_toArray]
  exact .int _ _
end
end Mine
end
noncomputable section
open PySem PySem.W PyProof.Rows PySem.SeqAt PySem.MeetsSeq
set_option Elab.async false
set_option autoImplicit false
set_option maxRecDepth 100000
namespace Mine
theorem stop_exc : isSubtype (.type "StopIteration") (.type "BaseException") = pure true := by rw [isSubtype_type]; kernel_rfl
theorem stop_self : isSubtype (.type "StopIteration") (.type "StopIteration") = pure true := by rw [isSubtype_type]; kernel_rfl
theorem stop_nt : isSubtype (.type ((Manifest.find? "StopIteration").elim "type" fun x => x.metatype)) (.type "tuple") = pure false := by rw [isSubtype_type]; kernel_rfl
noncomputable def ItAt (o : Obj) (l : Addr) (i : Nat) : Prop := o.cls = .type "list_iterator" ∧ o.data = .fields #[.ref l, .int i 0]
section
variable {C : Cx} {s₀ : Shared} {R₀ : Reg} {V : List Addr} {sc : Scope} {env : Env} {W : List Addr} {s s' : Shared} {R R' Mu Mu' : Reg} {Δ Δ' : Vars} {n : Nat} {A : Around} {E : Value → Shared → Prop} {Q : Flow → Shared → Prop}
theorem mset_add {o e : Expr} {ap pos : Pos} {l : Addr} {od : Obj} {S : Int → Bool} {m : Nat} {k : Int} {Qv : Value → Shared → Prop} (F : Fra C s₀ R₀ V sc env W s R Mu Δ) (rm : Room n A) (ho : Ev (C.at Mu) n sc Δ o (.val (.ref l))) (he : Ev (C.at Mu) n sc Δ e (.int k)) (hl : Mu l = some od) (hk : od.SetObjOf (iK C) S m) (hz : m + 1 < scanBound)
    (h : ∀ s₁ R₁ od', R.le R₁ → od'.SetObjOf (iK C) (fun j => S j || decide (j = k)) (if S k then m else m + 1) → Fra C s₀ R₀ V sc env W s₁ R₁ (Mu.set l od') Δ → Qv .none s₁)
    (hline : (ap.endLine == pos.line) = true := by rfl) (hbase : attributeBase o (Str.ofString "add") env (eval o env) = eval o env := by rfl) (hs : starEach [e] env = [(false, eval e env)] := by rfl) :
    wpAny C.M A (eval (.Call (.Attribute o (Str.ofString "add") ap) [e] [] pos) env) Qv E s := by
  refine wpAny_Call_method1_late hbase hline (by rw [hs]; rfl) (noE (ho A env s R rm F.rom F.eo) fun ov s₁ p₁ => ?_)
  have h1 := p₁.2
  (have q_ := Rd.valE h1; clear h1; subst q_)
  have F₁ := F.ext p₁.1
  have hS₁ : s₁.heap.SetOf (iK C) l S m := hk.setOf (F₁.rom.mu _ _ hl) (by omega)
  refine ⟨"set", "set.add", PySem.F.plainAttrs_set, PySem.F.slot_set_add, PySem.F.type_set_add, hS₁.typeIs, hS₁.noDict, ?_⟩
  have he' : backTo pos (starEach [e] env) = [(false, eval e env)] := by rw [hs]; rfl
  rw [← he']
  refine callWith_method1 (wpAny_items_cons (noE (he A env s₁ _ rm F₁.rom F₁.eo) fun v s₂ p₂ => wpAny_items_nil ?_) hs) hs rfl
  have F₂ := F₁.ext p₂.1
  have h2 := p₂.2
  (have q_ := Rd.intE h2; clear h2; obtain ⟨_, rfl⟩ := q_)
  refine call_set_add (knd := iK C) (intKind_is _ _ _ _) rfl (hk.setOf (F₂.rom.mu _ _ hl) (by omega)) hz fun h' hsb hS' => ?_
  obtain ⟨od', hod', hk'⟩ := hS'.objOf
  refine h _ _ od' ((Reg.ext_le F.ro.on).trans (Reg.ext_le F₁.ro.on)) hk' (F₂.mut hl (fun v q => ?_) hsb hod')
  obtain ⟨es, ep, t, hc, hd, _⟩ := id hk
  rw [hd] at q; cases q
theorem st_dset {o i e : Expr} {sp pos : Pos} {D : Addr} {od : Obj} {kvs : List (Int × Value)} {k : Int} {d : Dat} {rest : List Stmt} (F : Fra C s₀ R₀ V sc env W s R Mu Δ) (rm : Room n A) (ho : Ev (C.at Mu) n sc Δ o (.val (.ref D))) (hi : Ev (C.at Mu) n sc Δ i (.int k)) (he : Ev (C.at Mu) n sc Δ e d) (hD : Mu D = some od) (hk : od.IsDictOf (iK C) kvs) (hz : kvs.length ≤ sizeLine)
    (h : ∀ s₁ R₁ v od', R.le R₁ → Rd R₁ v d → od'.IsDictOf (iK C) (stored kvs k v) → Fra C s₀ R₀ V sc env W s₁ R₁ (Mu.set D od') Δ → wpAny C.M A (execs rest env) Q E s₁)
    (hs : swapsWith e (some (.Subscript o i sp)) pos.line env = pure false := by rfl) :
    wpAny C.M A (execs (.Assign [.Subscript o i sp] e pos :: rest) env) Q E s := by
  refine wpAny_execs_cons (wpAny_Assign_Subscript (F.ev rm he fun v s₁ R₁ l₁ k₁ hv F₁ => F₁.ev rm ho fun ov s₂ R₂ l₂ k₂ hov F₂ => F₂.ev rm hi fun iv s₃ R₃ l₃ k₃ hiv F₃ => ?_) hs)
  (have q_ := Rd.valE hov; clear hov; subst q_)
  (have q_ := Rd.intE hiv; clear hiv; obtain ⟨_, rfl⟩ := q_)
  refine wpAny_setItem_pairs (knd := iK C) (intKind_is _ _ _ _) (dictAt_of (C := C) (F₃.rom.mu _ _ hD) hk) (fun h' hdict hsb => ?_) hz
  obtain ⟨od', hD', hdo'⟩ := Heap.dictOf_iff.mp hdict
  exact h _ R₃ v od' (l₁.trans (l₂.trans l₃)) (hv.mono (l₂.trans l₃)) hdo' (F₃.mut (tk := s₃.toks + 1) hD (fun v q => by obtain ⟨es, ep, _, hde, _⟩ := hk; rw [hde] at q; cases q) hsb hD')
theorem Fra.nextOf {f : Str} {fp cp ap : Pos} {e : Expr} {l : Addr} {vs : List Value} {m : Nat} {Qv : Value → Shared → Prop} (F : Fra C s₀ R₀ V sc env W s R Mu Δ) (rm : Room n A) (hf : Ev (C.at Mu) n sc Δ (.Name f fp) (.val (.builtin "iter"))) (he : Ev (C.at Mu) n sc Δ e (.val (.ref l))) (hl : Mu l = some (lstObj vs m))
    (h : ∀ s₁ R₁ I q oI, R.le R₁ → s.heap.get? I = none → ItAt oI l 0 → R₁ q = some (wrapObj I) → Fra C s₀ R₀ V sc env W s₁ R₁ (Mu.set I oI) Δ → Qv (.ref q) s₁)
    (hs : starEach [e] env = [(false, eval e env)] := by rfl)
    (hev : eval (.Attribute (.Call (.Name f fp) [e] [] cp) (Str.ofString "__next__") ap) env = (do
      let o ← eval (.Call (.Name f fp) [e] [] cp) env
      standAt ap.atName
      let r ← holding [o] (getAttr o (Str.ofString "__next__") true)
      letTemporaryGo (.Call (.Name f fp) [e] [] cp) o r
      pure r) := by with_unfolding_all rfl) :
    wpAny C.M A (eval (.Attribute (.Call (.Name f fp) [e] [] cp) (Str.ofString "__next__") ap) env) Qv E s := by
  refine Attribute_any_ (Call_ (F.ev rm hf fun fv s₁ R₁ l₁ k₁ hfv F₁ => ?_)) hev
  (have q_ := Rd.valE hfv; clear hfv; subst q_)
  refine callWith_method1 (first := []) (wpAny_items_cons (F₁.ev rm he fun v s₂ R₂ l₂ k₂ hv F₂ => wpAny_items_nil ?_) hs) hs rfl
  (have q_ := Rd.valE hv; clear hv; subst q_)
  have hL : s₂.heap.IsList l vs.toArray := ⟨_, F₂.rom.mu _ _ hl, rfl, m, rfl⟩
  refine Calls.call_function_entry (by decide +kernel) (by decide +kernel) kdk_entry_iter (kdk_args_iter _) ?_
  unfold Builtin.«iter»
  refine wpAny_bind (m := someArgs "iter" 1 2 _) (wpAny_of_eq (a := [Value.ref l]) (by first | rfl | kernel_rfl!) ?_)
  show wpAny _ _ (pyIter (.ref l) >>= _) _ _ _
  refine wpAny_bind (wpAny_pyIter_list hL (wpAny_pure ⟨_, rfl, ?_⟩))
  obtain ⟨R₃, l₃, _, F₃⟩ := F₂.made { cls := .type "list_iterator", data := .fields #[.ref l, .int 0 0] } rfl
  have hI := (F₃.mu _ _ (Reg.set_self _ _ _)).1
  refine getAttr_next hI rfl rfl ⟨_, rfl⟩ ?_
  have kq : Keeps { s₂ with heap := s₂.heap.push { cls := .type "list_iterator", data := .fields #[.ref l, .int 0 0] } } { s₂ with heap := (s₂.heap.push { cls := .type "list_iterator", data := .fields #[.ref l, .int 0 0] }).push (wrapObj s₂.heap.objs.size), toks := s₂.toks + 1 } := ⟨_, s₂.toks + 1, rfl, fun _ _ e => Heap.get?_push_of_some _ e⟩
  refine h _ _ s₂.heap.objs.size _ _ (l₁.trans (l₂.trans (l₃.trans (Reg.ext_le F₃.ro.on)))) ?_ ⟨rfl, rfl⟩ (Reg.new_ext fresh_none (Heap.get?_push_size _ rfl)) (F₃.ext kq)
  cases z : s.heap.get? s₂.heap.objs.size with
  | none => rfl
  | some o => have := Keeps.hle (Keeps.tr k₁ k₂) _ _ z; rw [fresh_none] at this; (have q_ := oNS this; clear this; exact q_.elim)
theorem op_last {v i : Expr} {l : Addr} {vs : List Value} {x : Value} {m : Nat} (hl : C.mu l = some (lstObj (vs ++ [x]) m)) (hz : vs.length < sizeLine)
    (hs : ∀ o u, subscripted i false o (.int (-1) u) = operate [o, .int (-1) u] (getItem o (.int (-1) u)) := by intro _ _; rfl) : Op2 C n (subscriptTail v i) (.val (.ref l)) (.int (-1)) (.val x) := by
  intro A s R v₁ v₂ rm ro h₁ h₂
  (have q_ := Rd.valE h₁; clear h₁; subst q_)
  (have q_ := Rd.intE h₂; clear h₂; obtain ⟨_, rfl⟩ := q_)
  have t : s.heap.IsList l (vs ++ [x]).toArray := ⟨_, ro.mu _ _ hl, rfl, m, rfl⟩
  exact tail_any t.typeIs slot_list_getitem.lookup (wpAny_getItem_list_neg t (by decide) (by simp; omega) (by decide) (by
    have : (-1 + (((vs ++ [x]).toArray.size : Nat) : Int)).toNat = vs.length := by simp only [List.size_toArray, List.length_append, List.length_cons, List.length_nil]; omega
    rw [this]; simp) (Post.pure ro (.val _))) (hs _ _)
theorem st_try_next {Out : List Env} {x it f : Str} {xp np cp up sp kp qp bp fp hp tp : Pos} {kk : Nat} {b₀ : Stmt} {suite rest : List Stmt} {l q I lst : Addr} {vs ws : List Value} {m m₂ i : Nat} {oI : Obj} {su : List Nat}
    (F : Fra C s₀ R₀ V sc env W s R Mu Δ) (rm : Room n A) (hfr : A.frames = some (env :: Out)) (hf : env.frame = some env.locals) (Lv : Live Out Mu) (hit : Δ it = some (.val (.ref l))) (hl : Mu l = some (lstObj (vs ++ [.ref q]) m)) (hz : vs.length < sizeLine) (hq : R q = some (wrapObj I)) (hI : Mu I = some oI) (hIt : ItAt oI lst i) (hIo : I ∉ frs Out)
    (hls : Mu lst = some (lstObj ws m₂)) (hws : RdAll noM ws (encN su)) (gs : GlobIs C f (.type "StopIteration")) (hfk : sc.names.lookup f = some .globalImplicit)
    (more : ∀ y, su[i]? = some y → ∀ s' R' o', R.le R' → ItAt o' lst (i + 1) → Fra C s₀ R₀ V sc env W s' R' (Mu.set I o') (upd Δ x (.int y)) → Q .brk s')
    (stop : su[i]? = none → ∀ s' R' Mu' e, R.le R' → Fra C s₀ R₀ V sc env W s' R' Mu' Δ → Reg.keepsOff (I :: frs Out) Mu Mu' → UpTo (frs Out) Mu Mu' → wpAny C.M (A.mark (some (.ref e))) (execs (b₀ :: suite) env) (fun f s₂ => match f with | .next => wpAny C.M A (execs rest env) Q E s₂ | f => Q f s₂) NoE s')
    (hx : sc.names.lookup x = some .local ∨ sc.names.lookup x = some .cell := by first | exact Or.inl rfl | exact Or.inr rfl)
    (hxi : ((it == ("__debug__" : Str)) || (it == ("__classdict__" : Str))) = false := by decide +kernel) (hxf : (f == ("__debug__" : Str)) = false := by decide +kernel)
    (hsw : swapsWith (.Call (.Subscript (.Name it np) (.UnaryOp .USub (.Constant (.int 1) kk kp) up) sp) [] [] cp) (some (.Name x xp)) qp.line env = pure false := by rfl) :
    wpAny C.M A (execs (.Try [.Assign [.Name x xp] (.Call (.Subscript (.Name it np) (.UnaryOp .USub (.Constant (.int 1) kk kp) up) sp) [] [] cp) qp, .Break bp] [.ExceptHandler (some (.Name f fp)) none (b₀ :: suite) hp] [] [] tp :: rest) env) Q E s := by
  refine wpAny_execs_cons (wpAny_Try_except (wpAny_execs_cons (wpAny_Assign_Name (Call_ ?_) hsw)))
  have hsub : Ev (C.at Mu) n sc Δ (.Subscript (.Name it np) (.UnaryOp .USub (.Constant (.int 1) kk kp) up) sp) (.val (.ref q)) := ev_sub (ev_name hit hxi) (ev_un ev_int op_neg) (op_last hl hz)
  refine F.ev rm hsub fun v s₁ R₁ l₁ k₁ hv F₁ => ?_
  (have q_ := Rd.valE hv; clear hv; subst q_)
  have hq₁ := F₁.ro.on _ _ (l₁ _ _ hq)
  have hI₁ := (F₁.mu _ _ hI).1
  have hls₁ := (F₁.mu _ _ hls).1
  have itr : s₁.heap.IsListIter I lst i := ⟨oI, hI₁, hIt.1, hIt.2⟩
  have lsl : s₁.heap.IsList lst ws.toArray := ⟨_, hls₁, rfl, m₂, rfl⟩
  have hlen : ws.length = su.length := by rw [hws.length]; simp [encN]
  refine callWith_wrap0 hq₁ (wpAny_call (call_wrap hq₁ ?_))
  cases hsu : su[i]? with
  | some y =>
    obtain ⟨wv, hw, hwr⟩ := hws.get (k := i) (d := .int (y : Int)) (by simp [encN, hsu])
    have := hwr
    (have q_ := Rd.intE this; clear this; obtain ⟨_, rfl⟩ := q_)
    rename_i tk
    refine next_item itr lsl (x := .int (y : Int) tk) (by simpa using hw) fun h' hit' hsb => ?_
    obtain ⟨o', ho', hc', hd'⟩ := hit'
    have F₂ := F₁.mut (tk := s₁.toks) hI (fun v q => by rw [hIt.2] at q; cases q) hsb ho'
    refine F₂.store (.int _ _) (fun s₃ _ F₃ => ?_) hx
    exact wpAny_execs_cons (wpAny_Break (more y hsu s₃ R₁ o' l₁ ⟨hc', hd'⟩ F₃))
  | none =>
    have hlive := F₁.live hf Lv
    have hIl : I ≠ env.locals := fun h => (F₁.mu _ _ hI).2.2.1 (h ▸ F₁.ew.locW)
    refine next_end rm.handled itr lsl (by simp only [List.getElem?_toArray]; rw [List.getElem?_eq_none_iff] at hsu ⊢; omega) fun h' e T ext hIa he hT heT hstop => ?_
    have kb : ∀ b o, b ≠ I → s₁.heap.get? b = some o → h'.get? b = some o := fun b o hb q => ext b o hb q
    have hlive₂ : Live (env :: Out) h'.get? := hlive.up (.of fun a ha o q => kb a o (fun h => by
      rw [frs_cons hf] at ha
      rcases List.mem_cons.mp ha with ha | ha
      · exact hIl (h ▸ ha)
      · exact hIo (h ▸ ha)) q)
    refine note_first (s := { s₁ with heap := h' }) (outer := Out) hfr hlive₂.fun hf hstop fun h₂ tb mk htb fly => ?_
    have old : ∀ b, (∃ o, s₁.heap.get? b = some o) → b ≠ e ∧ b ≠ tb := fun b ⟨o, q⟩ => by
      refine ⟨(fun h => by rw [h, he] at q; (have q_ := oNS q; clear q; exact q_.elim)), fun h => ?_⟩
      by_cases hb : b = I
      · obtain ⟨o', q'⟩ := hIa
        rw [← h, hb, q'] at htb; (have q_ := oSN htb; clear htb; exact q_.elim)
      · rw [← h, kb b o hb q] at htb; (have q_ := oSN htb; clear htb; exact q_.elim)
    refine land (LS := frs Out) (s := { s₁ with heap := h₂ }) fly fun h₃ sb₃ fly₃ => ?_
    refine wpAny_handleBy_builtin stop_exc stop_nt stop_self (wpAny_Name (gs _ env _ _ _ (F₁.eo.hsc ▸ F₁.eo.fn) (by rw [← F₁.eo.hsc] at hfk; exact hfk) F₁.eo.gl F₁.eo.bl ?_ ⟨rfl, ⟨_, fly₃.1, rfl⟩, ?_⟩) hxf)
    · intro b o q
      have qR := F₁.ro.base b o q
      have q₁ := F₁.ro.on b o qR
      obtain ⟨g1, g2⟩ := old b ⟨o, q₁⟩
      refine sb₃.extBut b o g2 (mk.keep b o (fun h => ?_) g1 (kb b o (fun h => ?_) q₁))
      · change b ∈ frs (env :: Out) at h
        rw [frs_cons hf] at h
        rcases List.mem_cons.mp h with h | h
        · rw [h, F₁.ew.offR _ F₁.ew.locW] at qR; (have q_ := oNS qR; clear qR; exact q_.elim)
        · obtain ⟨o', q', _⟩ := Lv.obj h
          rw [(F₁.mu _ _ q').2.1] at qR; (have q_ := oNS qR; clear qR; exact q_.elim)
      · rw [h, (F₁.mu _ _ hI).2.1] at qR; (have q_ := oNS qR; clear qR; exact q_.elim)
    · rw [if_pos rfl]
      refine land (LS := frs Out) (s := { s₁ with heap := h₃ }) fly₃ fun h₄ sb₄ fly₄ => ?_
      have heL : e ∉ frs (env :: Out) := fun hm => by
        obtain ⟨o, q, _⟩ := hlive.obj hm
        rw [he] at q; (have q_ := oNS q; clear q; exact q_.elim)
      have keep₄ : ∀ b o, b ∉ frs (env :: Out) → b ≠ I → s₁.heap.get? b = some o → h₄.get? b = some o := fun b o hb hbI q => by
        obtain ⟨g1, g2⟩ := old b ⟨o, q⟩
        exact sb₄.extBut b o g2 (sb₃.extBut b o g2 (mk.keep b o hb g1 (kb b o hbI q)))
      have fr₄ : UpTo (frs (env :: Out)) s₁.heap.get? h₄.get? := fun b hb o q => by
        obtain ⟨g1, g2⟩ := old b ⟨o, q⟩
        have hbI : b ≠ I := fun h => by
          rw [frs_cons hf] at hb
          rcases List.mem_cons.mp hb with hb | hb
          · exact hIl (h ▸ hb)
          · exact hIo (h ▸ hb)
        obtain ⟨sl, q2⟩ := mk.fr b o hb (kb b o hbI q)
        exact ⟨sl, sb₄.extBut b _ g2 (sb₃.extBut b _ g2 q2)⟩
      have hI₄ : ∃ o, h₄.get? I = some o := by
        obtain ⟨o, q⟩ := hIa
        have hIL : I ∉ frs (env :: Out) := fun hb => by
          rw [frs_cons hf] at hb
          rcases List.mem_cons.mp hb with hb | hb
          · exact hIl hb
          · exact hIo hb
        obtain ⟨g1, g2⟩ := old I ⟨_, hI₁⟩
        exact ⟨o, sb₄.extBut I o g2 (sb₃.extBut I o g2 (mk.keep I o hIL g1 q))⟩
      rw [frs_cons hf] at keep₄ fr₄
      have F₄ : Fra C s₀ R₀ V sc env W { s₁ with heap := h₄ } (R₁.ext s₁.heap h₄) (fun a => if a ∈ I :: frs Out then h₄.get? a else Mu a) Δ := by
        refine F₁.deep (X := I :: frs Out) ⟨h₄, s₁.toks, rfl, fun b o hb q => keep₄ b o (fun h => hb ?_) (fun h => hb (by simp [h])) q⟩ (fun a ha o q => fr₄ a (by rw [List.mem_singleton.mp ha]; exact List.mem_cons_self) o q) (fun a ha => ?_) (fun a ha => ?_) (Reg.ext_le F₁.ro.on) (.refl _) fun a o q => ?_
        · rcases List.mem_cons.mp h with h | h
          · exact h ▸ List.mem_cons_self
          · exact List.mem_cons_of_mem _ (List.mem_cons_of_mem _ h)
        · rcases List.mem_cons.mp ha with rfl | ha
          · exact ⟨oI, hI, fun v q => by rw [hIt.2] at q; cases q⟩
          · exact Lv.obj ha
        · rcases List.mem_cons.mp ha with rfl | ha
          · exact hI₄
          · obtain ⟨o, q, _⟩ := Lv.obj ha
            obtain ⟨sl, q'⟩ := fr₄ a (List.mem_cons_of_mem _ ha) o (F₁.mu _ _ q).1
            exact ⟨_, q'⟩
        · by_cases ha : a ∈ I :: frs Out
          · simp only [ha, if_true] at q
            have hM : ∃ o', Mu a = some o' := by
              rcases List.mem_cons.mp ha with rfl | ha
              · exact ⟨_, hI⟩
              · obtain ⟨o, q, _⟩ := Lv.obj ha; exact ⟨o, q⟩
            obtain ⟨o', q'⟩ := hM
            exact ⟨q, ext_off (F₁.mu _ _ q').1 (F₁.mu _ _ q').2.1, .inl ⟨o', q'⟩⟩
          · simp only [ha, if_false] at q
            obtain ⟨g1, g2, g3, g4⟩ := F₁.mu _ _ q
            refine ⟨keep₄ a o (fun h => ?_) (fun h => ha (by simp [h])) g1, ext_off g1 g2, .inl ⟨o, q⟩⟩
            rcases List.mem_cons.mp h with h | h
            · exact g3 (h ▸ F₁.ew.locW)
            · exact ha (List.mem_cons_of_mem _ h)
      refine wpAny_mono (stop hsu _ _ _ e (l₁.trans (Reg.ext_le F₁.ro.on)) F₄ (fun a o ha q => by simp only [ha, if_false]; exact q) fun a ha o q => ?_) (fun f s₂ h => ?_) fun _ _ h => h.elim
      · obtain ⟨sl, q'⟩ := fr₄ a (List.mem_cons_of_mem _ ha) o (F₁.mu _ _ q).1
        exact ⟨sl, by simp only [List.mem_cons_of_mem I ha, if_true]; exact q'⟩
      · exact h
end
end Mine
end
noncomputable section
open PySem PySem.W PyProof.Rows PySem.SeqAt PySem.MeetsSeq
set_option Elab.async false
set_option autoImplicit false
set_option maxRecDepth 100000
namespace Mine
section
variable {C : Cx} {s₀ : Shared} {R₀ : Reg} {V : List Addr} {sc : Scope} {env : Env} {W : List Addr} {s s' : Shared} {R R' Mu Mu' : Reg} {Δ Δ' : Vars} {n : Nat} {A : Around} {E : Value → Shared → Prop} {Q : Flow → Shared → Prop}
theorem st_del_pop {d x : Str} {dn np ap cp sp dp : Pos} {D l : Addr} {od : Obj} {kvs : List (Int × Value)} {vs : List Value} {k : Int} {t : Tok} {m : Nat} {rest : List Stmt} (F : Fra C s₀ R₀ V sc env W s R Mu Δ) (hd : Δ d = some (.val (.ref D))) (hx : Δ x = some (.val (.ref l))) (hD : Mu D = some od) (hk : od.IsDictOf (iK C) kvs) (hz : kvs.length ≤ sizeLine) (hv : (valueAt kvs k).isSome = true)
    (hl : Mu l = some (lstObj (vs ++ [.int k t]) m)) (hlz : vs.length < sizeLine) (hne : D ≠ l)
    (h : ∀ s₁ m' od', od'.IsDictOf (iK C) (without kvs k) → Fra C s₀ R₀ V sc env W s₁ R ((Mu.set l (lstObj vs m')).set D od') Δ → wpAny C.M A (execs rest env) Q E s₁)
    (hnd : ((d == ("__debug__" : Str)) || (d == ("__classdict__" : Str))) = false := by decide +kernel) (hnx : ((x == ("__debug__" : Str)) || (x == ("__classdict__" : Str))) = false := by decide +kernel)
    (hline : (ap.endLine == cp.line) = true := by rfl) (hbase : attributeBase (.Name x np) (Str.ofString "pop") env (eval (.Name x np) env) = eval (.Name x np) env := by rfl) :
    wpAny C.M A (execs (.Delete [.Subscript (.Name d dn) (.Call (.Attribute (.Name x np) (Str.ofString "pop") ap) [] [] cp) sp] dp :: rest) env) Q E s := by
  refine wpAny_execs_cons (wpAny_Delete (wpAny_deleteEach_cons ?_))
  rw [arm_delete_Subscript]
  refine wpAny_bind (F.name hd (fun ov hov => ?_) hnd)
  (have q_ := Rd.valE hov; clear hov; subst q_)
  refine wpAny_bind (wpAny_holding (F.pop hx hl hlz (fun s₁ m' kb F₁ => ?_) hnx hline hbase))
  refine wpAny_bind (wpAny_standAt (wpAny_bind (wpAny_holding ?_)))
  have hD₁ : (Mu.set l (lstObj vs m')) D = some od := by rw [Reg.set_ne _ _ hne]; exact hD
  refine delItem_int (C := C) (F₁.rom.mu _ _ hD₁) hk hv hz fun h' od' hsb hod' hk' => ?_
  refine wpAny_release (wpAny_deleteEach_nil (h _ m' od' hk' (F₁.mut (tk := s₁.toks + 1) hD₁ (fun v q => ?_) hsb hod')))
  obtain ⟨es, ep, _, hde, _⟩ := hk; rw [hde] at q; cases q
end
structure DE where
  k : Nat
  I : Addr
  q : Addr
  i : Nat
structure Ad where
  S : Addr
  I : Addr
  N : Addr
  D : Addr
noncomputable abbrev Ad.l (a : Ad) : List Addr := [a.S, a.I, a.N, a.D]
structure DInv (C : Cx) (Z : Srt) (σ : Sd) (a : Ad) (Out : List Env) (r : Nat → Nat) (Mi R M : Reg) (st : List DE) (sn : List Nat) : Prop where
  sS : ∃ vs m, M a.S = some (lstObj vs m) ∧ RdAll noM vs (encN (st.map DE.k))
  sI : ∃ m, M a.I = some (lstObj (st.map fun e => .ref e.q) m)
  sN : ∃ o S, M a.N = some o ∧ o.SetObjOf (iK C) S sn.length ∧ ∀ k : Nat, S (k : Int) = decide (k ∈ sn)
  sD : ∃ o kvs, M a.D = some o ∧ o.IsDictOf (iK C) kvs ∧ kvs.map (·.1) = st.map (fun e => (e.k : Int))
  ent : ∀ e ∈ st, R e.q = some (wrapObj e.I) ∧ (∃ o, M e.I = some o ∧ ItAt o (Z.suc e.k) e.i) ∧ e.k ∈ σ.ks ∧ e.I ∉ a.l ++ frs Out ∧ Mi e.I = none ∧ e.k ∈ sn
  nod : (st.map DE.I).Nodup
  asc : (st.map fun e => r e.k).Pairwise (· < ·)
  sub : ∀ k ∈ sn, k ∈ σ.ks
  snod : sn.Nodup
  fr : UpTo (frs Out) Mi M
  off : Reg.keepsOff (a.l ++ frs Out) Mi M
noncomputable def rest1 (σ : Sd) (sn : List Nat) : Nat := ((σ.ks.filter fun k => decide (k ∉ sn)).map fun k => 2 + (σ.su k).length).sum
noncomputable def rest2 (σ : Sd) (st : List DE) : Nat := (st.map fun e => 1 + ((σ.su e.k).length - e.i)).sum
section
variable {C : Cx} {Z : Srt} {σ : Sd} {a : Ad} {Out : List Env} {r : Nat → Nat} {Mi R R' M M' : Reg} {st : List DE} {sn : List Nat} {k : Nat} {I q : Addr}
theorem DInv.le (h : DInv C Z σ a Out r Mi R M st sn) (l : R.le R') : DInv C Z σ a Out r Mi R' M st sn :=
  { h with ent := fun e he => let ⟨h1, h2⟩ := h.ent e he; ⟨l _ _ h1, h2⟩ }
theorem DInv.push (h : DInv C Z σ a Out r Mi R M st sn) (nd : (a.l).Nodup) (dis : ∀ b ∈ a.l, b ∉ frs Out) (hk : k ∈ σ.ks) (hks : k ∉ sn) (hr : ∀ e ∈ st, r e.k < r k) (hl : R.le R') (hq : R' q = some (wrapObj I)) {oI oN oD : Obj} {S : Int → Bool} {m1 m2 : Nat} {vs : List Value} {kvs : List (Int × Value)} {tk : Tok}
    (hI : M I = none) (hMi : Mi I = none) (hIt : ItAt oI (Z.suc k) 0) (hN : oN.SetObjOf (iK C) S (sn.length + 1)) (hS : ∀ j : Nat, S (j : Int) = decide (j ∈ sn ++ [k])) (hvs : RdAll noM vs (encN (st.map DE.k))) (hD : oD.IsDictOf (iK C) kvs) (hkv : kvs.map (·.1) = st.map (fun e => (e.k : Int)) ++ [(k : Int)])
    (hIl : I ∉ a.l ++ frs Out) :
    DInv C Z σ a Out r Mi R' (((((M.set a.N oN).set I oI).set a.I (lstObj (st.map (fun e => .ref e.q) ++ [.ref q]) m1)).set a.D oD).set a.S (lstObj (vs ++ [.int k tk]) m2)) (st ++ [⟨k, I, q, 0⟩]) (sn ++ [k]) := by
  have nd' : a.S ≠ a.I ∧ a.S ≠ a.N ∧ a.S ≠ a.D ∧ a.I ≠ a.N ∧ a.I ≠ a.D ∧ a.N ≠ a.D := by
    simp only [Ad.l, List.nodup_cons, List.mem_cons, List.not_mem_nil, or_false, not_or] at nd
    exact ⟨nd.1.1, nd.1.2.1, nd.1.2.2, nd.2.1.1, nd.2.1.2, nd.2.2.1⟩
  obtain ⟨n1, n2, n3, n4, n5, n6⟩ := nd'
  have hI4 : I ≠ a.S ∧ I ≠ a.I ∧ I ≠ a.N ∧ I ≠ a.D := by
    simp only [Ad.l, List.mem_append, List.mem_cons, List.not_mem_nil, or_false, not_or] at hIl
    exact ⟨hIl.1.1, hIl.1.2.1, hIl.1.2.2.1, hIl.1.2.2.2⟩
  obtain ⟨i1, i2, i3, i4⟩ := hI4
  have get : ∀ b, b ∉ a.l → b ≠ I → (((((M.set a.N oN).set I oI).set a.I (lstObj (st.map (fun e => .ref e.q) ++ [.ref q]) m1)).set a.D oD).set a.S (lstObj (vs ++ [.int k tk]) m2)) b = M b := fun b hb hbI => by
    simp only [Ad.l, List.mem_cons, List.not_mem_nil, or_false, not_or] at hb
    rw [Reg.set_ne _ _ hb.1, Reg.set_ne _ _ hb.2.2.2, Reg.set_ne _ _ hb.2.1, Reg.set_ne _ _ hbI, Reg.set_ne _ _ hb.2.2.1]
  refine ⟨⟨_, m2, Reg.set_self _ _ _, ?_⟩, ⟨m1, ?_⟩, ⟨oN, S, ?_, by simpa using hN, hS⟩, ⟨oD, kvs, ?_, hD, by simpa using hkv⟩, fun e he => ?_, ?_, ?_, fun j hj => ?_, ?_, fun b hb o e => ?_, fun b o hb e => ?_⟩
  · have := hvs.append (.cons (.int (k : Int) tk) .nil : RdAll noM [.int (k : Int) tk] [.int (k : Int)])
    simpa [encN] using this
  · rw [Reg.set_ne _ _ n1.symm, Reg.set_ne _ _ n5, Reg.set_self]; simp
  · rw [Reg.set_ne _ _ n2.symm, Reg.set_ne _ _ n6, Reg.set_ne _ _ n4.symm, Reg.set_ne _ _ i3.symm, Reg.set_self]
  · rw [Reg.set_ne _ _ n3.symm, Reg.set_self]
  · rcases List.mem_append.mp he with he | he
    · obtain ⟨h1, ⟨o, h2, h3⟩, h4, h5, h6, h7⟩ := h.ent e he
      refine ⟨hl _ _ h1, ⟨o, ?_, h3⟩, h4, h5, h6, List.mem_append_left _ h7⟩
      rw [get _ (fun hb => h5 (List.mem_append_left _ hb)) (fun q => by rw [q, hI] at h2; (have q_ := oNS h2; clear h2; exact q_.elim))]; exact h2
    · rw [List.mem_singleton.mp he]
      refine ⟨hq, ⟨oI, ?_, hIt⟩, hk, hIl, hMi, List.mem_append_right _ (by simp)⟩
      show (((((M.set a.N oN).set I oI).set a.I _).set a.D oD).set a.S _) I = some oI
      rw [Reg.set_ne _ _ i1, Reg.set_ne _ _ i4, Reg.set_ne _ _ i2, Reg.set_self]
  · rw [List.map_append, List.nodup_append]
    refine ⟨h.nod, by simp, fun b hb c hc => ?_⟩
    obtain ⟨e, he, rfl⟩ := List.mem_map.mp hb
    simp only [List.map_cons, List.map_nil, List.mem_singleton] at hc
    subst hc
    obtain ⟨_, ⟨o, h2, _⟩, _⟩ := h.ent e he
    intro q; rw [q, hI] at h2; (have q_ := oNS h2; clear h2; exact q_.elim)
  · rw [List.map_append, List.pairwise_append]
    refine ⟨h.asc, by simp, fun b hb c hc => ?_⟩
    obtain ⟨e, he, rfl⟩ := List.mem_map.mp hb
    simp only [List.map_cons, List.map_nil, List.mem_singleton] at hc
    subst hc
    exact hr e he
  · rcases List.mem_append.mp hj with hj | hj
    · exact h.sub j hj
    · rw [List.mem_singleton.mp hj]; exact hk
  · rw [List.nodup_append]
    refine ⟨h.snod, by simp, fun b hb c hc => ?_⟩
    rw [List.mem_singleton.mp hc]
    intro q; exact hks (q ▸ hb)
  · obtain ⟨sl, e'⟩ := h.fr b hb o e
    refine ⟨sl, ?_⟩
    rw [get b (fun hb' => dis b hb' hb) (fun q => hIl (List.mem_append_right _ (q ▸ hb)))]; exact e'
  · rw [get b (fun hb' => hb (List.mem_append_left _ hb')) (fun q => by rw [q, hMi] at e; (have q_ := oNS e; clear e; exact q_.elim))]; exact h.off b o hb e
theorem DInv.item {e : DE} {o' : Obj} (h : DInv C Z σ a Out r Mi R M (st ++ [e]) sn) (hl : R.le R') (hIt : ItAt o' (Z.suc e.k) (e.i + 1)) : DInv C Z σ a Out r Mi R' (M.set e.I o') (st ++ [{ e with i := e.i + 1 }]) sn := by
  obtain ⟨h1, h2, h3, h4, h5, h6⟩ := h.ent e (List.mem_append_right _ (by simp))
  have ne : ∀ b, b ∈ a.l ++ frs Out → b ≠ e.I := fun b hb q => h4 (q ▸ hb)
  have nl : ∀ b, b ∈ a.l → b ≠ e.I := fun b hb => ne b (List.mem_append_left _ hb)
  refine ⟨?_, ?_, ?_, ?_, fun x hx => ?_, ?_, ?_, h.sub, h.snod, fun b hb o eb => ?_, fun b o hb eb => ?_⟩
  · obtain ⟨vs, m, e1, e2⟩ := h.sS
    exact ⟨vs, m, by rw [Reg.set_ne _ _ (nl _ (by simp [Ad.l]))]; exact e1, by simpa using e2⟩
  · obtain ⟨m, e1⟩ := h.sI
    exact ⟨m, by rw [Reg.set_ne _ _ (nl _ (by simp [Ad.l]))]; simpa using e1⟩
  · obtain ⟨o, S, e1, e2⟩ := h.sN
    exact ⟨o, S, by rw [Reg.set_ne _ _ (nl _ (by simp [Ad.l]))]; exact e1, e2⟩
  · obtain ⟨o, kvs, e1, e2, e3⟩ := h.sD
    exact ⟨o, kvs, by rw [Reg.set_ne _ _ (nl _ (by simp [Ad.l]))]; exact e1, e2, by simpa using e3⟩
  · rcases List.mem_append.mp hx with hx | hx
    · obtain ⟨g1, ⟨o, g2, g3⟩, g4⟩ := h.ent x (List.mem_append_left _ hx)
      refine ⟨hl _ _ g1, ⟨o, ?_, g3⟩, g4⟩
      have nd := h.nod
      rw [List.map_append, List.nodup_append] at nd
      have := nd.2.2 x.I (List.mem_map.mpr ⟨x, hx, rfl⟩) e.I (by simp)
      rw [Reg.set_ne _ _ this]; exact g2
    · rw [List.mem_singleton.mp hx]
      exact ⟨hl _ _ h1, ⟨o', Reg.set_self _ _ _, hIt⟩, h3, h4, h5, h6⟩
  · simpa using h.nod
  · simpa using h.asc
  · obtain ⟨sl, e'⟩ := h.fr b hb o eb
    exact ⟨sl, by rw [Reg.set_ne _ _ (ne b (List.mem_append_right _ hb))]; exact e'⟩
  · rw [Reg.set_ne _ _ (fun q => by rw [q, h5] at eb; (have q_ := oNS eb; clear eb; exact q_.elim))]; exact h.off b o hb eb
theorem DInv.pop {e : DE} {oD : Obj} {vs : List Value} {kvs : List (Int × Value)} {m1 m2 : Nat} (h : DInv C Z σ a Out r Mi R M (st ++ [e]) sn) (nd : (a.l).Nodup) (dis : ∀ b ∈ a.l, b ∉ frs Out) (hl : R.le R') (ho : Reg.keepsOff (e.I :: frs Out) M M') (hu : UpTo (frs Out) M M')
    (hvs : RdAll noM vs (encN (st.map DE.k))) (hD : oD.IsDictOf (iK C) kvs) (hkv : kvs.map (·.1) = st.map (fun e => (e.k : Int))) :
    DInv C Z σ a Out r Mi R' (((M'.set a.S (lstObj vs m1)).set a.D oD).set a.I (lstObj (st.map fun e => .ref e.q) m2)) st sn := by
  have nd' : a.S ≠ a.I ∧ a.S ≠ a.N ∧ a.S ≠ a.D ∧ a.I ≠ a.N ∧ a.I ≠ a.D ∧ a.N ≠ a.D := by
    simp only [Ad.l, List.nodup_cons, List.mem_cons, List.not_mem_nil, or_false, not_or] at nd
    exact ⟨nd.1.1, nd.1.2.1, nd.1.2.2, nd.2.1.1, nd.2.1.2, nd.2.2.1⟩
  obtain ⟨n1, n2, n3, n4, n5, n6⟩ := nd'
  obtain ⟨h1, h2, h3, h4, h5, h6⟩ := h.ent e (List.mem_append_right _ (by simp))
  have get : ∀ b, b ∉ a.l → (((M'.set a.S (lstObj vs m1)).set a.D oD).set a.I (lstObj (st.map fun e => .ref e.q) m2)) b = M' b := fun b hb => by
    simp only [Ad.l, List.mem_cons, List.not_mem_nil, or_false, not_or] at hb
    rw [Reg.set_ne _ _ hb.2.1, Reg.set_ne _ _ hb.2.2.2, Reg.set_ne _ _ hb.1]
  refine ⟨⟨vs, m1, ?_, hvs⟩, ⟨m2, Reg.set_self _ _ _⟩, ?_, ⟨oD, kvs, ?_, hD, hkv⟩, fun x hx => ?_, ?_, ?_, h.sub, h.snod, fun b hb o eb => ?_, fun b o hb eb => ?_⟩
  · rw [Reg.set_ne _ _ n1, Reg.set_ne _ _ n3, Reg.set_self]
  · obtain ⟨o, S, e1, e2⟩ := h.sN
    refine ⟨o, S, ?_, e2⟩
    rw [Reg.set_ne _ _ n4.symm, Reg.set_ne _ _ n6, Reg.set_ne _ _ n2.symm]
    refine ho _ _ (fun hb => ?_) e1
    rcases List.mem_cons.mp hb with hb | hb
    · exact h4 (List.mem_append_left _ (by rw [← hb]; simp [Ad.l]))
    · exact dis _ (by simp [Ad.l]) hb
  · rw [Reg.set_ne _ _ n5.symm, Reg.set_self]
  · obtain ⟨g1, ⟨o, g2, g3⟩, g4, g5, g6⟩ := h.ent x (List.mem_append_left _ hx)
    refine ⟨hl _ _ g1, ⟨o, ?_, g3⟩, g4, g5, g6⟩
    have nd := h.nod
    rw [List.map_append, List.nodup_append] at nd
    have := nd.2.2 x.I (List.mem_map.mpr ⟨x, hx, rfl⟩) e.I (by simp)
    rw [get _ (fun hb => g5 (List.mem_append_left _ hb))]
    refine ho _ _ (fun hb => ?_) g2
    rcases List.mem_cons.mp hb with hb | hb
    · exact this hb
    · exact g5 (List.mem_append_right _ hb)
  · have := h.nod
    rw [List.map_append, List.nodup_append] at this
    exact this.1
  · have := h.asc
    rw [List.map_append, List.pairwise_append] at this
    exact this.1
  · obtain ⟨sl, e'⟩ := (h.fr.trans hu) b hb o eb
    exact ⟨sl, by rw [get b (fun hb' => dis b hb' hb)]; exact e'⟩
  · rw [get b (fun hb' => hb (List.mem_append_left _ hb'))]
    refine ho b o (fun hb' => ?_) (h.off b o hb eb)
    rcases List.mem_cons.mp hb' with hb' | hb'
    · rw [hb', h5] at eb; (have q_ := oNS eb; clear eb; exact q_.elim)
    · exact hb (List.mem_append_right _ hb')
theorem rest2_append (σ : Sd) (st : List DE) (e : DE) : rest2 σ (st ++ [e]) = rest2 σ st + (1 + ((σ.su e.k).length - e.i)) := by simp [rest2]
theorem rest1_push (σ : Sd) (sn : List Nat) (hn : σ.ks.Nodup) {k : Nat} (hk : k ∈ σ.ks) (hs : k ∉ sn) : rest1 σ (sn ++ [k]) + (2 + (σ.su k).length) = rest1 σ sn := by
  unfold rest1
  have : ∀ l : List Nat, l.Nodup → k ∈ l → ((l.filter fun j => decide (j ∉ sn ++ [k])).map fun k => 2 + (σ.su k).length).sum + (2 + (σ.su k).length) = ((l.filter fun j => decide (j ∉ sn)).map fun k => 2 + (σ.su k).length).sum := by
    intro l
    induction l with
    | nil => intro _ h; cases h
    | cons j l ih =>
      intro hl hm
      have hl' := List.nodup_cons.mp hl
      by_cases hj : j = k
      · subst hj
        have e1 : (l.filter fun i => decide (i ∉ sn ++ [j])) = l.filter fun i => decide (i ∉ sn) := by
          apply List.filter_congr
          intro i hi
          have : i ≠ j := fun q => hl'.1 (q ▸ hi)
          simp [this]
        rw [List.filter_cons_of_neg (by simp), List.filter_cons_of_pos (by simpa using hs), e1]
        simp only [List.map_cons, List.sum_cons]; omega
      · have hm' : k ∈ l := by rcases List.mem_cons.mp hm with h | h; exact absurd h.symm hj; exact h
        have := ih hl'.2 hm'
        by_cases hjs : j ∈ sn
        · rw [List.filter_cons_of_neg (by simp [hjs]), List.filter_cons_of_neg (by simpa using hjs)]; exact this
        · rw [List.filter_cons_of_pos (by simp [hjs, hj]), List.filter_cons_of_pos (by simpa using hjs)]
          simp only [List.map_cons, List.sum_cons]; omega
  exact this _ hn hk
end
end Mine
end
noncomputable section
open PySem PySem.W PyProof.Rows PySem.SeqAt PySem.MeetsSeq
set_option Elab.async false
set_option autoImplicit false
set_option maxRecDepth 100000
namespace Mine
section
variable {C : Cx} {s₀ : Shared} {R₀ : Reg} {V : List Addr} {sc : Scope} {env : Env} {W : List Addr} {s s' : Shared} {R R' Mu Mu' : Reg} {Δ Δ' : Vars} {n : Nat} {A : Around} {E : Value → Shared → Prop} {Q : Flow → Shared → Prop}
noncomputable abbrev Fra.P (_ : Fra C s₀ R₀ V sc env W s R Mu Δ) (s' : Shared) (R' M' : Reg) (Δ' : Vars) : Prop := Fra C s₀ R₀ V sc env W s' R' M' Δ'
theorem Fra.noMu (F : Fra C s₀ R₀ V sc env W s R Mu Δ) {a : Addr} (h : s.heap.get? a = none) : Mu a = none := by
  cases q : Mu a with
  | none => rfl
  | some o => rw [(F.mu _ _ q).1] at h; (have q_ := oSN h; clear h; exact q_.elim)
theorem mlist_appendW {o e : Expr} {ap pos : Pos} {l : Addr} {vs : List Value} {m : Nat} {Qv : Value → Shared → Prop} (F : Fra C s₀ R₀ V sc env W s R Mu Δ) (rm : Room n A) (ho : Ev (C.at Mu) n sc Δ o (.val (.ref l))) (hz : vs.length ≤ sizeLine)
    (he : ∀ s₁ R₁, R.le R₁ → Keeps s s₁ → Fra C s₀ R₀ V sc env W s₁ R₁ Mu Δ → wpAny C.M A (eval e env) (fun v s₂ => ∃ R₂ Mu₂, Fra C s₀ R₀ V sc env W s₂ R₂ Mu₂ Δ ∧ Mu₂ l = some (lstObj vs m) ∧ ∀ s₃ m', Fra C s₀ R₀ V sc env W s₃ R₂ (Mu₂.set l (lstObj (vs ++ [v]) m')) Δ → Qv .none s₃) E s₁)
    (hl : Mu l = some (lstObj vs m))
    (hline : (ap.endLine == pos.line) = true := by rfl) (hbase : attributeBase o (Str.ofString "append") env (eval o env) = eval o env := by rfl) (hs : starEach [e] env = [(false, eval e env)] := by rfl) :
    wpAny C.M A (eval (.Call (.Attribute o (Str.ofString "append") ap) [e] [] pos) env) Qv E s := by
  refine wpAny_Call_method1_late hbase hline (by rw [hs]; rfl) (F.ev rm ho fun ov s₁ R₁ l₁ k₁ hv F₁ => ?_)
  (have q_ := Rd.valE hv; clear hv; subst q_)
  refine ⟨"list", "list.append", PySem.F.plainAttrs_list, PySem.F.slot_list_append, PySem.F.type_list_append, ⟨_, F₁.rom.mu _ _ hl, rfl⟩, fun a ha => by (have q_ := vRR ha; clear ha; subst q_); exact ⟨_, F₁.rom.mu _ _ hl, rfl⟩, ?_⟩
  have he' : backTo pos (starEach [e] env) = [(false, eval e env)] := by rw [hs]; rfl
  rw [← he']
  refine callWith_method1 (wpAny_items_cons (wpAny_mono (he s₁ R₁ l₁ k₁ F₁) (fun v s₂ p₂ => wpAny_items_nil ?_) fun _ _ x => x) hs) hs rfl
  obtain ⟨R₂, Mu₂, F₂, hl₂, h⟩ := p₂
  refine wpAny_list_append_plain (items := vs.toArray) ⟨m, F₂.rom.mu _ _ hl₂⟩ (fun h' hp hsb => ?_) (by simpa using hz)
  obtain ⟨m', hp⟩ := hp
  refine h _ m' (F₂.mut hl₂ (fun _ q => nomatch q) hsb ?_)
  rw [hp]; simp [lstObj]
theorem st_ifP {t : Expr} {b : Bool} {body orelse rest : List Stmt} {p : Pos} (P : Shared → Prop) (F : Fra C s₀ R₀ V sc env W s R Mu Δ) (rm : Room n A) (ht : EvT (C.at Mu) n sc Δ t b)
    (k : ∀ s' R', R.le R' → Fra C s₀ R₀ V sc env W s' R' Mu Δ → wpAny C.M A (execs (if b then body else orelse) env) (fun f s₂ => match f with | .next => P s₂ | f => Q f s₂) E s')
    (h : ∀ s', P s' → wpAny C.M A (execs rest env) Q E s') :
    wpAny C.M A (execs (.If t body orelse p :: rest) env) Q E s :=
  st_if F rm ht fun s' R' l F' => wpAny_mono (k s' R' l F') (fun f s₂ q => by cases f <;> first | exact h s₂ q | exact q) fun _ _ x => x
theorem Fra.evT {t : Expr} {b : Bool} {Qb : Bool → Shared → Prop} (F : Fra C s₀ R₀ V sc env W s R Mu Δ) (rm : Room n A) (ht : EvT (C.at Mu) n sc Δ t b)
    (h : ∀ s₁ R₁, R.le R₁ → Fra C s₀ R₀ V sc env W s₁ R₁ Mu Δ → Qb b s₁) : wpAny C.M A (isTrue t env (eval t env)) Qb E s :=
  noE (ht A env s R rm F.rom F.eo) fun c s₁ p₁ => by
    obtain ⟨k₁, rfl⟩ := p₁
    exact h s₁ _ (Reg.ext_le F.ro.on) (F.ext k₁)
theorem RdAll.snoc {R : Reg} {v : Value} {d : Dat} : ∀ {vs : List Value} {ds : List Dat}, RdAll R (vs ++ [v]) (ds ++ [d]) → RdAll R vs ds ∧ Rd R v d
  | [], [], h => by
    cases h with
    | cons h r => exact ⟨.nil, h⟩
  | [], x :: ds, h => by
    have := h.length; simp at this
  | x :: vs, [], h => by
    have := h.length; simp at this
  | x :: vs, y :: ds, h => by
    cases h with
    | cons h r => exact ⟨.cons h (RdAll.snoc r).1, (RdAll.snoc r).2⟩
theorem evT_true {p : Pos} {k : Nat} : EvT C n sc Δ (.Constant (.bool true) k p) true := evT_plain ev_bool (fun A s R v rm ro hv => by (have q_ := Rd.boolE hv; clear hv; subst q_); exact wpAny_truthy_bool ⟨Keeps.rfl' _, rfl⟩)
end
section
variable {C : Cx} {Z : Srt} {σ : Sd} {a : Ad} {Out : List Env} {r : Nat → Nat} {Mi R R' M M' : Reg} {st : List DE} {sn : List Nat} {k : Nat} {I q : Addr}
theorem DInv.base (h : DInv C Z σ a Out r Mi R M [] sn) (e : ∀ b ∈ a.l ++ frs Out, M' b = M b) : DInv C Z σ a Out r M' R' M' [] sn := by
  have el : ∀ b ∈ a.l, M' b = M b := fun b hb => e b (List.mem_append_left _ hb)
  refine ⟨?_, ?_, ?_, ?_, (fun x hx => nomatch hx), List.nodup_nil, List.Pairwise.nil, h.sub, h.snod, UpTo.of (fun _ _ _ e => e), fun _ _ _ e => e⟩
  · obtain ⟨vs, m, e1, e2⟩ := h.sS; exact ⟨vs, m, (el _ (by simp [Ad.l])).trans e1, e2⟩
  · obtain ⟨m, e1⟩ := h.sI; exact ⟨m, (el _ (by simp [Ad.l])).trans e1⟩
  · obtain ⟨o, S, e1, e2⟩ := h.sN; exact ⟨o, S, (el _ (by simp [Ad.l])).trans e1, e2⟩
  · obtain ⟨o, kvs, e1, e2⟩ := h.sD; exact ⟨o, kvs, (el _ (by simp [Ad.l])).trans e1, e2⟩
theorem valueAt_keys {kvs : List (Int × Value)} {k : Int} : (valueAt kvs k).isSome = decide (k ∈ kvs.map (·.1)) := by
  unfold valueAt
  rw [Option.isSome_map]
  by_cases h : k ∈ kvs.map (·.1)
  · rw [decide_eq_true h, List.find?_isSome]
    obtain ⟨x, hx, rfl⟩ := List.mem_map.mp h
    exact ⟨x, hx, by simp⟩
  · rw [decide_eq_false h]
    cases q : (kvs.find? fun kv => decide (kv.1 = k)) with
    | none => rfl
    | some x =>
      have := List.find?_some q
      exact absurd (List.mem_map.mpr ⟨x, List.mem_of_find?_eq_some q, by simpa using this⟩) h
theorem stored_keys {kvs : List (Int × Value)} {k : Int} {v : Value} (h : k ∉ kvs.map (·.1)) : (stored kvs k v).map (·.1) = kvs.map (·.1) ++ [k] := by
  rw [stored_new]
  · simp
  · have := valueAt_keys (kvs := kvs) (k := k)
    rw [decide_eq_false h] at this
    cases q : valueAt kvs k with
    | none => rfl
    | some _ => rw [q] at this; cases this
theorem without_last {kvs : List (Int × Value)} {ks : List Int} {k : Int} (h : kvs.map (·.1) = ks ++ [k]) (hk : k ∉ ks) : (without kvs k).map (·.1) = ks := by
  have e : (without kvs k).map (·.1) = (kvs.map (·.1)).filter fun j => decide (j ≠ k) := by
    unfold without
    rw [List.filter_map]; rfl
  rw [e, h, List.filter_append]
  have : ks.filter (fun j => decide (j ≠ k)) = ks := by
    rw [List.filter_eq_self]
    intro j hj
    simpa using fun q : j = k => hk (q ▸ hj)
  rw [this]; simp
theorem sn_len (h : DInv C Z σ a Out r Mi R M st sn) (hl : σ.ks.length ≤ 7) : sn.length ≤ 7 := by
  have : ∀ (l m : List Nat), l.Nodup → (∀ k ∈ l, k ∈ m) → l.length ≤ m.length := fun l => by
    induction l with
    | nil => intros; simp
    | cons x l ih =>
      intro m hn hs
      have hn' := List.nodup_cons.mp hn
      have hx : x ∈ m := hs x List.mem_cons_self
      have := ih (m.erase x) hn'.2 (fun k hk => (List.mem_erase_of_ne (show k ≠ x from fun q => hn'.1 (q ▸ hk))).mpr (hs k (List.mem_cons_of_mem _ hk)))
      rw [List.length_erase_of_mem hx] at this
      have hp : 0 < m.length := List.length_pos_of_mem hx
      simp only [List.length_cons]; omega
  exact Nat.le_trans (this _ _ h.snod h.sub) hl
theorem st_len (h : DInv C Z σ a Out r Mi R M st sn) (hl : σ.ks.length ≤ 7) : st.length ≤ 7 := by
  have hs := sn_len h hl
  have : ∀ (l m : List Nat), l.Nodup → (∀ k ∈ l, k ∈ m) → l.length ≤ m.length := fun l => by
    induction l with
    | nil => intros; simp
    | cons x l ih =>
      intro m hn hs
      have hn' := List.nodup_cons.mp hn
      have hx : x ∈ m := hs x List.mem_cons_self
      have := ih (m.erase x) hn'.2 (fun k hk => (List.mem_erase_of_ne (show k ≠ x from fun q => hn'.1 (q ▸ hk))).mpr (hs k (List.mem_cons_of_mem _ hk)))
      rw [List.length_erase_of_mem hx] at this
      have hp : 0 < m.length := List.length_pos_of_mem hx
      simp only [List.length_cons]; omega
  have nd : (st.map DE.k).Nodup := by
    have := h.asc
    rw [List.pairwise_map] at this
    rw [List.Nodup, List.pairwise_map]
    exact this.imp fun hlt q => by rw [q] at hlt; exact Nat.lt_irrefl _ hlt
  have := this (st.map DE.k) sn nd (fun k hk => by obtain ⟨e, he, rfl⟩ := List.mem_map.mp hk; exact (h.ent e he).2.2.2.2.2)
  rw [List.length_map] at this
  omega
end
end Mine
end
noncomputable section
open PySem PySem.W PyProof.Rows PySem.SeqAt PySem.MeetsSeq
set_option Elab.async false
set_option autoImplicit false
set_option maxRecDepth 100000
namespace Mine
section
variable {C : Cx} {Z : Srt} {σ : Sd} {a : Ad} {Out : List Env} {r : Nat → Nat} {Mi R R' M M' : Reg} {st : List DE} {sn : List Nat} {k : Nat} {I q : Addr}
theorem max_of (r : Nat → Nat) : ∀ st : List DE, ∃ m, ∀ e ∈ st, r e.k < m
  | [] => ⟨0, fun _ h => absurd h List.not_mem_nil⟩
  | e :: st => by
    obtain ⟨m, h⟩ := max_of r st
    refine ⟨m + r e.k + 1, fun x hx => ?_⟩
    rcases List.mem_cons.mp hx with rfl | hx
    · omega
    · have := h x hx; omega
theorem DInv.rerank (h : DInv C Z σ a Out r Mi R M st sn) {y : Nat} (hy : y ∉ st.map DE.k) : ∃ r', DInv C Z σ a Out r' Mi R M st sn ∧ ∀ e ∈ st, r' e.k < r' y := by
  obtain ⟨m, hm⟩ := max_of r st
  have ne : ∀ e ∈ st, e.k ≠ y := fun e he q => hy (q ▸ List.mem_map.mpr ⟨e, he, rfl⟩)
  refine ⟨fun k => if k = y then m else r k, { h with asc := ?_ }, fun e he => ?_⟩
  · have e : st.map (fun e => if e.k = y then m else r e.k) = st.map fun e => r e.k := List.map_congr_left fun e he => by simp [ne e he]
    rw [e]; exact h.asc
  · simp only [ne e he, if_true, if_false]; exact hm e he
end
end Mine
end
noncomputable section
open PySem PySem.W PyProof.Rows PySem.SeqAt PySem.MeetsSeq
set_option Elab.async false
set_option autoImplicit false
set_option maxRecDepth 100000
namespace Mine
section
variable {C : Cx} {n : Nat} {sc : Scope} {Δ : Vars}
theorem ev_mfrom {v lo : Expr} {l : Addr} {vs : List Value} {m : Nat} {k : Int} {p q : Pos} {ds : List Dat} (hl : C.mu l = some (lstObj vs m)) (hr : RdAll noM vs ds) (h : Ev C n sc Δ v (.val (.ref l))) (ha : Ev C n sc Δ lo (.int k))
    (hlen : ds.length ≤ sizeLine) : Ev C n sc Δ (.Subscript v (.Slice (some lo) none none p) q) (.lst (pick ds (some k) none none)) := by
  intro A env s R rm ro eo
  refine Subscript_ (noE (h A env s R rm ro eo) fun o s₁ p₁ => ?_)
  have k₁ := Keeps.hle p₁.1
  refine wpAny_Slice (noE (evPart (x := some lo) (k := some k) ha rm (ro.ext k₁) (eo.ext ro k₁)) fun vl s₂ p₂ => ?_)
  have K₂ := Keeps.tr p₁.1 p₂.1
  refine noE (evPart (C := C) (n := n) (sc := sc) (Δ := Δ) (x := none) (k := none) trivial rm (ro.ext (Keeps.hle K₂)) (eo.ext ro (Keeps.hle K₂))) fun vu s₃ p₃ => ?_
  have K₃ := Keeps.tr K₂ p₃.1
  refine noE (evPart (C := C) (n := n) (sc := sc) (Δ := Δ) (x := none) (k := none) trivial rm (ro.ext (Keeps.hle K₃)) (eo.ext ro (Keeps.hle K₃))) fun ve s₄ p₄ => ?_
  have K₄ := Keeps.tr K₃ p₄.1
  have hd := p₁.2
  (have q_ := Rd.valE hd; clear hd; subst q_)
  have t : s₄.heap.IsList l vs.toArray := ⟨_, (ro.ext (Keeps.hle K₄)).mu _ _ hl, rfl, m, rfl⟩
  have K₅ := Keeps.tr K₄ (Keeps.push s₄ { cls := .type "slice", data := .fields #[vl, vu, ve] })
  have t' := t.push ({ cls := .type "slice", data := .fields #[vl, vu, ve] } : Obj)
  have hg : wpAny C.M A (getItem (.ref l) (.ref s₄.heap.objs.size)) (Post s R (.lst (pick ds (some k) none none))) NoE { s₄ with heap := s₄.heap.push { cls := .type "slice", data := .fields #[vl, vu, ve] } } := by
    refine wpAny_getItem_list_slice t' (Heap.IsSliceOf.new ..) p₂.2 p₃.2 p₄.2 (by simp) ?_ (by simpa [hr.length] using hlen)
    obtain ⟨xs, e, rx⟩ := hr.pick (some k) none none
    rw [e]
    exact Post.new K₅ ro rfl fun R' hl e' => .lst e' ⟨rfl, rfl⟩ rfl (rx.mono fun _ _ e => by (have q_ := oNS e; clear e; exact q_.elim))
  exact tail_any (s := { s₄ with heap := s₄.heap.push { cls := .type "slice", data := .fields #[vl, vu, ve] } }) t'.typeIs slot_list_getitem.lookup hg rfl
variable {D : Addr} {od : Obj} {kvs : List (Int × Value)}
theorem op_dint {v i : Expr} {k : Int} {j : Int} {t : Tok} (hD : C.mu D = some od) (hk : od.IsDictOf (iK C) kvs) (hv : valueAt kvs k = some (.int j t))
    (hs : ∀ o u, subscripted i false o (.int k u) = operate [o, .int k u] (getItem o (.int k u)) := by intro _ _; rfl) : Op2 C n (subscriptTail v i) (.val (.ref D)) (.int k) (.int j) := by
  intro A s R v₁ v₂ rm ro h₁ h₂
  (have q_ := Rd.valE h₁; clear h₁; subst q_)
  (have q_ := Rd.intE h₂; clear h₂; obtain ⟨_, rfl⟩ := q_)
  have dm := dictAt_of (C := C) (ro.mu _ _ hD) hk
  exact tail_any dm.typeIs slot_dict_getitem.lookup (wpAny_getItem_of (intKind_is _ _ _ _) dm.mapOf hv ⟨Keeps.toks s _, .int _ _⟩) (hs _ _)
end
noncomputable def NatV (kvs : List (Int × Value)) : Prop := ∀ kv ∈ kvs, ∃ (i : Nat) (t : Tok), kv.2 = .int (i : Int) t
theorem NatV.at {kvs : List (Int × Value)} (h : NatV kvs) {k : Int} (hk : k ∈ kvs.map (·.1)) : ∃ (i : Nat) (t : Tok), valueAt kvs k = some (.int (i : Int) t) := by
  have := valueAt_keys (kvs := kvs) (k := k)
  rw [decide_eq_true hk] at this
  unfold valueAt at this ⊢
  cases q : (kvs.find? fun kv => decide (kv.1 = k)) with
  | none => rw [q] at this; cases this
  | some x =>
    obtain ⟨i, t, e⟩ := h x (List.mem_of_find?_eq_some q)
    exact ⟨i, t, by simp [e]⟩
theorem NatV.without {kvs : List (Int × Value)} (h : NatV kvs) {k : Int} : NatV (without kvs k) := fun kv hkv => h kv (by unfold PySem.without at hkv; exact (List.mem_filter.mp hkv).1)
theorem NatV.stored {kvs : List (Int × Value)} (h : NatV kvs) {k : Int} {i : Nat} {t : Tok} (hk : k ∉ kvs.map (·.1)) : NatV (stored kvs k (.int (i : Int) t)) := by
  rw [stored_new]
  · intro kv hkv
    rcases List.mem_append.mp hkv with q | q
    · exact h kv q
    · rw [List.mem_singleton.mp q]; exact ⟨i, t, rfl⟩
  · have := valueAt_keys (kvs := kvs) (k := k)
    rw [decide_eq_false hk] at this
    cases q : valueAt kvs k with
    | none => rfl
    | some _ => rw [q] at this; cases this
noncomputable def DV (C : Cx) (M : Reg) (D : Addr) (st : List DE) : Prop := ∃ o kvs, M D = some o ∧ o.IsDictOf (iK C) kvs ∧ kvs.map (·.1) = st.map (fun e => (e.k : Int)) ∧ NatV kvs
end Mine
end
noncomputable section
open PySem PySem.W PyProof.Rows
set_option Elab.async false
set_option autoImplicit false
namespace Mine
noncomputable def cnt (E : List (Nat × Nat)) (dn : List Nat) (j : Nat) : Nat := (E.filter fun e => decide (e.2 = j) && decide (e.1 ∉ dn)).length
noncomputable def sucs (E : List (Nat × Nat)) (k : Nat) : List Nat := (E.filter fun e => decide (e.1 = k)).map (·.2)
theorem cnt_step (E : List (Nat × Nat)) {dn : List Nat} {k : Nat} (hk : k ∉ dn) (j : Nat) : cnt E dn j = cnt E (dn ++ [k]) j + (sucs E k).count j := by
  induction E with
  | nil => rfl
  | cons e E ih =>
    unfold cnt sucs at *
    simp only [List.filter_cons]
    by_cases h2 : e.2 = j <;> by_cases h1 : e.1 = k
    · have : e.1 ∉ dn := h1 ▸ hk
      simp at ih
      simp [h2, h1, hk]
      omega
    · by_cases h3 : e.1 ∈ dn
      · simp [h2, h1, h3]; simpa using ih
      · simp [h2, h1, h3]; simp at ih; omega
    · simp [h2, h1]; simpa using ih
    · simp [h2, h1]; simpa using ih
theorem relax_fold : ∀ (js : List Nat) (f : Nat → Int) (l : List Nat), (∀ j ∈ js, ((js.count j : Nat) : Int) ≤ f j) →
    (∀ j, (js.foldl relaxStep (f, l)).1 j = f j - (js.count j : Nat)) ∧ ∃ t : List Nat, (js.foldl relaxStep (f, l)).2 = l ++ t ∧ t.Nodup ∧ ∀ j, j ∈ t ↔ j ∈ js ∧ f j = (js.count j : Nat)
  | [], f, l, _ => ⟨fun j => by simp, [], by simp, by simp, by simp⟩
  | i :: js, f, l, h => by
    have hi := h i (by simp)
    rw [List.count_cons_self] at hi
    let f₁ : Nat → Int := fun k => if k = i then f i - 1 else f k
    have hf₁ : ∀ j ∈ js, ((js.count j : Nat) : Int) ≤ f₁ j := fun j hj => by
      by_cases e : j = i
      · subst e; simp only [f₁, if_true]; omega
      · have := h j (by simp [hj])
        rw [List.count_cons_of_ne (Ne.symm e)] at this
        simp only [f₁, e, if_false]; exact this
    have step : (i :: js).foldl relaxStep (f, l) = js.foldl relaxStep (f₁, if f i - 1 = 0 then l ++ [i] else l) := rfl
    obtain ⟨h1, t, h2, h3, h4⟩ := relax_fold js f₁ (if f i - 1 = 0 then l ++ [i] else l) hf₁
    rw [step]
    refine ⟨fun j => ?_, ?_⟩
    · rw [h1 j]
      by_cases e : j = i
      · subst e; simp only [f₁, if_true]; rw [List.count_cons_self]; omega
      · simp only [f₁, e, if_false]; rw [List.count_cons_of_ne (Ne.symm e)]
    · by_cases hz : f i - 1 = 0
      · have hn : i ∉ js := fun hm => by
          have := List.count_pos_iff.mpr hm
          omega
        refine ⟨i :: t, by rw [h2, if_pos hz]; simp, List.nodup_cons.mpr ⟨fun hm => hn ((h4 i).mp hm).1, h3⟩, fun j => ?_⟩
        by_cases e : j = i
        · subst e
          simp only [List.mem_cons, true_or, true_and, true_iff]
          rw [List.count_cons_self, List.count_eq_zero_of_not_mem hn]; omega
        · simp only [List.mem_cons, e, false_or]
          rw [h4 j, List.count_cons_of_ne (Ne.symm e)]
          simp only [f₁, e, if_false]
      · refine ⟨t, by rw [h2, if_neg hz], h3, fun j => ?_⟩
        rw [h4 j]
        by_cases e : j = i
        · subst e
          simp only [f₁, if_true, List.mem_cons, true_or, true_and]
          rw [List.count_cons_self]
          constructor
          · rintro ⟨_, q⟩; omega
          · intro q
            refine ⟨?_, by omega⟩
            by_cases hm : j ∈ js
            · exact hm
            · rw [List.count_eq_zero_of_not_mem hm] at q; omega
        · simp only [List.mem_cons, e, false_or, f₁, if_false]
          rw [List.count_cons_of_ne (Ne.symm e)]
structure Play (E : List (Nat × Nat)) (σ : Sd) (dn out l : List Nat) : Prop where
  rd : σ.rd = some l
  su : ∀ k ∈ σ.ks, σ.su k = sucs E k
  np : ∀ j ∈ σ.ks, σ.np j = if j ∈ dn then -2 else if j ∈ out then -1 else (cnt E dn j : Int)
  sub : ∀ j ∈ dn ++ out ++ l, j ∈ σ.ks
  nod : (dn ++ out ++ l).Nodup
  lz : ∀ j ∈ σ.ks, (j ∈ l ↔ j ∉ dn ∧ j ∉ out ∧ cnt E dn j = 0)
  oz : ∀ j ∈ dn ++ out, cnt E dn j = 0
  nf : σ.nf = dn.length
  po : σ.po = dn.length + out.length
section
variable {E : List (Nat × Nat)} {σ : Sd} {dn out l : List Nat} {k : Nat}
theorem cnt_zero {j : Nat} : cnt E dn j = 0 ↔ ∀ e ∈ E, e.2 = j → e.1 ∈ dn := by
  unfold cnt
  rw [List.length_eq_zero_iff, List.filter_eq_nil_iff]
  constructor
  · intro h e he h2
    have := h e he
    simpa [h2] using this
  · intro h e he
    have := h e he
    simp only [Bool.and_eq_true, decide_eq_true_eq]
    rintro ⟨h2, h1⟩
    exact h1 (this h2)
theorem sucs_mem {j : Nat} : j ∈ sucs E k ↔ (k, j) ∈ E := by
  unfold sucs
  simp only [List.mem_map, List.mem_filter, decide_eq_true_eq]
  constructor
  · rintro ⟨e, ⟨he, rfl⟩, rfl⟩; exact he
  · intro h; exact ⟨_, ⟨h, rfl⟩, rfl⟩
theorem Play.ready (P : Play E σ dn out l) : Play E { σ with rd := some [], np := fun j => if j ∈ l then -1 else σ.np j, po := σ.po + l.length } dn (out ++ l) [] where
  rd := rfl
  su := P.su
  np := fun j hj => by
    have h := P.np j hj
    have hl := P.lz j hj
    show (if j ∈ l then (-1 : Int) else σ.np j) = _
    by_cases hm : j ∈ l
    · have := hl.mp hm
      simp [hm, this.1]
    · rw [if_neg hm, h]
      simp [hm]
  sub := fun j hj => P.sub j (by simpa [List.append_assoc] using hj)
  nod := by have := P.nod; simpa [List.append_assoc] using this
  lz := fun j hj => by
    have hl := P.lz j hj
    simp only [List.not_mem_nil, false_iff, List.mem_append, not_or]
    rintro ⟨h1, ⟨h2, h3⟩, h4⟩
    exact h3 (hl.mpr ⟨h1, h2, h4⟩)
  oz := fun j hj => by
    rcases List.mem_append.mp hj with h | h
    · exact P.oz j (by simp [h])
    · rcases List.mem_append.mp h with h | h
      · exact P.oz j (by simp [h])
      · exact ((P.lz j (P.sub j (by simp [h]))).mp h).2.2
  nf := P.nf
  po := by show σ.po + _ = _; rw [P.po]; simp; omega
theorem Play.done (P : Play E σ dn out l) (hk : k ∈ out) (hin : ∀ j ∈ sucs E k, j ∈ σ.ks) : ∃ l', (doneS σ l k).2 = l' ∧ Play E { σ with np := (doneS σ l k).1, rd := some (doneS σ l k).2, nf := σ.nf + 1 } (dn ++ [k]) (out.erase k) l' := by
  have hks : k ∈ σ.ks := P.sub k (by simp [hk])
  have nod := P.nod
  have hdn : k ∉ dn := fun h => by
    have := (List.nodup_append.mp (List.nodup_append.mp nod).1).2.2 k h k hk; exact this rfl
  have hl : k ∉ l := fun h => (((P.lz k hks).mp h).2.1) hk
  have onod : out.Nodup := (List.nodup_append.mp (List.nodup_append.mp nod).1).2.1
  have her : ∀ j, j ∈ out.erase k ↔ j ∈ out ∧ j ≠ k := fun j => by rw [onod.mem_erase_iff]; exact And.comm
  -- the successors are neither done nor out nor ready
  have hs : ∀ j ∈ sucs E k, j ∉ dn ∧ j ∉ out ∧ j ∉ l := fun j hj => by
    have he := sucs_mem.mp hj
    have nz : cnt E dn j ≠ 0 := fun z => hdn (cnt_zero.mp z _ he rfl)
    refine ⟨fun h => nz (P.oz j (by simp [h])), fun h => nz (P.oz j (by simp [h])), fun h => nz ((P.lz j (P.sub j (by simp [h]))).mp h).2.2⟩
  have hsks : ∀ j ∈ sucs E k, j ∈ σ.ks → σ.np j = (cnt E dn j : Int) := fun j hj hjk => by
    have := hs j hj
    rw [P.np j hjk, if_neg this.1, if_neg this.2.1]
  have hkk : k ∉ sucs E k := fun h => (hs k h).2.1 hk
  have hsu : σ.su k = sucs E k := P.su k hks
  have hle : ∀ j, (sucs E k).count j ≤ cnt E dn j := fun j => by have := cnt_step E hdn j; omega
  have hfold := relax_fold (sucs E k) (fun i => if i = k then -2 else σ.np i) l (fun j hj => by
    have hne : j ≠ k := fun e => hkk (e ▸ hj)
    have := hle j
    simp only [hne, if_false]
    rw [hsks j hj (hin j hj)]
    omega)
  obtain ⟨h1, t, h2, h3, h4⟩ := hfold
  have e1 : ∀ j, (doneS σ l k).1 j = (if j = k then -2 else σ.np j) - ((sucs E k).count j : Nat) := fun j => by unfold doneS; rw [hsu]; exact h1 j
  have e2 : (doneS σ l k).2 = l ++ t := by unfold doneS; rw [hsu]; exact h2
  have h4' : ∀ j, j ∈ t ↔ j ∈ sucs E k ∧ cnt E (dn ++ [k]) j = 0 := fun j => by
    rw [h4 j]
    refine and_congr_right fun hj => ?_
    have hne : j ≠ k := fun e => hkk (e ▸ hj)
    have := cnt_step E hdn j
    simp only [hne, if_false]
    rw [hsks j hj (hin j hj)]
    omega
  refine ⟨l ++ t, e2, ?_⟩
  exact
  { rd := by show some (doneS σ l k).2 = _; rw [e2]
    su := P.su
    np := fun j hj => by
      show (doneS σ l k).1 j = _
      rw [e1 j]
      by_cases hjk : j = k
      · subst hjk
        rw [List.count_eq_zero_of_not_mem hkk]; simp
      · have c := cnt_step E hdn j
        simp only [hjk, if_false]
        rw [P.np j hj]
        by_cases hd : j ∈ dn
        · have : (sucs E k).count j = 0 := List.count_eq_zero_of_not_mem fun h => (hs j h).1 hd
          simp [hd, this]
        · by_cases ho : j ∈ out
          · have : (sucs E k).count j = 0 := List.count_eq_zero_of_not_mem fun h => (hs j h).2.1 ho
            have : j ∈ out.erase k := (her j).mpr ⟨ho, hjk⟩
            simp [hd, ho, hjk, *]
          · have : j ∉ out.erase k := fun h => ho ((her j).mp h).1
            simp [hd, ho, hjk, this]
            omega
    sub := fun j hj => by
      simp only [List.mem_append, List.mem_singleton] at hj
      rcases hj with ((hj | hj) | hj) | hj | hj
      · exact P.sub j (by simp [hj])
      · exact hj ▸ hks
      · exact P.sub j (by simp [((her j).mp hj).1])
      · exact P.sub j (by simp [hj])
      · exact hin j ((h4' j).mp hj).1
    nod := by
      have ht : ∀ j ∈ t, j ∉ dn ∧ j ∉ out ∧ j ∉ l := fun j hj => hs j ((h4' j).mp hj).1
      have n1 := List.nodup_append.mp nod
      have n2 := List.nodup_append.mp n1.1
      refine List.nodup_append.mpr ⟨List.nodup_append.mpr ⟨List.nodup_append.mpr ⟨n2.1, by simp, fun a ha b hb e => ?_⟩, onod.erase k, fun a ha b hb e => ?_⟩, List.nodup_append.mpr ⟨n1.2.1, h3, fun a ha b hb e => ?_⟩, fun a ha b hb e => ?_⟩
      · exact hdn (by rw [← List.mem_singleton.mp hb, ← e]; exact ha)
      · have hb' := (her b).mp hb
        rcases List.mem_append.mp ha with ha | ha
        · exact n2.2.2 a ha b hb'.1 e
        · exact hb'.2 (e ▸ List.mem_singleton.mp ha)
      · exact (ht b hb).2.2 (e ▸ ha)
      · have hab : b ∉ dn ∧ b ∉ out.erase k ∧ b ≠ k := by
          rcases List.mem_append.mp hb with hb | hb
          · have hb' := (P.lz b (P.sub b (by simp [hb]))).mp hb
            exact ⟨hb'.1, fun h => hb'.2.1 ((her b).mp h).1, fun q => hl (q ▸ hb)⟩
          · exact ⟨(ht b hb).1, fun h => (ht b hb).2.1 ((her b).mp h).1, fun q => (ht b hb).2.1 (q ▸ hk)⟩
        subst e
        simp only [List.mem_append, List.mem_singleton] at ha
        rcases ha with (ha | ha) | ha
        · exact hab.1 ha
        · exact hab.2.2 ha
        · exact hab.2.1 ha
    lz := fun j hj => by
      have hlz := P.lz j hj
      have c := cnt_step E hdn j
      simp only [List.mem_append, List.mem_singleton, not_or]
      rw [her j]
      constructor
      · rintro (h | h)
        · have := hlz.mp h
          refine ⟨⟨this.1, fun e => hl (e ▸ h)⟩, fun q => this.2.1 q.1, by omega⟩
        · have q := (h4' j).mp h
          have := hs j q.1
          exact ⟨⟨this.1, fun e => this.2.1 (e ▸ hk)⟩, fun q => this.2.1 q.1, q.2⟩
      · rintro ⟨⟨a, b⟩, c', d⟩
        by_cases hm : j ∈ sucs E k
        · exact .inr ((h4' j).mpr ⟨hm, d⟩)
        · refine .inl (hlz.mpr ⟨a, fun q => c' ⟨q, b⟩, ?_⟩)
          rw [List.count_eq_zero_of_not_mem hm] at c
          omega
    oz := fun j hj => by
      have c := cnt_step E hdn j
      have : j ∈ dn ++ out := by
        simp only [List.mem_append, List.mem_singleton] at hj ⊢
        rcases hj with (hj | hj) | hj
        · exact .inl hj
        · exact .inr (hj ▸ hk)
        · exact .inr ((her j).mp hj).1
      have := P.oz j this
      omega
    nf := by show σ.nf + 1 = _; rw [P.nf]; simp
    po := by
      show σ.po = _
      rw [P.po]
      have := List.length_erase_of_mem hk
      have : 0 < out.length := List.length_pos_of_mem hk
      simp; omega }
theorem Play.start {σ : Sd} (hsu : ∀ k ∈ σ.ks, σ.su k = sucs E k) (hnp : ∀ j ∈ σ.ks, σ.np j = (cnt E [] j : Int)) (hn : σ.ks.Nodup) (hnf : σ.nf = 0) (hpo : σ.po = 0) : Play E { σ with rd := some (σ.ks.filter fun k => decide (σ.np k = 0)) } [] [] (σ.ks.filter fun k => decide (σ.np k = 0)) where
  rd := rfl
  su := hsu
  np := fun j hj => by simp; exact hnp j hj
  sub := fun j hj => by simp at hj; exact hj.1
  nod := by simp; exact hn.filter _
  lz := fun j hj => by
    simp [hj]
    rw [hnp j hj]; omega
  oz := fun j hj => by simp at hj
  nf := by simpa using hnf
  po := by simpa using hpo
theorem cnt_add {a b j : Nat} : cnt (E ++ [(a, b)]) [] j = if j = b then cnt E [] j + 1 else cnt E [] j := by
  unfold cnt
  rw [List.filter_append, List.length_append]
  by_cases h : j = b
  · simp [h]
  · have : ¬ b = j := fun e => h e.symm
    simp [h, this]
theorem sucs_add {a b k : Nat} : sucs (E ++ [(a, b)]) k = if k = a then sucs E k ++ [b] else sucs E k := by
  unfold sucs
  rw [List.filter_append, List.map_append]
  by_cases h : k = a
  · simp [h]
  · have : ¬ a = k := fun e => h e.symm
    simp [h, this]
end
end Mine
end
noncomputable section
set_option autoImplicit false
namespace Mine
noncomputable def rowN (cells : List Int) (r : Nat) : List Nat := (cells.filter fun c => decide (c.fmod 5 = (r : Int))).map fun c => ((c.fdiv 5).fmod 7).toNat
noncomputable def ordN : List Nat := [0, 3, 6, 2, 5, 1, 4]
noncomputable def rowsL (cells : List Int) (o : Bool) : List (List Nat) := if o then (List.range 5).map fun r => ordN.filter fun k => (rowN cells r).contains k else (List.range 5).map (rowN cells)
theorem rowN_step (cells : List Int) (i : Nat) (c : Int) (h : cells[i]? = some c) (r : Nat) : rowN (cells.take (i + 1)) r = rowN (cells.take i) r ++ if c.fmod 5 = (r : Int) then [((c.fdiv 5).fmod 7).toNat] else [] := by
  have hi := (List.getElem?_eq_some_iff.mp h).1
  have : cells.take (i + 1) = cells.take i ++ [c] := by
    rw [List.take_add_one, h]; rfl
  rw [rowN, this, List.filter_append, List.map_append]
  congr 1
  by_cases hc : c.fmod 5 = (r : Int) <;> simp [hc]
theorem rowN_len (cells : List Int) (r : Nat) : (rowN cells r).length ≤ cells.length := by
  unfold rowN; rw [List.length_map]; exact List.length_filter_le _ _
theorem rowN_low (cells : List Int) (r : Nat) : ∀ k ∈ rowN cells r, k < 7 := fun k hk => by
  obtain ⟨c, _, rfl⟩ := List.mem_map.mp hk
  have h1 := Int.fmod_nonneg_of_pos (c.fdiv 5) (show (0 : Int) < 7 by decide)
  have h2 := Int.fmod_lt_of_pos (c.fdiv 5) (show (0 : Int) < 7 by decide)
  omega
theorem rowsL_len (cells : List Int) (o : Bool) : (rowsL cells o).length = 5 := by unfold rowsL; split <;> simp
theorem rowsL_low (cells : List Int) (o : Bool) : ∀ l ∈ rowsL cells o, ∀ k ∈ l, k < 7 := fun l hl k hk => by
  unfold rowsL at hl
  split at hl
  · obtain ⟨r, _, rfl⟩ := List.mem_map.mp hl
    have := (List.mem_filter.mp hk).1
    have all : ∀ k ∈ ordN, k < 7 := by decide
    exact all k this
  · obtain ⟨r, _, rfl⟩ := List.mem_map.mp hl
    exact rowN_low _ _ k hk
theorem ordN_len : ordN.length = 7 := rfl
theorem rowsL_short (cells : List Int) (o : Bool) (h : cells.length ≤ 12) : ∀ l ∈ rowsL cells o, l.length ≤ 12 := fun l hl => by
  unfold rowsL at hl
  split at hl
  · obtain ⟨r, _, rfl⟩ := List.mem_map.mp hl
    have := List.length_filter_le (fun k => (rowN cells r).contains k) ordN
    rw [ordN_len] at this; omega
  · obtain ⟨r, _, rfl⟩ := List.mem_map.mp hl
    exact Nat.le_trans (rowN_len _ _) h
end Mine
end
noncomputable section
set_option autoImplicit false
namespace Mine
noncomputable def ahd (gone row : List Nat) (p : Nat) : Bool := !((row.take p).filter fun k => !gone.contains k).isEmpty
noncomputable def stR (gone row : List Nat) (i : Nat) : List Nat := ((List.range i).filter (ahd gone row)).map fun p => row.getD p 0
noncomputable def stRs (gone : List Nat) (rows : List (List Nat)) : List Nat := rows.flatMap fun r => stR gone r r.length
noncomputable def freeN (rows : List (List Nat)) (gone : List Nat) : List Nat := (List.range 7).filter fun k => !(gone ++ stRs gone rows).contains k
theorem stR_step (gone row : List Nat) (i : Nat) : stR gone row (i + 1) = stR gone row i ++ if ahd gone row i then [row.getD i 0] else [] := by
  unfold stR
  rw [List.range_succ, List.filter_append, List.map_append]
  congr 1
  cases h : ahd gone row i <;> simp [h]
theorem stR_len (gone row : List Nat) (i : Nat) : (stR gone row i).length ≤ i := by
  unfold stR
  rw [List.length_map]
  have := List.length_filter_le (ahd gone row) (List.range i)
  rwa [List.length_range] at this
theorem stRs_step (gone : List Nat) (rows : List (List Nat)) (i : Nat) (r : List Nat) (h : rows[i]? = some r) : stRs gone (rows.take (i + 1)) = stRs gone (rows.take i) ++ stR gone r r.length := by
  have : rows.take (i + 1) = rows.take i ++ [r] := by rw [List.take_add_one, h]; rfl
  rw [stRs, this, List.flatMap_append]; simp [stRs]
theorem stRs_len (gone : List Nat) (rows : List (List Nat)) (h : ∀ r ∈ rows, r.length ≤ 12) : (stRs gone rows).length ≤ 12 * rows.length := by
  induction rows with
  | nil => simp [stRs]
  | cons r rows ih =>
    have h1 := ih fun r hr => h r (List.mem_cons_of_mem _ hr)
    have h2 := stR_len gone r r.length
    have h3 := h r List.mem_cons_self
    rw [stRs, List.flatMap_cons, List.length_append, List.length_cons]
    rw [stRs] at h1; omega
end Mine
end
noncomputable section
set_option autoImplicit false
namespace Mine
noncomputable def stepsR (row : List Nat) : List (Nat × Nat) := (List.range (row.length - 1)).map fun p => (row.getD p 0, row.getD (p + 1) 0)
noncomputable def stepsN (rows : List (List Nat)) : List (Nat × Nat) := rows.flatMap stepsR
noncomputable def reachN (E : List (Nat × Nat)) (ends : List Nat) : List Nat := (E.filter fun e => ends.contains e.1).map (·.2)
noncomputable def nextE (E : List (Nat × Nat)) (ends : List Nat) : List Nat := (List.range 7).filter fun k => (reachN E ends).contains k
noncomputable def endsN (E : List (Nat × Nat)) : Nat → List Nat
  | 0 => List.range 7
  | n + 1 => nextE E (endsN E n)
noncomputable def goStep (rows : List (List Nat)) (c : List Nat) (pick : Int) : List Nat :=
  if (freeN rows c).isEmpty then c else c ++ [(freeN rows c).getD (pick.fmod (freeN rows c).length).toNat 0]
noncomputable def courseN (rows : List (List Nat)) (picks : List Int) : List Nat := picks.foldl (goStep rows) []
noncomputable def waitsN (rows : List (List Nat)) (picks : List Int) : List (List Nat) := (List.range picks.length).map fun i => freeN rows (courseN rows (picks.take i))
theorem courseN_step (rows : List (List Nat)) (picks : List Int) (i : Nat) (p : Int) (h : picks[i]? = some p) : courseN rows (picks.take (i + 1)) = goStep rows (courseN rows (picks.take i)) p := by
  have : picks.take (i + 1) = picks.take i ++ [p] := by rw [List.take_add_one, h]; rfl
  rw [courseN, this, List.foldl_append]; rfl
theorem goStep_len (rows : List (List Nat)) (c : List Nat) (p : Int) : (goStep rows c p).length ≤ c.length + 1 := by
  unfold goStep; split <;> simp
theorem courseN_len (rows : List (List Nat)) : ∀ (picks : List Int), (courseN rows picks).length ≤ picks.length := fun picks => by
  have : ∀ (l : List Int) (c : List Nat), (l.foldl (goStep rows) c).length ≤ c.length + l.length := fun l => by
    induction l with
    | nil => intro c; simp
    | cons p l ih =>
      intro c
      have h1 := ih (goStep rows c p)
      have h2 := goStep_len rows c p
      rw [List.foldl_cons, List.length_cons]; omega
  have := this picks []
  rw [courseN]; simpa using this
theorem endsN_len (E : List (Nat × Nat)) (n : Nat) : (endsN E n).length ≤ 7 := by
  cases n with
  | zero => simp [endsN]
  | succ n =>
    have := List.length_filter_le (fun k => (reachN E (endsN E n)).contains k) (List.range 7)
    rw [List.length_range] at this; exact this
theorem freeN_len (rows : List (List Nat)) (g : List Nat) : (freeN rows g).length ≤ 7 := by
  have := List.length_filter_le (fun k => !(g ++ stRs g rows).contains k) (List.range 7)
  rw [List.length_range] at this; exact this
theorem stepsR_len (row : List Nat) : (stepsR row).length = row.length - 1 := by simp [stepsR]
theorem stepsN_len (rows : List (List Nat)) (h : ∀ r ∈ rows, r.length ≤ 12) : (stepsN rows).length ≤ 12 * rows.length := by
  induction rows with
  | nil => simp [stepsN]
  | cons r rows ih =>
    have h1 := ih fun r hr => h r (List.mem_cons_of_mem _ hr)
    have h2 := stepsR_len r
    have h3 := h r List.mem_cons_self
    rw [stepsN] at h1
    rw [stepsN, List.flatMap_cons, List.length_append, List.length_cons]
    omega
end Mine
end
noncomputable section
set_option autoImplicit false
namespace Mine
theorem nodup_len {α : Type} [BEq α] [LawfulBEq α] : ∀ {l M : List α}, l.Nodup → (∀ x ∈ l, x ∈ M) → l.length ≤ M.length
  | [], _, _, _ => Nat.zero_le _
  | a :: l, M, hn, hs => by
    rw [List.nodup_cons] at hn
    have ha := hs a List.mem_cons_self
    have h1 := nodup_len (M := M.erase a) hn.2 fun x hx => by
      have hne : x ≠ a := fun h => hn.1 (h ▸ hx)
      exact (List.mem_erase_of_ne hne).mpr (hs x (List.mem_cons_of_mem _ hx))
    rw [List.length_erase_of_mem ha] at h1
    have := List.length_pos_of_mem ha
    rw [List.length_cons]; omega
end Mine
end
noncomputable section
set_option autoImplicit false
namespace Mine
theorem mem_reachN {E : List (Nat × Nat)} {ends : List Nat} {k : Nat} : k ∈ reachN E ends ↔ ∃ a ∈ ends, (a, k) ∈ E := by
  unfold reachN
  constructor
  · intro h
    obtain ⟨⟨a, b⟩, he, rfl⟩ := List.mem_map.mp h
    obtain ⟨h1, h2⟩ := List.mem_filter.mp he
    exact ⟨a, by simpa using h2, h1⟩
  · rintro ⟨a, ha, he⟩
    exact List.mem_map.mpr ⟨(a, k), List.mem_filter.mpr ⟨he, by simpa using ha⟩, rfl⟩
theorem mem_nextE {E : List (Nat × Nat)} {ends : List Nat} {k : Nat} : k ∈ nextE E ends ↔ k < 7 ∧ ∃ a ∈ ends, (a, k) ∈ E := by
  unfold nextE
  rw [List.mem_filter, List.mem_range]
  constructor
  · rintro ⟨h1, h2⟩; exact ⟨h1, mem_reachN.mp (by simpa using h2)⟩
  · rintro ⟨h1, h2⟩; exact ⟨h1, by simpa using mem_reachN.mpr h2⟩
theorem endsN_low {E : List (Nat × Nat)} {n k : Nat} (h : k ∈ endsN E n) : k < 7 := by
  cases n with
  | zero => simpa [endsN] using h
  | succ n => exact (mem_nextE.mp h).1
theorem endsN_anti {E : List (Nat × Nat)} : ∀ (n : Nat) {k : Nat}, k ∈ endsN E (n + 1) → k ∈ endsN E n
  | 0, k, h => by have := endsN_low h; simpa [endsN] using this
  | n + 1, k, h => by
    obtain ⟨h1, a, ha, he⟩ := mem_nextE.mp h
    exact mem_nextE.mpr ⟨h1, a, endsN_anti n ha, he⟩
theorem ring_ends {E : List (Nat × Nat)} {S : Nat → Prop} (h7 : ∀ k, S k → k < 7) (hp : ∀ k, S k → ∃ a, S a ∧ (a, k) ∈ E) : ∀ (n k : Nat), S k → k ∈ endsN E n
  | 0, k, h => by simpa [endsN] using h7 k h
  | n + 1, k, h => by
    obtain ⟨a, ha, he⟩ := hp k h
    exact mem_nextE.mpr ⟨h7 k h, a, ring_ends h7 hp n a ha, he⟩
theorem rank_count {E : List (Nat × Nat)} {r : Nat → Nat} (hr : ∀ e ∈ E, r e.1 < r e.2) : ∀ (n k : Nat), k ∈ endsN E n → n ≤ ((List.range 7).filter fun j => decide (r j < r k)).length
  | 0, _, _ => Nat.zero_le _
  | n + 1, k, h => by
    obtain ⟨h1, a, ha, he⟩ := mem_nextE.mp h
    have ih := rank_count hr n a ha
    have hlt := hr _ he
    have ha7 := endsN_low ha
    have sub : (a :: (List.range 7).filter fun j => decide (r j < r a)).length ≤ ((List.range 7).filter fun j => decide (r j < r k)).length := by
      have nd : (a :: (List.range 7).filter fun j => decide (r j < r a)).Nodup := by
        refine List.nodup_cons.mpr ⟨fun h => ?_, List.nodup_range.filter _⟩
        have := (List.mem_filter.mp h).2
        simp at this
      refine nodup_len nd fun j hj => ?_
      rcases List.mem_cons.mp hj with rfl | hj
      · exact List.mem_filter.mpr ⟨List.mem_range.mpr ha7, by simpa using hlt⟩
      · obtain ⟨g1, g2⟩ := List.mem_filter.mp hj
        refine List.mem_filter.mpr ⟨g1, ?_⟩
        simp at g2 ⊢; exact Nat.lt_trans g2 hlt
    rw [List.length_cons] at sub; omega
theorem rank_none {E : List (Nat × Nat)} {r : Nat → Nat} (hr : ∀ e ∈ E, r e.1 < r e.2) : endsN E 7 = [] := by
  cases h : endsN E 7 with
  | nil => rfl
  | cons k l =>
    have hk : k ∈ endsN E 7 := by rw [h]; exact List.mem_cons_self
    have h7 := rank_count hr 7 k hk
    have hk7 := endsN_low hk
    have : ((List.range 7).filter fun j => decide (r j < r k)).length < (List.range 7).length := by
      refine List.length_filter_lt_length_iff_exists.mpr ⟨k, List.mem_range.mpr hk7, by simp⟩
    rw [List.length_range] at this; omega
theorem filter_dich {α : Type} (f g : α → Bool) : ∀ (l : List α), (∀ k ∈ l, f k = true → g k = true) → l.filter f = l.filter g ∨ (l.filter f).length < (l.filter g).length
  | [], _ => .inl rfl
  | k :: l, h => by
    have ih := filter_dich f g l fun j hj => h j (List.mem_cons_of_mem _ hj)
    have hk := h k List.mem_cons_self
    cases hf : f k with
    | true =>
      rw [List.filter_cons_of_pos hf, List.filter_cons_of_pos (hk hf), List.length_cons, List.length_cons]
      rcases ih with ih | ih
      · exact .inl (by rw [ih])
      · exact .inr (by omega)
    | false =>
      rw [List.filter_cons_of_neg (by simp [hf])]
      cases hg : g k with
      | true =>
        rw [List.filter_cons_of_pos hg, List.length_cons]
        rcases ih with ih | ih
        · exact .inr (by rw [ih]; omega)
        · exact .inr (by omega)
      | false => rw [List.filter_cons_of_neg (by simp [hg])]; exact ih
theorem endsN_filter (E : List (Nat × Nat)) (n : Nat) : (List.range 7).filter (fun k => (endsN E n).contains k) = endsN E n := by
  cases n with
  | zero => exact List.filter_eq_self.mpr fun k hk => by simpa [endsN] using hk
  | succ n =>
    show (List.range 7).filter (fun k => (endsN E (n + 1)).contains k) = (List.range 7).filter fun k => (reachN E (endsN E n)).contains k
    refine List.filter_congr fun k hk => ?_
    have : (k ∈ endsN E (n + 1)) ↔ k ∈ reachN E (endsN E n) := by
      constructor
      · intro h; exact mem_reachN.mpr (mem_nextE.mp h).2
      · intro h; exact mem_nextE.mpr ⟨List.mem_range.mp hk, mem_reachN.mp h⟩
    by_cases h : k ∈ endsN E (n + 1)
    · rw [List.contains_iff_mem.mpr h, List.contains_iff_mem.mpr (this.mp h)]
    · have h' : k ∉ reachN E (endsN E n) := fun q => h (this.mpr q)
      rw [Bool.eq_false_iff.mpr (fun q => h (List.contains_iff_mem.mp q)), Bool.eq_false_iff.mpr (fun q => h' (List.contains_iff_mem.mp q))]
theorem endsN_shrink (E : List (Nat × Nat)) : ∀ n, endsN E (n + 1) = endsN E n ∨ (endsN E n).length + n ≤ 7
  | 0 => .inr (by simp [endsN])
  | n + 1 => by
    rcases endsN_shrink E n with h | h
    · left
      show nextE E (endsN E (n + 1)) = nextE E (endsN E n)
      rw [h]
    · rcases filter_dich (fun k => (endsN E (n + 1)).contains k) (fun k => (endsN E n).contains k) (List.range 7) (fun k _ q => by simpa using endsN_anti n (by simpa using q)) with d | d
      · left
        rw [endsN_filter, endsN_filter] at d
        show nextE E (endsN E (n + 1)) = nextE E (endsN E n)
        rw [d]
      · right
        rw [endsN_filter, endsN_filter] at d
        omega
theorem ends_fix (E : List (Nat × Nat)) : endsN E 8 = endsN E 7 := by
  rcases endsN_shrink E 7 with h | h
  · exact h
  · have : endsN E 7 = [] := List.length_eq_zero_iff.mp (by omega)
    show nextE E (endsN E 7) = _
    rw [this]
    simp [nextE, reachN]
theorem ends_pred {E : List (Nat × Nat)} {k : Nat} (h : k ∈ endsN E 7) : ∃ a ∈ endsN E 7, (a, k) ∈ E := by
  rw [← ends_fix] at h
  exact (mem_nextE.mp h).2
end Mine
end
noncomputable section
set_option autoImplicit false
namespace Mine
theorem mem_stepsN {rows : List (List Nat)} {a b : Nat} : (a, b) ∈ stepsN rows ↔ ∃ row ∈ rows, ∃ p, p + 1 < row.length ∧ row.getD p 0 = a ∧ row.getD (p + 1) 0 = b := by
  unfold stepsN stepsR
  rw [List.mem_flatMap]
  constructor
  · rintro ⟨row, hr, h⟩
    obtain ⟨p, hp, e⟩ := List.mem_map.mp h
    have hp := List.mem_range.mp hp
    cases e
    exact ⟨row, hr, p, by omega, rfl, rfl⟩
  · rintro ⟨row, hr, p, hp, rfl, rfl⟩
    exact ⟨row, hr, List.mem_map.mpr ⟨p, List.mem_range.mpr (by omega), rfl⟩⟩
theorem ahd_iff {gone row : List Nat} {p : Nat} (hp : p ≤ row.length) : ahd gone row p = true ↔ ∃ q, q < p ∧ row.getD q 0 ∉ gone := by
  unfold ahd
  rw [Bool.not_eq_true', ← Bool.not_eq_true, List.isEmpty_iff]
  constructor
  · intro h
    obtain ⟨k, hk⟩ := List.exists_mem_of_ne_nil _ h
    obtain ⟨h1, h2⟩ := List.mem_filter.mp hk
    obtain ⟨q, hq, e⟩ := List.mem_iff_getElem.mp h1
    rw [List.length_take] at hq
    refine ⟨q, by omega, ?_⟩
    rw [List.getElem_take] at e
    rw [List.getD_eq_getElem?_getD, List.getElem?_eq_getElem (by omega), Option.getD_some, e]
    simpa using h2
  · rintro ⟨q, hq, hn⟩ h
    have hql : q < row.length := by omega
    have : row.getD q 0 ∈ (row.take p).filter fun k => !gone.contains k := by
      refine List.mem_filter.mpr ⟨?_, by simpa using hn⟩
      rw [List.getD_eq_getElem?_getD, List.getElem?_eq_getElem hql, Option.getD_some]
      exact List.mem_iff_getElem.mpr ⟨q, by rw [List.length_take]; omega, by rw [List.getElem_take]⟩
    rw [h] at this; cases this
theorem mem_stRs {gone : List Nat} {rows : List (List Nat)} {k : Nat} : k ∈ stRs gone rows ↔ ∃ row ∈ rows, ∃ p, p < row.length ∧ row.getD p 0 = k ∧ ∃ q, q < p ∧ row.getD q 0 ∉ gone := by
  unfold stRs stR
  rw [List.mem_flatMap]
  constructor
  · rintro ⟨row, hr, h⟩
    obtain ⟨p, hp, rfl⟩ := List.mem_map.mp h
    obtain ⟨h1, h2⟩ := List.mem_filter.mp hp
    have h1 := List.mem_range.mp h1
    exact ⟨row, hr, p, h1, rfl, (ahd_iff (by omega)).mp h2⟩
  · rintro ⟨row, hr, p, hp, rfl, h⟩
    exact ⟨row, hr, List.mem_map.mpr ⟨p, List.mem_filter.mpr ⟨List.mem_range.mpr hp, (ahd_iff (by omega)).mpr h⟩, rfl⟩⟩
noncomputable def Closed (rows : List (List Nat)) (gone : List Nat) : Prop := ∀ e ∈ stepsN rows, e.2 ∈ gone → e.1 ∈ gone
theorem closed_row {rows : List (List Nat)} {gone row : List Nat} (hc : Closed rows gone) (hr : row ∈ rows) : ∀ (d p : Nat), p + d < row.length → row.getD (p + d) 0 ∈ gone → row.getD p 0 ∈ gone
  | 0, _, _, h => h
  | d + 1, p, hl, h => by
    refine closed_row hc hr d p (by omega) ?_
    exact hc (row.getD (p + d) 0, row.getD (p + d + 1) 0) (mem_stepsN.mpr ⟨row, hr, p + d, by omega, rfl, rfl⟩) h
theorem mem_freeN {rows : List (List Nat)} {gone : List Nat} (hc : Closed rows gone) {k : Nat} : k ∈ freeN rows gone ↔ k < 7 ∧ k ∉ gone ∧ ∀ a, (a, k) ∈ stepsN rows → a ∈ gone := by
  unfold freeN
  rw [List.mem_filter, List.mem_range]
  have e : ((!(gone ++ stRs gone rows).contains k) = true) ↔ k ∉ gone ∧ k ∉ stRs gone rows := by simp
  rw [e]
  refine and_congr_right fun _ => and_congr_right fun _ => ?_
  rw [mem_stRs]
  constructor
  · intro h a ha
    obtain ⟨row, hr, p, hp, rfl, rfl⟩ := mem_stepsN.mp ha
    refine Classical.byContradiction fun hn => h ⟨row, hr, p + 1, hp, rfl, p, Nat.lt_succ_self _, hn⟩
  · rintro h ⟨row, hr, p, hp, rfl, q, hq, hn⟩
    have hp1 : row.getD (p - 1) 0 ∈ gone := h _ (mem_stepsN.mpr ⟨row, hr, p - 1, by omega, rfl, by rw [show p - 1 + 1 = p by omega]⟩)
    refine hn (closed_row hc hr (p - 1 - q) q (by omega) ?_)
    rw [show q + (p - 1 - q) = p - 1 by omega]; exact hp1
end Mine
end
noncomputable section
set_option autoImplicit false
namespace Mine
noncomputable abbrev ringN (rows : List (List Nat)) : List Nat := endsN (stepsN rows) 7
structure CInv (rows : List (List Nat)) (c : List Nat) : Prop where
  cl : Closed rows c
  nd : c.Nodup
  low : ∀ k ∈ c, k < 7 ∧ k ∉ ringN rows
theorem cinv_nil (rows : List (List Nat)) : CInv rows [] := ⟨fun _ _ h => absurd h List.not_mem_nil, List.nodup_nil, fun _ h => absurd h List.not_mem_nil⟩
theorem cinv_add {rows : List (List Nat)} {c : List Nat} (h : CInv rows c) {x : Nat} (hx : x ∈ freeN rows c) : CInv rows (c ++ [x]) := by
  obtain ⟨h7, hn, hp⟩ := (mem_freeN h.cl).mp hx
  refine ⟨fun e he h2 => ?_, ?_, fun k hk => ?_⟩
  · rcases List.mem_append.mp h2 with h2 | h2
    · exact List.mem_append_left _ (h.cl e he h2)
    · refine List.mem_append_left _ (hp e.1 ?_)
      rw [← List.mem_singleton.mp h2]; exact he
  · exact List.nodup_append.mpr ⟨h.nd, by simp, fun a ha b hb => by rw [List.mem_singleton.mp hb]; exact fun q => hn (q ▸ ha)⟩
  · rcases List.mem_append.mp hk with hk | hk
    · exact h.low k hk
    · rw [List.mem_singleton.mp hk]
      refine ⟨h7, fun hr => ?_⟩
      obtain ⟨a, ha, he⟩ := ends_pred hr
      exact (h.low a (hp a he)).2 ha
theorem free_pick {rows : List (List Nat)} {c : List Nat} {p : Int} (h : (freeN rows c).isEmpty = false) : (freeN rows c).getD (p.fmod (freeN rows c).length).toNat 0 ∈ freeN rows c := by
  have hpos : 0 < (freeN rows c).length := List.length_pos_iff.mpr fun q => by rw [q] at h; cases h
  have h0 := Int.fmod_nonneg_of_pos p (show (0 : Int) < ((freeN rows c).length : Int) by omega)
  have h1 := Int.fmod_lt_of_pos p (show (0 : Int) < ((freeN rows c).length : Int) by omega)
  rw [List.getD_eq_getElem?_getD, List.getElem?_eq_getElem (show (p.fmod (freeN rows c).length).toNat < (freeN rows c).length by omega), Option.getD_some]
  exact List.getElem_mem _
theorem cinv_step {rows : List (List Nat)} {c : List Nat} (h : CInv rows c) (p : Int) : CInv rows (goStep rows c p) := by
  unfold goStep
  split
  · exact h
  · rename_i hf
    exact cinv_add h (free_pick (by simpa using hf))
theorem cinv_course (rows : List (List Nat)) : ∀ (picks : List Int) (c : List Nat), CInv rows c → CInv rows (picks.foldl (goStep rows) c)
  | [], _, h => h
  | p :: ps, _, h => cinv_course rows ps _ (cinv_step h p)
theorem course_inv (rows : List (List Nat)) (picks : List Int) : CInv rows (courseN rows picks) := cinv_course rows picks [] (cinv_nil rows)
theorem course_grow (rows : List (List Nat)) : ∀ (picks : List Int) (c : List Nat), (picks.foldl (goStep rows) c).length = c.length + picks.length ∨ freeN rows (picks.foldl (goStep rows) c) = []
  | [], _ => .inl rfl
  | p :: ps, c => by
    rw [List.foldl_cons]
    cases hf : (freeN rows c).isEmpty with
    | true =>
      have e : goStep rows c p = c := by rw [goStep, if_pos hf]
      rw [e]
      have stay : ∀ l : List Int, l.foldl (goStep rows) c = c := fun l => by
        induction l with
        | nil => rfl
        | cons q l ih => rw [List.foldl_cons, show goStep rows c q = c by rw [goStep, if_pos hf]]; exact ih
      rw [stay]
      exact .inr (List.isEmpty_iff.mp hf)
    | false =>
      have e : (goStep rows c p).length = c.length + 1 := by rw [goStep, if_neg (by rw [hf]; decide)]; simp
      rcases course_grow rows ps (goStep rows c p) with h | h
      · left; rw [h, e, List.length_cons]; omega
      · exact .inr h
theorem course_all {rows : List (List Nat)} (hlow : ∀ l ∈ rows, ∀ k ∈ l, k < 7) {picks : List Int} (hp : picks.length = 7) {k : Nat} (hk : k < 7) : k ∈ courseN rows picks ↔ k ∉ ringN rows := by
  have inv := course_inv rows picks
  refine ⟨fun h => (inv.low k h).2, fun hr => ?_⟩
  rcases course_grow rows picks [] with h | h
  · have hl : (courseN rows picks).length = 7 := by rw [courseN, h, hp]; rfl
    refine Classical.byContradiction fun hn => ?_
    have nd : (k :: courseN rows picks).Nodup := List.nodup_cons.mpr ⟨hn, inv.nd⟩
    have := nodup_len (M := List.range 7) nd fun x hx => by
      rcases List.mem_cons.mp hx with rfl | hx
      · exact List.mem_range.mpr hk
      · exact List.mem_range.mpr (inv.low x hx).1
    rw [List.length_cons, hl, List.length_range] at this; omega
  · refine Classical.byContradiction fun hn => hr ?_
    refine ring_ends (S := fun j => j < 7 ∧ j ∉ courseN rows picks) (fun _ q => q.1) (fun j hj => ?_) 7 k ⟨hk, hn⟩
    have hnf : j ∉ freeN rows (courseN rows picks) := by rw [courseN, h]; exact List.not_mem_nil
    refine Classical.byContradiction fun hno => hnf ((mem_freeN inv.cl).mpr ⟨hj.1, hj.2, fun a ha => Classical.byContradiction fun hna => hno ⟨a, ⟨?_, hna⟩, ha⟩⟩)
    obtain ⟨row, hrow, p, hp, rfl, _⟩ := mem_stepsN.mp ha
    refine hlow row hrow _ ?_
    rw [List.getD_eq_getElem?_getD, List.getElem?_eq_getElem (show p < row.length by omega), Option.getD_some]
    exact List.getElem_mem _
end Mine
end
noncomputable section
set_option autoImplicit false
namespace Mine
noncomputable def Ord (rows : List (List Nat)) (c : List Nat) : Prop := ∃ r : Nat → Nat, (∀ e ∈ stepsN rows, e.2 ∈ c → r e.1 < r e.2) ∧ c.Pairwise (fun a b => r a < r b) ∧ ∀ k ∈ c, r k < c.length
theorem ord_add {rows : List (List Nat)} {c : List Nat} (h : CInv rows c) (o : Ord rows c) {x : Nat} (hx : x ∈ freeN rows c) : Ord rows (c ++ [x]) := by
  obtain ⟨h7, hn, hp⟩ := (mem_freeN h.cl).mp hx
  obtain ⟨r, h1, h2, h3⟩ := o
  have ne : ∀ k ∈ c, k ≠ x := fun k hk q => hn (q ▸ hk)
  refine ⟨fun k => if k = x then c.length else r k, fun e he h2' => ?_, ?_, fun k hk => ?_⟩
  · rcases List.mem_append.mp h2' with q | q
    · simp only [ne _ q, ne _ (h.cl e he q), if_false]
      exact h1 e he q
    · have q := List.mem_singleton.mp q
      have ha := hp e.1 (by rw [← q]; exact he)
      simp only [q, ne _ ha, if_true, if_false]
      exact h3 _ ha
  · refine List.pairwise_append.mpr ⟨h2.imp_of_mem fun ha hb q => by simp only [ne _ ha, ne _ hb, if_false]; exact q, List.pairwise_singleton .., fun a ha b hb => ?_⟩
    rw [List.mem_singleton.mp hb]
    simp only [ne _ ha, if_true, if_false]
    exact h3 a ha
  · rw [List.length_append, List.length_singleton]
    rcases List.mem_append.mp hk with q | q
    · simp only [ne _ q, if_false]; have := h3 k q; omega
    · simp only [List.mem_singleton.mp q, if_true]; omega
theorem ord_course (rows : List (List Nat)) : ∀ (picks : List Int) (c : List Nat), CInv rows c → Ord rows c → Ord rows (picks.foldl (goStep rows) c)
  | [], _, _, o => o
  | p :: ps, c, h, o => by
    refine ord_course rows ps _ (cinv_step h p) ?_
    unfold goStep
    split
    · exact o
    · rename_i hf
      exact ord_add h o (free_pick (by simpa using hf))
theorem course_ord (rows : List (List Nat)) (picks : List Int) : Ord rows (courseN rows picks) := ord_course rows picks [] (cinv_nil rows) ⟨fun _ => 0, fun _ _ h => absurd h List.not_mem_nil, .nil, fun _ h => absurd h List.not_mem_nil⟩
theorem eq_of_rank {r : Nat → Nat} : ∀ {l m : List Nat}, l.Pairwise (fun a b => r a < r b) → m.Pairwise (fun a b => r a < r b) → (∀ k, k ∈ l ↔ k ∈ m) → l = m
  | [], [], _, _, _ => rfl
  | [], b :: m, _, _, h => absurd ((h b).mpr List.mem_cons_self) List.not_mem_nil
  | a :: l, [], _, _, h => absurd ((h a).mp List.mem_cons_self) List.not_mem_nil
  | a :: l, b :: m, hl, hm, h => by
    obtain ⟨l1, l2⟩ := List.pairwise_cons.mp hl
    obtain ⟨m1, m2⟩ := List.pairwise_cons.mp hm
    have hab : a = b := by
      rcases List.mem_cons.mp ((h a).mp List.mem_cons_self) with q | q
      · exact q
      · rcases List.mem_cons.mp ((h b).mpr List.mem_cons_self) with q' | q'
        · exact q'.symm
        · have := m1 a q; have := l1 b q'; omega
    subst hab
    rw [eq_of_rank l2 m2 fun k => ?_]
    constructor
    · intro hk
      rcases List.mem_cons.mp ((h k).mp (List.mem_cons_of_mem _ hk)) with q | q
      · have := l1 k hk; rw [q] at this; omega
      · exact q
    · intro hk
      rcases List.mem_cons.mp ((h k).mpr (List.mem_cons_of_mem _ hk)) with q | q
      · have := m1 k hk; rw [q] at this; omega
      · exact q
theorem pile_eq {rows : List (List Nat)} (hlow : ∀ l ∈ rows, ∀ k ∈ l, k < 7) {picks : List Int} (hp : picks.length = 7) {row : List Nat} (hr : row ∈ rows) : (courseN rows picks).filter (fun k => row.contains k) = row.filter fun k => !(ringN rows).contains k := by
  have inv := course_inv rows picks
  obtain ⟨r, h1, h2, h3⟩ := course_ord rows picks
  have hall : ∀ k ∈ row, (k ∈ courseN rows picks ↔ k ∉ ringN rows) := fun k hk => course_all hlow hp (hlow row hr k hk)
  refine eq_of_rank (r := r) (h2.filter _) ?_ fun k => ?_
  · have key : ∀ (d p : Nat), p + d + 1 < row.length → row.getD (p + d + 1) 0 ∈ courseN rows picks → r (row.getD p 0) < r (row.getD (p + d + 1) 0) := fun d => by
      induction d with
      | zero => intro p hl hc; exact h1 (row.getD p 0, row.getD (p + 1) 0) (mem_stepsN.mpr ⟨row, hr, p, hl, rfl, rfl⟩) hc
      | succ d ih =>
        intro p hl hc
        have e : (row.getD (p + d + 1) 0, row.getD (p + (d + 1) + 1) 0) ∈ stepsN rows := mem_stepsN.mpr ⟨row, hr, p + d + 1, hl, rfl, rfl⟩
        exact Nat.lt_trans (ih p (by omega) (inv.cl _ e hc)) (h1 _ e hc)
    rw [List.pairwise_filter]
    rw [List.pairwise_iff_getElem]
    intro i j hi hj hij _ hb
    have hb' : row[j] ∉ ringN rows := by simpa using hb
    have hbc := (hall _ (List.getElem_mem hj)).mpr hb'
    have g : ∀ {q : Nat} (hq : q < row.length), row.getD q 0 = row[q] := fun hq => by rw [List.getD_eq_getElem?_getD, List.getElem?_eq_getElem hq]; rfl
    have := key (j - i - 1) i (by omega) (by rw [show i + (j - i - 1) + 1 = j by omega, g hj]; exact hbc)
    rw [show i + (j - i - 1) + 1 = j by omega, g hj, g hi] at this
    exact this
  · rw [List.mem_filter, List.mem_filter]
    constructor
    · rintro ⟨a, b⟩
      have b' : k ∈ row := by simpa using b
      exact ⟨b', by simpa using (hall k b').mp a⟩
    · rintro ⟨a, b⟩
      exact ⟨(hall k a).mpr (by simpa using b), by simpa using a⟩
end Mine
end
noncomputable section
set_option autoImplicit false
namespace Mine
theorem freeN_sorted (rows : List (List Nat)) (gone : List Nat) : (freeN rows gone).Pairwise (· ≤ ·) := by
  unfold freeN
  exact (List.pairwise_lt_range.imp fun h => Nat.le_of_lt h).filter _
theorem freeN_nodup (rows : List (List Nat)) (gone : List Nat) : (freeN rows gone).Nodup := List.nodup_range.filter _
theorem waits_perm {rows : List (List Nat)} {gone l : List Nat} (hl : l.Nodup) (h : ∀ k, k ∈ l ↔ k ∈ freeN rows gone) : l.Perm (freeN rows gone) := by
  rw [List.perm_iff_count]
  intro k
  have c1 := List.nodup_iff_count.mp hl k
  have c2 := List.nodup_iff_count.mp (freeN_nodup rows gone) k
  by_cases hk : k ∈ l
  · have := List.count_pos_iff.mpr hk
    have := List.count_pos_iff.mpr ((h k).mp hk)
    omega
  · rw [List.count_eq_zero_of_not_mem hk, List.count_eq_zero_of_not_mem fun q => hk ((h k).mpr q)]
end Mine
end
noncomputable section
set_option autoImplicit false
namespace Mine
inductive FinOk (su : Nat → List Nat) : List Nat → Prop
  | nil : FinOk su []
  | snoc {l : List Nat} {k : Nat} : FinOk su l → (∀ j ∈ su k, j ∈ l) → k ∉ l → FinOk su (l ++ [k])
theorem FinOk.rank {su : Nat → List Nat} {l : List Nat} (h : FinOk su l) : (∀ k ∈ l, ∀ j ∈ su k, j ∈ l) ∧ ∃ r : Nat → Nat, ∀ k ∈ l, ∀ j ∈ su k, r k < r j := by
  induction h with
  | nil => exact ⟨fun _ h => absurd h List.not_mem_nil, fun _ => 0, fun _ h => absurd h List.not_mem_nil⟩
  | @snoc l k _ hs hn ih =>
    obtain ⟨hc, r, hr⟩ := ih
    refine ⟨fun x hx j hj => ?_, fun x => if x = k then 0 else r x + 1, fun x hx j hj => ?_⟩
    · rcases List.mem_append.mp hx with q | q
      · exact List.mem_append_left _ (hc x q j hj)
      · rw [List.mem_singleton.mp q] at hj
        exact List.mem_append_left _ (hs j hj)
    · rcases List.mem_append.mp hx with q | q
      · have h1 : x ≠ k := fun e => hn (e ▸ q)
        have h2 : j ≠ k := fun e => hn (e ▸ hc x q j hj)
        simp only [h1, h2, if_false]
        have := hr x q j hj; omega
      · have q := List.mem_singleton.mp q
        rw [q] at hj ⊢
        have h2 : j ≠ k := fun e => hn (e ▸ hs j hj)
        simp only [h2, if_true, if_false]; omega
end Mine
end
noncomputable section
set_option autoImplicit false
namespace Mine
noncomputable def StkOk (su : Nat → List Nat) (fin : List Nat) : List Nat → List (Nat × Nat) → Prop
  | _, [] => True
  | above, (k, i) :: rest => (∀ j ∈ (su k).take i, j ∈ fin ∨ j ∈ above) ∧ (∀ z, above.head? = some z → z ∈ su k) ∧ StkOk su fin (k :: above) rest
structure Dfs (su : Nat → List Nat) (st : List (Nat × Nat)) (sn fin : List Nat) (y : List Nat) : Prop where
  fok : FinOk su fin
  stk : StkOk su fin y st
  seen : ∀ k, k ∈ sn ↔ k ∈ st.map (·.1) ∨ k ∈ fin
  disj : ∀ k ∈ st.map (·.1), k ∉ fin
  nd : (st.map (·.1)).Nodup
theorem Dfs.start (su : Nat → List Nat) (sn fin : List Nat) (h : FinOk su fin) (hs : ∀ k, k ∈ sn ↔ k ∈ fin) (y : List Nat) : Dfs su [] sn fin y := ⟨h, trivial, fun k => by simp [hs k], fun _ h => absurd h List.not_mem_nil, List.nodup_nil⟩
variable {su : Nat → List Nat} {st : List (Nat × Nat)} {sn fin : List Nat} {k i y : Nat}
theorem Dfs.item (h : Dfs su ((k, i) :: st) sn fin []) (hy : (su k)[i]? = some y) : Dfs su ((k, i + 1) :: st) sn fin [y] := by
  obtain ⟨h1, _, h3⟩ := h.stk
  have low : ∀ (st : List (Nat × Nat)) (ab : List Nat), StkOk su fin (k :: ab) st → StkOk su fin (k :: y :: ab) st := by
    have gen : ∀ (st : List (Nat × Nat)) (hd : List Nat) (ab : List Nat), hd ≠ [] → StkOk su fin (hd ++ ab) st → StkOk su fin (hd ++ y :: ab) st := fun st => by
      induction st with
      | nil => intros; trivial
      | cons e st ih =>
        intro hd ab hne hh
        obtain ⟨k', i'⟩ := e
        obtain ⟨g1, g2, g3⟩ := hh
        refine ⟨fun j hj => (g1 j hj).imp id fun q => ?_, fun z hz => g2 z ?_, ih (k' :: hd) ab (by simp) g3⟩
        · rcases List.mem_append.mp q with q | q
          · exact List.mem_append_left _ q
          · exact List.mem_append_right _ (List.mem_cons_of_mem _ q)
        · cases hd with
          | nil => exact absurd rfl hne
          | cons a hd => simpa using hz
    intro st ab hh
    exact gen st [k] ab (by simp) hh
  refine ⟨h.fok, ⟨fun j hj => ?_, fun z hz => ?_, low st [] h3⟩, h.seen, h.disj, h.nd⟩
  · rw [List.take_add_one, hy] at hj
    rcases List.mem_append.mp hj with q | q
    · exact (h1 j q).imp id fun q => absurd q List.not_mem_nil
    · right; simpa using q
  · have : y = z := by simpa using hz
    rw [← this]; exact List.mem_of_getElem? hy
theorem Dfs.push (h : Dfs su st sn fin [y]) (hy : y ∉ sn) : Dfs su ((y, 0) :: st) (sn ++ [y]) fin [] := by
  refine ⟨h.fok, ⟨fun j hj => by simp at hj, fun z hz => by simp at hz, h.stk⟩, fun k => ?_, fun k hk => ?_, ?_⟩
  · rw [List.mem_append, h.seen k, List.map_cons, List.mem_singleton, List.mem_cons]
    constructor
    · rintro ((q | q) | q)
      · exact .inl (.inr q)
      · exact .inr q
      · exact .inl (.inl q)
    · rintro ((q | q) | q)
      · exact .inr q
      · exact .inl (.inl q)
      · exact .inl (.inr q)
  · rw [List.map_cons] at hk
    rcases List.mem_cons.mp hk with q | q
    · rw [q]; exact fun hf => hy ((h.seen y).mpr (.inr hf))
    · exact h.disj k q
  · rw [List.map_cons]
    exact List.nodup_cons.mpr ⟨fun q => hy ((h.seen y).mpr (.inl q)), h.nd⟩
theorem Dfs.pop (h : Dfs su ((k, i) :: st) sn fin []) (hi : (su k)[i]? = none) : ∃ fin', Dfs su st sn fin' [] ∧ ∀ j ∈ fin, j ∈ fin' := by
  obtain ⟨h1, _, h3⟩ := h.stk
  have hlen : (su k).length ≤ i := List.getElem?_eq_none_iff.mp hi
  rw [List.take_of_length_le hlen] at h1
  have hk : k ∉ fin := h.disj k List.mem_cons_self
  have hf' : ∀ j ∈ fin, j ∈ fin ++ [k] := fun j q => List.mem_append_left _ q
  have hnd := List.nodup_cons.mp (show (k :: st.map (·.1)).Nodup from h.nd)
  have drop : ∀ (st : List (Nat × Nat)) (hd : List Nat), StkOk su fin (hd ++ [k]) st → hd ≠ [] → StkOk su (fin ++ [k]) hd st := fun st => by
    induction st with
    | nil => intros; trivial
    | cons e st ih =>
      intro hd hh hne
      obtain ⟨k', i'⟩ := e
      obtain ⟨g1, g2, g3⟩ := hh
      refine ⟨fun j hj => ?_, fun z hz => g2 z ?_, ih (k' :: hd) g3 (by simp)⟩
      · rcases g1 j hj with q | q
        · exact .inl (hf' j q)
        · rcases List.mem_append.mp q with q | q
          · exact .inr q
          · exact .inl (List.mem_append_right _ q)
      · cases hd with
        | nil => exact absurd rfl hne
        | cons a hd => simpa using hz
  refine ⟨fin ++ [k], ⟨.snoc h.fok (fun j hj => (h1 j hj).resolve_right (by simp)) hk, ?_, fun j => ?_, fun j hj hf => ?_, hnd.2⟩, hf'⟩
  · cases st with
    | nil => trivial
    | cons e st =>
      obtain ⟨k', i'⟩ := e
      obtain ⟨g1, g2, g3⟩ := h3
      refine ⟨fun j hj => ?_, fun z hz => by simp at hz, drop st [k'] g3 (by simp)⟩
      rcases g1 j hj with q | q
      · exact .inl (hf' j q)
      · exact .inl (List.mem_append_right _ q)
  · rw [h.seen j, List.map_cons, List.mem_cons, List.mem_append, List.mem_singleton]
    constructor
    · rintro ((q | q) | q)
      · exact .inr (.inr q)
      · exact .inl q
      · exact .inr (.inl q)
    · rintro (q | q | q)
      · exact .inl (.inr q)
      · exact .inr q
      · exact .inl (.inl q)
  · rcases List.mem_append.mp hf with q | q
    · exact h.disj j (List.mem_cons_of_mem _ hj) q
    · exact hnd.1 (List.mem_singleton.mp q ▸ hj)
end Mine
end
noncomputable section
set_option autoImplicit false
namespace Mine
theorem stk_hit {su : Nat → List Nat} {fin : List Nat} {y : Nat} : ∀ (st : List (Nat × Nat)) (above : List Nat), StkOk su fin above st → (∀ z, above.head? = some z → True) → y ∈ st.map (·.1) →
    ∃ S : List Nat, y ∈ S ∧ (∀ k ∈ S, k = y ∨ ∃ a ∈ S, k ∈ su a) ∧ (∀ z, above.head? = some z → ∃ a ∈ S, z ∈ su a) ∧ ∀ k ∈ S, k ∈ st.map (·.1)
  | [], _, _, _, h => by simp at h
  | (k, i) :: st, above, ⟨_, h2, h3⟩, _, hy => by
    rw [List.map_cons] at hy
    by_cases hk : y = k
    · exact ⟨[y], by simp, fun j hj => .inl (List.mem_singleton.mp hj), fun z hz => ⟨y, by simp, hk ▸ h2 z hz⟩, fun j hj => by rw [List.mem_singleton.mp hj]; exact hy⟩
    · have hy' : y ∈ st.map (·.1) := (List.mem_cons.mp hy).resolve_left hk
      obtain ⟨S, g1, g2, g3, g4⟩ := stk_hit st (k :: above) h3 (fun _ _ => trivial) hy'
      obtain ⟨a, ha, hak⟩ := g3 k rfl
      refine ⟨k :: S, List.mem_cons_of_mem _ g1, fun j hj => ?_, fun z hz => ⟨k, List.mem_cons_self, h2 z hz⟩, fun j hj => ?_⟩
      · rcases List.mem_cons.mp hj with rfl | hj
        · exact .inr ⟨a, List.mem_cons_of_mem _ ha, hak⟩
        · exact (g2 j hj).imp id fun ⟨b, hb, q⟩ => ⟨b, List.mem_cons_of_mem _ hb, q⟩
      · rw [List.map_cons]
        rcases List.mem_cons.mp hj with rfl | hj
        · exact List.mem_cons_self
        · exact List.mem_cons_of_mem _ (g4 j hj)
theorem Dfs.hit {su : Nat → List Nat} {st : List (Nat × Nat)} {sn fin : List Nat} {y : Nat} (h : Dfs su st sn fin [y]) (hy : y ∈ st.map (·.1)) : ∃ S : List Nat, y ∈ S ∧ (∀ k ∈ S, k ∈ st.map (·.1)) ∧ ∀ k ∈ S, ∃ a ∈ S, k ∈ su a := by
  obtain ⟨S, g1, g2, g3, g4⟩ := stk_hit st [y] h.stk (fun _ _ => trivial) hy
  refine ⟨S, g1, g4, fun k hk => ?_⟩
  rcases g2 k hk with rfl | q
  · exact g3 k rfl
  · exact q
end Mine
end
noncomputable section
set_option autoImplicit false
namespace Mine
theorem Dfs.drop {su : Nat → List Nat} {st : List (Nat × Nat)} {sn fin : List Nat} {y : Nat} (h : Dfs su st sn fin [y]) (hy : y ∈ fin) : Dfs su st sn fin [] := by
  have drop : ∀ (st : List (Nat × Nat)) (hd : List Nat), StkOk su fin (hd ++ [y]) st → hd ≠ [] → StkOk su fin hd st := fun st => by
    induction st with
    | nil => intros; trivial
    | cons e st ih =>
      intro hd hh hne
      obtain ⟨k', i'⟩ := e
      obtain ⟨g1, g2, g3⟩ := hh
      refine ⟨fun j hj => ?_, fun z hz => g2 z ?_, ih (k' :: hd) g3 (by simp)⟩
      · rcases g1 j hj with q | q
        · exact .inl q
        · rcases List.mem_append.mp q with q | q
          · exact .inr q
          · rw [List.mem_singleton.mp q]; exact .inl hy
      · cases hd with
        | nil => exact absurd rfl hne
        | cons a hd => simpa using hz
  refine ⟨h.fok, ?_, h.seen, h.disj, h.nd⟩
  have hs := h.stk
  cases st with
  | nil => trivial
  | cons e st =>
    obtain ⟨k', i'⟩ := e
    obtain ⟨g1, g2, g3⟩ := hs
    refine ⟨fun j hj => ?_, fun z hz => by simp at hz, drop st [k'] g3 (by simp)⟩
    rcases g1 j hj with q | q
    · exact .inl q
    · rw [List.mem_singleton.mp q]; exact .inl hy
end Mine
end
noncomputable section
open PySem PySem.W PyProof.Rows PySem.SeqAt PySem.MeetsSeq
set_option Elab.async false
set_option autoImplicit false
set_option maxRecDepth 100000
namespace Mine
noncomputable def FindV (σ : Sd) (d : Dat) : Prop := (d = .none ∧ ∃ r : Nat → Nat, ∀ k ∈ σ.ks, ∀ j ∈ σ.su k, r k < r j) ∨ ∃ ds : List Dat, d = .lst ds ∧ ds ≠ [] ∧ ds.length ≤ 8 ∧ ∃ S : List Nat, S ≠ [] ∧ (∀ k ∈ S, k ∈ σ.ks) ∧ ∀ k ∈ S, ∃ a ∈ S, k ∈ σ.su a
noncomputable def stN (st : List DE) : List (Nat × Nat) := (st.map fun e => (e.k, e.i)).reverse
theorem stN_snoc (st : List DE) (e : DE) : stN (st ++ [e]) = (e.k, e.i) :: stN st := by simp [stN]
theorem stN_keys (st : List DE) : (stN st).map (·.1) = (st.map DE.k).reverse := by simp [stN, List.map_reverse]
section
variable {C : Cx} (B : Base C (K3 C)) {Z : Srt} {σ : Sd}
include B
theorem g_stop : GlobIs C (Str.ofString "StopIteration") (.type "StopIteration") := glob_bui B (by kernel_rfl!) (by decide +kernel) (by decide +kernel)
theorem find_spec (hsu : ∀ k ∈ σ.ks, ∀ j ∈ σ.su k, j ∈ σ.ks) : FCall C aT aN 2 aCyc [] Z σ (fun Z' σ' d => Z' = Z ∧ σ' = σ ∧ FindV σ d) := by
  refine fcall_fn (xs := [Str.ofString "self"]) (es := [.val (.ref Z.s)]) (fnC B rfl (by kernel_rfl!) rfl (by kernel_rfl!)) rfl (fun R s vs ro _ hr => by (have q_ := RdAll.nilE hr; clear hr; subst q_); exact bnd_plain ro (by kernel_rfl!) (.cons (.val _) .nil)) ?_
  intro A Out env W s₀ s R R₁ Mu hsc hf hfr Lv dis rm F S
  clear hsc
  dsimp only at F
  refine cps fun Q hQ => ?_
  obtain ⟨h, t, n, hd⟩ := S.d
  refine st_assign F rm (ev_own B.at (k_n2i _) (ev_name rfl) S.s hd look_n2i) fun s₁ R₂ l₁ F₁ => ?_
  refine st_list_new F₁ fun s₂ R₃ lS l₂ hS0 hSs F₂ => ?_
  refine st_list_new F₂ fun s₃ R₄ lI l₃ hI0 hIs F₃ => ?_
  refine st_set_new F₃ rm (ev_glob (g_setT B.at) rfl) fun s₄ R₅ lN oN l₄ hN0 hoN F₄ => ?_
  refine st_dict_new F₄ fun s₅ R₆ lD l₅ hD0 hDs F₅ => ?_
  have mS := F₁.noMu hS0
  have mI := F₂.noMu hI0
  have mN := F₃.noMu hN0
  have mD := F₄.noMu hD0
  have off : ∀ {M : Reg} {a b : Addr} {o : Obj}, (M.set b o) a = none → a ≠ b ∧ M a = none := fun {M a b o} h => by
    by_cases q : a = b
    · rw [q, Reg.set_self] at h; (have q_ := oSN h; clear h; exact q_.elim)
    · exact ⟨q, by rw [Reg.set_ne _ _ q] at h; exact h⟩
  obtain ⟨nIS, mI⟩ := off mI
  obtain ⟨nNI, mN⟩ := off mN
  obtain ⟨nNS, mN⟩ := off mN
  obtain ⟨nDN, mD⟩ := off mD
  obtain ⟨nDI, mD⟩ := off mD
  obtain ⟨nDS, mD⟩ := off mD
  have hsm : (lD == sysModules) = false := beq_eq_false_iff_ne.mpr (Nat.ne_of_gt (Nat.lt_of_lt_of_le (modules_low (B.nolimit.keeps F₄.ro.hle0)) hDs))
  generalize ha : (Ad.mk lS lI lN lD) = a
  have haS : a.S = lS := by rw [← ha]
  have haI : a.I = lI := by rw [← ha]
  have haN : a.N = lN := by rw [← ha]
  have haD : a.D = lD := by rw [← ha]
  have nd : a.l.Nodup := by
    rw [← ha]
    simp only [Ad.l, List.nodup_cons, List.mem_cons, List.not_mem_nil, or_false, not_or, List.nodup_nil, and_true, not_false_eq_true]
    exact ⟨⟨nIS.symm, nNS.symm, nDS.symm⟩, ⟨nNI.symm, nDI.symm⟩, nDN.symm⟩
  have mnone : ∀ b ∈ a.l, Mu b = none := fun b hb => by
    rw [← ha] at hb
    simp only [Ad.l, List.mem_cons, List.not_mem_nil, or_false] at hb
    rcases hb with rfl | rfl | rfl | rfl <;> assumption
  have dis4 : ∀ b ∈ a.l, b ∉ frs Out := fun b hb hb' => by
    obtain ⟨o, e, _⟩ := Lv.obj hb'
    rw [mnone b hb] at e; (have q_ := oNS e; clear e; exact q_.elim)
  have disZ : ∀ b ∈ Z.all σ, b ∉ a.l := fun b hb hb' => by
    obtain ⟨o, e, _⟩ := S.obj hb
    rw [mnone b hb'] at e; (have q_ := oNS e; clear e; exact q_.elim)
  subst haS haI haN haD
  generalize hM : ((((Mu.set a.S (lstObj [] 0)).set a.I (lstObj [] 0)).set a.N oN).set a.D emptyDict : Reg) = M5 at F₅
  change Reg at M5
  have eM : ∀ b, b ∉ a.l → M5 b = Mu b := fun b hb => by
    simp only [Ad.l, List.mem_cons, List.not_mem_nil, or_false, not_or] at hb
    rw [← hM, Reg.set_ne _ _ hb.2.2.2, Reg.set_ne _ _ hb.2.2.1, Reg.set_ne _ _ hb.2.1, Reg.set_ne _ _ hb.1]
  have S5 : SAt C aT aN M5 Z σ := S.on fun b o hb e => by rw [eM b (disZ b hb)]; exact e
  have U5 : UpTo (frs Out) Mu M5 := .of fun b hb o e => by rw [eM b (fun q => dis4 b q hb)]; exact e
  have Lv5 : Live Out M5 := Lv.up U5
  have D5 : DInv C Z σ a Out (fun _ => 0) M5 R₆ M5 [] [] := by
    refine ⟨⟨[], 0, ?_, .nil⟩, ⟨0, ?_⟩, ⟨oN, _, ?_, hoN, by simp⟩, ⟨emptyDict, [], ?_, ⟨#[], 0, ⟨rfl, rfl, rfl⟩, rfl, fun e he => by simp at he, .nil, List.nodup_nil⟩, rfl⟩, (fun x hx => nomatch hx), List.nodup_nil, List.Pairwise.nil, (fun x hx => nomatch hx), List.nodup_nil, .of (fun _ _ _ e => e), fun _ _ _ e => e⟩
    · rw [← hM, Reg.set_ne _ _ nDS.symm, Reg.set_ne _ _ nNS.symm, Reg.set_ne _ _ nIS.symm, Reg.set_self]
    · rw [← hM, Reg.set_ne _ _ nDI.symm, Reg.set_ne _ _ nNI.symm, Reg.set_self]; rfl
    · rw [← hM, Reg.set_ne _ _ nDN.symm, Reg.set_self]
    · rw [← hM, Reg.set_self]
  have V5 : DV C M5 a.D [] := ⟨emptyDict, [], by rw [← hM, Reg.set_self], ⟨#[], 0, ⟨rfl, rfl, rfl⟩, rfl, fun e he => by simp at he, .nil, List.nodup_nil⟩, rfl, fun kv h => absurd h List.not_mem_nil⟩
  obtain ⟨od, hD, hdo⟩ := S5.D
  have hDm : (M5.minus (a.l ++ frs Out)) Z.D = some od := Reg.minus_some (fun q => by
    rcases List.mem_append.mp q with q | q
    · exact disZ _ (Srt.mem_all.mpr (.inr (.inr (.inl rfl)))) q
    · exact dis _ q (Srt.mem_all.mpr (.inr (.inr (.inl rfl))))) hD
  have hcast : (nodePairs σ.ks Z.inf).map (fun kv => Dat.int kv.1) = σ.ks.map fun (k : Nat) => Dat.int (k : Int) := by simp [nodePairs]
  refine st_for (L := σ.ks) (enc := fun k => Dat.int (k : Int)) (tds := fun k => [.int (k : Int)]) [Str.ofString "node"] (a.l ++ frs Out) (fun _ => ofL [(Str.ofString "self", .val (.ref Z.s)), (Str.ofString "n2i", .val (.ref Z.D)), (Str.ofString "stack", .val (.ref a.S)), (Str.ofString "itstack", .val (.ref a.I)), (Str.ofString "seen", .val (.ref a.N)), (Str.ofString "node2stacki", .val (.ref a.D))])
    (fun i R M => ∃ sn fin, (∃ r, DInv C Z σ a Out r M R M [] sn) ∧ DV C M a.D [] ∧ UpTo (frs Out) M5 M ∧ FinOk σ.su fin ∧ (∀ k, k ∈ sn ↔ k ∈ fin) ∧ ∀ k ∈ σ.ks.take i, k ∈ sn) F₅ rm (hcast ▸ evIt_dict (ev_name rfl) hDm hdo S.sm) (AllIn.le ⟨rfl, rfl, rfl, rfl, rfl, rfl, trivial⟩) (fun b hb => ?_) (by decide +kernel) (fun _ _ => ⟨rfl, rfl⟩)
    (fun i R R' M M' hJ l he => ?_) ⟨[], [], ⟨_, D5⟩, V5, .of fun _ _ _ e => e, .nil, fun _ => Iff.rfl, fun k hk => by simp at hk⟩ ?_ ?_
  · rcases List.mem_append.mp hb with q | q
    · simp only [Ad.l, List.mem_cons, List.not_mem_nil, or_false] at q
      rcases q with rfl | rfl | rfl | rfl
      · obtain ⟨vs, m, e, _⟩ := D5.sS; exact ⟨_, e⟩
      · obtain ⟨m, e⟩ := D5.sI; exact ⟨_, e⟩
      · obtain ⟨o, S, e, _⟩ := D5.sN; exact ⟨_, e⟩
      · obtain ⟨o, S, e, _⟩ := D5.sD; exact ⟨_, e⟩
    · obtain ⟨o, e, _⟩ := Lv5.obj q; exact ⟨o, e⟩
  · obtain ⟨sn, fin, ⟨r, D⟩, ⟨o, kvs, v1, v2⟩, U, hf1, hf2, hf3⟩ := hJ
    exact ⟨sn, fin, ⟨r, D.base he⟩, ⟨o, kvs, (he _ (by simp [Ad.l])).trans v1, v2⟩, U.trans (.of fun b hb o e => (he b (List.mem_append_right _ hb)).trans e), hf1, hf2, hf3⟩
  · intro i k s₆ R₇ M₆ hi l₆ hk F₆ ⟨snA, finA, ⟨r, D⟩, V, U, hfok, hfin, hcov⟩
    refine cps fun Qf hQf => ?_
    have hkk : k ∈ σ.ks := List.mem_of_getElem? hi
    have SM : ∀ M, Reg.keepsOff (a.l ++ frs Out) M₆ M → SAt C aT aN M Z σ := fun M hM => S5.on fun b o hb e => by
      have hb' : b ∉ a.l ++ frs Out := fun q => by
        rcases List.mem_append.mp q with q | q
        · exact disZ b hb q
        · exact dis b q hb
      exact hM b o hb' (hk b o hb' e)
    generalize hΔ : (fun y : Nat => ofL [(Str.ofString "self", .val (.ref Z.s)), (Str.ofString "n2i", .val (.ref Z.D)), (Str.ofString "stack", .val (.ref a.S)), (Str.ofString "itstack", .val (.ref a.I)), (Str.ofString "seen", .val (.ref a.N)), (Str.ofString "node2stacki", .val (.ref a.D)), (Str.ofString "node", .int (y : Int))]) = Δn
    have F₆ := F₆.toL [(Str.ofString "self", .val (.ref Z.s)), (Str.ofString "n2i", .val (.ref Z.D)), (Str.ofString "stack", .val (.ref a.S)), (Str.ofString "itstack", .val (.ref a.I)), (Str.ofString "seen", .val (.ref a.N)), (Str.ofString "node2stacki", .val (.ref a.D)), (Str.ofString "node", .int (k : Int))] ⟨rfl, rfl, rfl, rfl, rfl, rfl, rfl, trivial⟩
    have L6 : Live Out M₆ := Lv5.up U
    have hlen := S5.len
    obtain ⟨oN₆, Sn, eN, hN, hSn⟩ := id D.sN
    have hsl := sn_len D hlen
    refine st_if F₆ rm (evT_cmp (ev_name rfl) (ev_name rfl) (op_in_set eN hN (by simp only [scanBound]; omega))) fun s₇ R₈ l₇ F₇ => ?_
    rw [hSn k]
    have hnext : ∀ sn : List Nat, k ∈ sn → (∀ j ∈ snA, j ∈ sn) → ∀ j ∈ σ.ks.take (i + 1), j ∈ sn := fun sn h1 h2 j hj => by
      rw [List.take_add_one, hi] at hj
      rcases List.mem_append.mp hj with q | q
      · exact h2 j (hcov j q)
      · have q : j = k := by simpa using q
        rw [q]; exact h1
    by_cases hks : k ∈ snA
    · rw [decide_eq_true hks, if_pos rfl]
      refine wpAny_execs_cons (wpAny_Continue (hQf _ _ ⟨R₈, M₆, l₇, fun _ _ _ e => e, F₇.toL _ ⟨rfl, rfl, rfl, rfl, rfl, rfl, trivial⟩, snA, finA, ⟨r, D.le l₇⟩, V, U, hfok, hfin, hnext _ hks fun _ h => h⟩))
    rw [decide_eq_false hks, if_neg Bool.false_ne_true]
    refine st_nil ?_
    refine st_while (fun n s => ∃ R M st sn fin y, F.P s R M (Δn y) ∧ R₇.le R ∧ (∃ r, DInv C Z σ a Out r M₆ R M st sn) ∧ DV C M a.D st ∧ y ∈ σ.ks ∧ Dfs σ.su (stN st) sn fin [y] ∧ (y = k ∨ k ∈ sn) ∧ (∀ j ∈ snA, j ∈ sn) ∧ n = rest1 σ sn + rest2 σ st) _ ⟨R₈, M₆, [], snA, finA, k, by rw [← hΔ]; exact F₇, l₇, ⟨r, D.le l₇⟩, V, hkk, Dfs.start σ.su snA finA hfok hfin [k], .inl rfl, fun _ h => h, rfl⟩ ?_
    clear D
    rintro n s₈ ⟨R₉, M₈, st, sn, fin, y, F₈, l₈, ⟨r, D⟩, ⟨oD, kvs, eD, hD', hkv, hnv⟩, hy, hdfs, hyk, hmono, rfl⟩
    rw [← hΔ] at F₈
    refine noE (evT_true (C := C.at M₈) A env s₈ R₉ rm F₈.rom F₈.eo) fun b s₉ p₉ => ?_
    obtain ⟨k₉, rfl⟩ := p₉
    rw [if_pos rfl]
    refine cps fun Qw hQw => ?_
    have F₉ := F₈.ext k₉
    have D₉ := D.le (Reg.ext_le F₈.ro.on (h' := s₉.heap))
    have l₉ := l₈.trans (Reg.ext_le F₈.ro.on (h' := s₉.heap))
    generalize R₉.ext s₈.heap s₉.heap = R₉ at F₉ D₉ l₉
    obtain ⟨oN₉, Sn, eN, hN, hSn⟩ := id D₉.sN
    have hsl := sn_len D₉ hlen
    refine (fun (P : Shared → Prop) (hP : ∀ s, (∃ R M st' sn' fin z, F.P s R M (Δn z) ∧ R₇.le R ∧ (∃ r, DInv C Z σ a Out r M₆ R M st' sn') ∧ DV C M a.D st' ∧ Dfs σ.su (stN st') sn' fin [] ∧ k ∈ sn' ∧ (∀ j ∈ snA, j ∈ sn') ∧ rest1 σ sn' + rest2 σ st' ≤ rest1 σ sn + rest2 σ st) → P s) (hP' : ∀ s, P s → ∃ R M st' sn' fin z, F.P s R M (Δn z) ∧ R₇.le R ∧ (∃ r, DInv C Z σ a Out r M₆ R M st' sn') ∧ DV C M a.D st' ∧ Dfs σ.su (stN st') sn' fin [] ∧ k ∈ sn' ∧ (∀ j ∈ snA, j ∈ sn') ∧ rest1 σ sn' + rest2 σ st' ≤ rest1 σ sn + rest2 σ st) => ?_) _ (fun _ h => h) (fun _ h => h)
    refine st_ifP P F₉ rm (evT_cmp (ev_name rfl) (ev_name rfl) (op_in_set eN hN (by simp only [scanBound]; omega))) (fun s₁₀ R₁₀ l₁₀ F₁₀ => ?_) ?_
    · rw [hSn y]
      have hkI : ∀ y : Nat, (y : Int) ∈ st.map (fun e => (e.k : Int)) ↔ y ∈ st.map DE.k := fun y => by
        constructor
        · intro q
          obtain ⟨e, he, q⟩ := List.mem_map.mp q
          exact List.mem_map.mpr ⟨e, he, by omega⟩
        · intro q
          obtain ⟨e, he, q⟩ := List.mem_map.mp q
          exact List.mem_map.mpr ⟨e, he, by omega⟩
      by_cases hys : y ∈ sn
      · rw [decide_eq_true hys, if_pos rfl]
        refine st_if F₁₀ rm (evT_cmp (ev_name rfl) (ev_name rfl) (op_in_dict eD hD' hsm)) fun s₁₁ R₁₁ l₁₁ F₁₁ => ?_
        by_cases hyst : y ∈ st.map DE.k
        · rw [valueAt_keys, hkv, decide_eq_true ((hkI y).mpr hyst), if_pos rfl]
          obtain ⟨vs, mS', eS, hvs⟩ := id D₉.sS
          have hstl := st_len D₉ hlen
          obtain ⟨j, tj, hj⟩ := hnv.at (k := (y : Int)) (by rw [hkv]; exact (hkI y).mpr hyst)
          have hpl : (pick (encN (st.map DE.k)) (some (j : Int)) none none).length ≤ 7 := by rw [encN, pick_map, pickL_from _ _ (by omega)]; simp; omega
          refine st_ret (d := .lst (pick (encN (st.map DE.k)) (some (j : Int)) none none ++ [.int (y : Int)])) F₁₁ rm (ev_bin (ev_mfrom eS hvs (ev_name rfl) (ev_sub (ev_name rfl) (ev_name rfl) (op_dint eD hD' hj)) (by rw [sizeLine_val]; simp [encN]; omega)) (ev_list (evAll_cons (ev_name rfl) evAll_nil)) (op_cat ?_)) fun s₁₂ R₁₂ v l₁₂ F₁₂ hv => ?_
          · show _ + 1 ≤ _; rw [sizeLine_val]; omega
          · obtain ⟨S, g1, g2, g3⟩ := hdfs.hit (by rw [stN_keys]; simpa using hyst)
            have SR := SM M₈ D₉.off
            refine hQw _ _ (hQf _ _ (hQ _ _ ⟨R₁₂, M₈, _, Z, σ, _, F₁₂, U5.trans (U.trans D₉.fr), SR, ⟨rfl, rfl, .inr ⟨_, rfl, by simp, by show (_ ++ [_]).length ≤ 8; rw [List.length_append]; exact Nat.succ_le_succ hpl, S, (fun q => by rw [q] at g1; exact absurd g1 List.not_mem_nil), fun x hx => ?_, g3⟩⟩, rfl, fun b hb => .inl hb, fun b hb => hb, hv⟩))
            have := g2 x hx
            rw [stN_keys, List.mem_reverse] at this
            obtain ⟨e, he, rfl⟩ := List.mem_map.mp this
            exact (D₉.ent e he).2.2.1
        rw [valueAt_keys, hkv, decide_eq_false (fun q => hyst ((hkI y).mp q)), if_neg Bool.false_ne_true]
        have hyf : y ∈ fin := ((hdfs.seen y).mp hys).resolve_left (by rw [stN_keys]; simpa using hyst)
        exact st_nil (st_nil (hP _ ⟨R₁₁, M₈, st, sn, fin, y, by rw [← hΔ]; exact F₁₁, l₉.trans (l₁₀.trans l₁₁), ⟨r, D₉.le (l₁₀.trans l₁₁)⟩, ⟨oD, kvs, eD, hD', hkv, hnv⟩, hdfs.drop hyf, by rcases hyk with q | q <;> first | exact q ▸ hys | exact q, hmono, Nat.le_refl _⟩))
      · rw [decide_eq_false hys, if_neg Bool.false_ne_true]
        have hystN : y ∉ st.map DE.k := fun q => hys ((hdfs.seen y).mpr (.inl (by rw [stN_keys]; simpa using q)))
        have hyst : (y : Int) ∉ st.map (fun e => (e.k : Int)) := fun q => hystN ((hkI y).mp q)
        obtain ⟨r, D₉, hr⟩ := D₉.rerank hystN
        have hstl := st_len D₉ hlen
        have M8some : ∀ b ∈ a.l ++ frs Out, ∃ o, M₈ b = some o := fun b hb => by
          rcases List.mem_append.mp hb with q | q
          · simp only [Ad.l, List.mem_cons, List.not_mem_nil, or_false] at q
            rcases q with rfl | rfl | rfl | rfl
            · obtain ⟨vs, m, e, _⟩ := D₉.sS; exact ⟨_, e⟩
            · obtain ⟨m, e⟩ := D₉.sI; exact ⟨_, e⟩
            · exact ⟨_, eN⟩
            · exact ⟨_, eD⟩
          · obtain ⟨o, e, _⟩ := (L6.up D₉.fr).obj q; exact ⟨o, e⟩
        refine st_expr (mset_add F₁₀ rm (ev_name rfl) (ev_name rfl) eN hN (by simp only [scanBound]; omega) fun s₁₁ R₁₁ oN' l₁₁ hN' F₁₁ => ?_) F₁₀.quiet
        have hSy : Sn (y : Int) = false := by rw [hSn]; exact decide_eq_false hys
        rw [hSy, if_neg Bool.false_ne_true] at hN'
        obtain ⟨mI', eI⟩ := id D₉.sI
        obtain ⟨vs, mS', eS, hvs⟩ := id D₉.sS
        have hvl : vs.length = st.length := by rw [hvs.length]; simp [encN]
        have S₁₁ : SAt C aT aN (M₈.set a.N oN') Z σ := SM _ fun b o hb e => by
          rw [Reg.set_ne _ _ (fun q => hb (List.mem_append_left _ (by rw [q]; simp [Ad.l])))]; exact D₉.off b o hb e
        obtain ⟨od₂, hD₂, hdo₂⟩ := S₁₁.D
        obtain ⟨t', u', hin⟩ := S₁₁.inf y hy
        obtain ⟨ws, m₂, esu, hws⟩ := S₁₁.suc y hy
        refine st_expr (mlist_appendW F₁₁ rm (ev_name rfl) (by rw [sizeLine_val]; simp; omega) (fun s₁₂ R₁₂ l₁₂ k₁₂ F₁₂ => F₁₂.nextOf rm (ev_glob (g_iter B.at) rfl) (ev_slot B.at (k_suc _) (ev_sub (ev_name rfl) (ev_name rfl) (op_ditem hD₂ hdo₂ (S₁₁.node hy))) hin (S₁₁.emp y hy) rfl) esu fun s₁₃ R₁₃ I q oI l₁₃ hI0 hIt hq F₁₃ => ?_) ((Reg.set_ne _ _ nNI.symm).trans eI)) F₁₁.quiet
        obtain ⟨nIN, mI0⟩ := off (F₁₂.noMu hI0)
        have hIl : I ∉ a.l ++ frs Out := fun hb => by
          obtain ⟨o, e⟩ := M8some I hb
          rw [mI0] at e; (have q_ := oNS e; clear e; exact q_.elim)
        have hMi : M₆ I = none := by
          cases z : M₆ I with
          | none => rfl
          | some o => rw [D₉.off I o hIl z] at mI0; (have q_ := oSN mI0; clear mI0; exact q_.elim)
        have hI4 : I ≠ a.S ∧ I ≠ a.I ∧ I ≠ a.N ∧ I ≠ a.D := by
          have := hIl
          simp only [Ad.l, List.mem_append, List.mem_cons, List.not_mem_nil, or_false, not_or] at this
          exact ⟨this.1.1, this.1.2.1, this.1.2.2.1, this.1.2.2.2⟩
        obtain ⟨i1, i2, i3, i4⟩ := hI4
        refine ⟨R₁₃, _, F₁₃, (Reg.set_ne _ _ i2.symm).trans ((Reg.set_ne _ _ nNI.symm).trans eI), fun s₁₄ m₁₄ F₁₄ => ?_⟩
        refine st_dset F₁₄ rm (ev_name rfl) (ev_name rfl) (call_len_mul (ev_glob (g_len B.at) rfl) (ev_name rfl) ((Reg.set_ne _ _ nIS.symm).trans ((Reg.set_ne _ _ i1.symm).trans ((Reg.set_ne _ _ nNS.symm).trans eS))) (by rw [sizeLine_val, hvl]; omega))
          ((Reg.set_ne _ _ nDI).trans ((Reg.set_ne _ _ i4.symm).trans ((Reg.set_ne _ _ nDN).trans eD))) hD' (by
            have : kvs.length = st.length := by simpa using congrArg List.length hkv
            rw [sizeLine_val]; omega) fun s₁₅ R₁₅ v oD' l₁₅ hv hD'' F₁₅ => ?_
        refine st_expr (mlist_append F₁₅ rm (ev_name rfl) (ev_name rfl) ((Reg.set_ne _ _ nDS.symm).trans ((Reg.set_ne _ _ nIS.symm).trans ((Reg.set_ne _ _ i1.symm).trans ((Reg.set_ne _ _ nNS.symm).trans eS)))) (by rw [sizeLine_val, hvl]; omega) fun s₁₆ R₁₆ v' m₁₆ l₁₆ hv' F₁₆ => ?_) F₁₅.quiet
        (have q_ := Rd.intE hv'; clear hv'; obtain ⟨_, rfl⟩ := q_)
        (have q_ := Rd.intE hv; clear hv; obtain ⟨_, rfl⟩ := q_)
        have hR : R₉.le R₁₆ := l₁₀.trans (l₁₁.trans (l₁₂.trans (l₁₃.trans (l₁₅.trans l₁₆))))
        refine st_nil (hP _ ⟨R₁₆, _, st ++ [⟨y, I, q, 0⟩], sn ++ [y], fin, y, by rw [← hΔ]; exact F₁₆, l₉.trans hR, ⟨r, D₉.push nd dis4 hy hys hr hR ((l₁₅.trans l₁₆) _ _ hq) mI0 hMi hIt hN' (fun j => ?_) hvs hD'' (by rw [stored_keys (by rw [hkv]; exact hyst), hkv]) hIl⟩, ⟨oD', _, ?_, hD'', ?_, hnv.stored (by rw [hkv]; exact hyst)⟩, ?_, ?_, fun j hj => List.mem_append_left _ (hmono j hj), ?_⟩)
        · rw [hSn]
          by_cases hj : j = y
          · simp [hj]
          · have : ¬ ((j : Int) = (y : Int)) := by omega
            simp [hj, this]
        · rw [Reg.set_ne _ _ nDS, Reg.set_self]
        · rw [stored_keys (by rw [hkv]; exact hyst), hkv]; simp
        · rw [stN_snoc]; exact hdfs.push hys
        · rcases hyk with q | q
          · exact List.mem_append_right _ (by simp [q])
          · exact List.mem_append_left _ q
        · have := rest1_push σ sn S₁₁.nod hy hys
          rw [rest2_append]
          dsimp only
          omega
    · intro s₁₁ h₁₁
      obtain ⟨R₁₁, M₁₁, st', sn', fin', z, F₁₁, l₁₁, D₁₁, V₁₁, G₁₁, hk₁₁, hm₁₁, hle⟩ := hP' _ h₁₁
      clear hP hP' h₁₁
      refine st_whileE (fun n s => ∃ R M st' sn' fin z, F.P s R M (Δn z) ∧ R₇.le R ∧ (∃ r, DInv C Z σ a Out r M₆ R M st' sn') ∧ DV C M a.D st' ∧ Dfs σ.su (stN st') sn' fin [] ∧ k ∈ sn' ∧ (∀ j ∈ snA, j ∈ sn') ∧ n = rest1 σ sn' + rest2 σ st' ∧ n ≤ rest1 σ sn + rest2 σ st) _ ⟨R₁₁, M₁₁, st', sn', fin', z, F₁₁, l₁₁, D₁₁, V₁₁, G₁₁, hk₁₁, hm₁₁, rfl, hle⟩ ?_
      clear hle D₁₁ l₁₁ F₁₁ V₁₁ G₁₁ hk₁₁ hm₁₁
      clear D₉ D hnv hkv hD' eD oD kvs hdfs hyk hmono fin
      rintro n s₁₂ ⟨R₁₂, M₁₂, st', sn', fin, z, F₁₂, l₁₂, ⟨r, D₁₂⟩, ⟨oD, kvs, eD, hD', hkv, hnv⟩, hdfs, hkin, hmono, rfl, hle⟩
      rw [← hΔ] at F₁₂
      obtain ⟨vs, mS', eS, hvs⟩ := id D₁₂.sS
      have hstl := st_len D₁₂ hlen
      have hvl : vs.length = st'.length := by rw [hvs.length]; simp [encN]
      refine F₁₂.evT rm (evT_mul (ev_name rfl) eS (by rw [sizeLine_val]; omega)) fun s₁₃ R₁₃ lx F₁₃ => ?_
      have D₁₃ := D₁₂.le lx
      have l₁₃ := l₁₂.trans lx
      rcases List.eq_nil_or_concat st' with rfl | ⟨st₀, e, rfl⟩
      · cases vs with
        | cons _ _ => simp at hvl
        | nil =>
          rw [if_neg (by simp)]
          refine wpAny_execs_cons (wpAny_Break (hQw _ _ (st_nil (hQf _ _ ⟨R₁₃, M₁₂, l₁₃, D₁₃.off, F₁₃.toL _ ⟨rfl, rfl, rfl, rfl, rfl, rfl, trivial⟩, sn', fin, ⟨r, D₁₃.base (fun _ _ => rfl)⟩, ⟨oD, kvs, eD, hD', hkv, hnv⟩, U.trans D₁₃.fr, hdfs.fok, (fun j => (hdfs.seen j).trans (by simp [stN])), hnext _ hkin hmono⟩))))
      · try rw [List.concat_eq_append] at *
        have hne : vs ≠ [] := fun q => by rw [q] at hvl; simp at hvl
        rw [if_pos (by simpa using hne)]
        refine cps fun Qe hQe => ?_
        obtain ⟨vs₀, v, rfl⟩ : ∃ vs₀ v, vs = vs₀ ++ [v] := ⟨vs.dropLast, vs.getLast hne, (List.dropLast_concat_getLast hne).symm⟩
        obtain ⟨hvs₀, hv⟩ := RdAll.snoc (ds := encN (st₀.map DE.k)) (d := .int (e.k : Int)) (by simpa [encN] using hvs)
        (have q_ := Rd.intE hv; clear hv; obtain ⟨_, rfl⟩ := q_)
        rename_i tk
        have S₁₃ := SM M₁₂ D₁₃.off
        obtain ⟨hq, ⟨oI, eI, hIt⟩, hek, heI, heMi, hesn⟩ := D₁₃.ent e (List.mem_append_right _ (by simp))
        obtain ⟨mI', eIs⟩ := id D₁₃.sI
        rw [stN_snoc] at hdfs
        obtain ⟨ws, m₂, esu, hws⟩ := S₁₃.suc e.k hek
        have hl0 : st₀.length ≤ 7 := by simp at hstl; omega
        have hkn : (e.k : Int) ∉ st₀.map (fun x => (x.k : Int)) := fun q => by
          obtain ⟨x, hx, q⟩ := List.mem_map.mp q
          have asc := D₁₃.asc
          rw [List.map_append, List.pairwise_append] at asc
          have := asc.2.2 (r x.k) (List.mem_map.mpr ⟨x, hx, rfl⟩) (r e.k) (by simp)
          have e' : x.k = e.k := by omega
          rw [e'] at this; omega
        have hkvl : kvs.length ≤ 7 := by
          have : kvs.length = (st₀ ++ [e]).length := by simpa using congrArg List.length hkv
          omega
        refine st_try_next F₁₃ rm hfr hf (L6.up D₁₃.fr) rfl (by simpa using eIs) (by rw [sizeLine_val]; simp; omega) hq eI hIt (fun q => heI (List.mem_append_right _ q)) esu hws (g_stop B) rfl (fun y' hy' s₁₄ R₁₄ o' l₁₄ hIt' F₁₄ => ?_) (fun hend s₁₄ R₁₄ M₁₄ ex l₁₄ F₁₄ ho hu => ?_)
        · have hym : y' ∈ σ.su e.k := List.mem_of_getElem? hy'
          have hlt : e.i < (σ.su e.k).length := (List.getElem?_eq_some_iff.mp hy').1
          have hyk := hsu e.k hek y' hym
          have eI' : a.D ≠ e.I := fun q => heI (List.mem_append_left _ (by rw [← q]; simp [Ad.l]))
          refine hQe _ _ (st_nil (hQw _ _ ⟨_, ?_, R₁₄, _, st₀ ++ [{ e with i := e.i + 1 }], sn', fin, y', by rw [← hΔ]; exact F₁₄.toL _ ⟨rfl, rfl, rfl, rfl, rfl, rfl, rfl, trivial⟩, l₁₃.trans l₁₄, ⟨r, D₁₃.item l₁₄ hIt'⟩, ⟨oD, kvs, by rw [Reg.set_ne _ _ eI']; exact eD, hD', by simpa using hkv, hnv⟩, hyk, by rw [stN_snoc]; exact hdfs.item hy', .inr hkin, hmono, rfl⟩))
          · rw [rest2_append] at hle ⊢
            dsimp only
            omega
        · have keepA : ∀ b o, b ∈ a.l → M₁₂ b = some o → M₁₄ b = some o := fun b o hb e' => ho b o (fun q => by
            rcases List.mem_cons.mp q with q | q
            · exact heI (List.mem_append_left _ (q ▸ hb))
            · exact dis4 b hb q) e'
          refine st_del_pop F₁₄ rfl rfl (keepA _ _ (by simp [Ad.l]) eD) hD' (by rw [sizeLine_val]; omega) (by rw [valueAt_keys, hkv]; simp) (keepA _ _ (by simp [Ad.l]) eS) (by rw [sizeLine_val]; simp at hvl; omega) nDS fun s₁₅ m₁₅ oD' hD'' F₁₅ => ?_
          refine st_expr (F₁₅.pop (vs := st₀.map fun x => .ref x.q) (v := .ref e.q) rfl ((Reg.set_ne _ _ nDI.symm).trans ((Reg.set_ne _ _ nIS).trans (keepA _ _ (by simp [Ad.l]) (by simpa using eIs)))) (by rw [sizeLine_val]; simp; omega) fun s₁₆ m₁₆ kb F₁₆ => ?_) F₁₅.quiet
          obtain ⟨fin', hdfs', _⟩ := hdfs.pop hend
          have hkv' := without_last (kvs := kvs) (ks := st₀.map fun x => (x.k : Int)) (k := (e.k : Int)) (by simpa using hkv) hkn
          refine st_nil (st_nil (hQe _ _ ⟨_, ?_, R₁₄, _, st₀, sn', fin', z, by rw [← hΔ]; exact F₁₆, l₁₃.trans l₁₄, ⟨r, D₁₃.pop nd dis4 l₁₄ ho hu hvs₀ hD'' hkv'⟩, ⟨oD', _, by rw [Reg.set_ne _ _ nDI, Reg.set_self], hD'', hkv', hnv.without⟩, hdfs', hkin, hmono, rfl, ?_⟩))
          · rw [rest2_append]; omega
          · rw [rest2_append] at hle; omega
  · intro s₆ R₇ M₆ l₆ hk F₆ ⟨sn, fin, ⟨r, D⟩, V, U, hfok, hfin, hcov⟩
    have hrank : ∃ r : Nat → Nat, ∀ k ∈ σ.ks, ∀ j ∈ σ.su k, r k < r j := by
      obtain ⟨_, r, hr⟩ := hfok.rank
      exact ⟨r, fun k hk => hr k ((hfin k).mp (hcov k (by rw [List.take_length]; exact hk)))⟩
    refine st_ret (d := .none) F₆ rm ev_none fun s₇ R₈ v l₇ F₇ hv => ?_
    refine hQ _ _ ⟨R₈, M₆, _, Z, σ, _, F₇, U5.trans U, S5.on fun b o hb e => hk b o (fun q => ?_) e, ⟨rfl, rfl, .inl ⟨rfl, hrank⟩⟩, rfl, fun b hb => .inl hb, fun b hb => hb, hv⟩
    rcases List.mem_append.mp q with q | q
    · exact disZ b hb q
    · exact dis b q hb
end
end Mine
end
noncomputable section
open PySem PySem.W PyProof.Rows PySem.SeqAt PySem.MeetsSeq
set_option Elab.async false
set_option autoImplicit false
set_option maxRecDepth 100000
namespace Mine
section
variable {C : Cx} {s₀ : Shared} {R₀ : Reg} {V : List Addr} {sc : Scope} {env : Env} {W : List Addr} {s s' : Shared} {R R' Mu Mu' : Reg} {Δ Δ' : Vars} {n : Nat} {A : Around} {E : Value → Shared → Prop} {Q : Flow → Shared → Prop}
theorem Fra.begin1 {D : Addr} {o : Obj} (F : Fra C s₀ R₀ V sc env W s R Mu Δ) (k : Keeps s s') (hD : s.heap.get? D = none) (ho : s'.heap.get? D = some o) : R.le ((R.ext s.heap s'.heap).minus [D]) ∧ Fra C s₀ R₀ V sc env W s' ((R.ext s.heap s'.heap).minus [D]) (Mu.set D o) Δ := by
  have F' := F.begin (X := [D]) k (fun a ha => by rw [List.mem_singleton.mp ha]; exact hD)
  refine ⟨fun a oa e => Reg.minus_some (fun h => ?_) (Reg.ext_le F.ro.on a oa e), ?_⟩
  · have := F.ro.on a oa e
    rw [List.mem_singleton.mp h, hD] at this; (have q_ := oNS this; clear this; exact q_.elim)
  have e : (fun a => if a ∈ [D] then s'.heap.get? a else Mu a) = Mu.set D o := by
    funext a
    simp only [List.mem_singleton, Reg.set]
    by_cases h : a = D
    · subst h; simp only [if_true]; exact ho
    · simp only [h, if_false]
  rw [← e]; exact F'
theorem Fra.lcF {α : Type} {L : List α} {enc : α → Dat} {tds : α → List Dat} {p : α → Bool} {f : α → Dat} {elt target iter : Expr} {ifs : List Expr} {pos : Pos} {scope : Scope} {Qv : Value → Shared → Prop} {nw : Bool} (xs : List Str)
    (F : Fra C s₀ R₀ V sc env W s R Mu Δ) (rm : Room n A) (hit : EvIt (C.at Mu) n sc Δ iter (L.map enc)) (hc : compOkB sc scope Δ xs = true)
    (hT : ∀ a ∈ L, Tgt target (enc a) xs (tds a)) (ht : ∀ a ∈ L, EvTs (C.at Mu) n (relab scope sc) (updAll (inner scope Δ) xs (tds a)) ifs (p a)) (he : ∀ a ∈ L, p a = true → EvF (C.at Mu) n (relab scope sc) (updAll (inner scope Δ) xs (tds a)) elt (f a) nw) (hlen : L.length ≤ sizeLine)
    (k : ∀ s' R' D ys m, R.le R' → s.heap.get? D = none → RdAll R' ys ((L.filter p).map f) → Fra C s₀ R₀ V sc env W s' R' (Mu.set D (lstObj ys m)) Δ → NewI nw s.heap [D] ys s'.heap → Qv (.ref D) s')
    (hs : ∀ env x, foldedSetIterable iter env x = pure x := by intro _ _; rfl) :
    wpAny C.M A (eval (.ListComp elt [⟨target, iter, ifs, 0⟩] scope pos) env) Qv E s := by
  rw [eval_ListComp]
  refine comp_run (C := C.at Mu) (use := none) rm F.rom F.eo _ hit.toT trivial (.of hc) hT ht he hlen (hs env) fun D C' s' kS hC hD hne hns hl => ?_
  obtain ⟨m, hm⟩ := hns
  obtain ⟨o, nn, ys, ho, hcl, hd, hr, rfl, ni⟩ := hl
  refine ⟨m, hm, fun h' hs' => ?_⟩
  have kb : KeepsBut [C'] s' { s' with heap := h' } := ⟨h', s'.toks, rfl, fun b o hb e => hs'.extBut b o (by simpa using hb) e⟩
  have kS' := kb.keeps kS fun a ha => by rw [List.mem_singleton.mp ha]; exact hC
  obtain ⟨l, F'⟩ := F.begin1 kS' hD (hs'.extBut D _ hne ho)
  have hy : ({ cls := .type "list", data := .seq ys nn } : Obj) = lstObj ys.toList nn := by simp [lstObj]
  rw [hy] at F'
  refine k _ _ D ys.toList nn l hD (hr.mono fun a o e => ?_) F' fun q => ⟨(ni q).1, fun z hz => ?_⟩
  rotate_left
  · obtain ⟨c, oc, e, g, f, v, il⟩ := (ni q).2 z hz
    exact ⟨c, oc, e, hs'.extBut c oc (fun h => v (by simp [h])) g, f, fun h => v (by simp at h ⊢; exact .inr h), il⟩
  have hn : a ∉ [C', D] := fun h => by rw [Reg.minus_off h] at e; (have q_ := oNS e; clear e; exact q_.elim)
  have e' := Reg.minus_le a o e
  refine Reg.minus_some (fun h => hn (by simp at h ⊢; exact .inr h)) ?_
  simp only [Reg.ext] at e' ⊢
  split at e'
  · exact e'
  · exact hs'.extBut a o (fun h => hn (by simp [h])) e'
theorem Fra.lcM {α : Type} {L : List α} {enc : α → Dat} {tds : α → List Dat} {p : α → Bool} {f : α → Dat} {elt target iter : Expr} {ifs : List Expr} {pos : Pos} {scope : Scope} {Qv : Value → Shared → Prop} (xs : List Str)
    (F : Fra C s₀ R₀ V sc env W s R Mu Δ) (rm : Room n A) (hit : EvIt (C.at Mu) n sc Δ iter (L.map enc)) (hc : compOkB sc scope Δ xs = true)
    (hT : ∀ a ∈ L, Tgt target (enc a) xs (tds a)) (ht : ∀ a ∈ L, EvTs (C.at Mu) n (relab scope sc) (updAll (inner scope Δ) xs (tds a)) ifs (p a)) (he : ∀ a ∈ L, p a = true → Ev (C.at Mu) n (relab scope sc) (updAll (inner scope Δ) xs (tds a)) elt (f a)) (hlen : L.length ≤ sizeLine)
    (k : ∀ s' R' D ys m, R.le R' → s.heap.get? D = none → RdAll R' ys ((L.filter p).map f) → Fra C s₀ R₀ V sc env W s' R' (Mu.set D (lstObj ys m)) Δ → Qv (.ref D) s')
    (hs : ∀ env x, foldedSetIterable iter env x = pure x := by intro _ _; rfl) :
    wpAny C.M A (eval (.ListComp elt [⟨target, iter, ifs, 0⟩] scope pos) env) Qv E s :=
  F.lcF xs rm hit hc hT ht (fun a ha hp => (he a ha hp).f) hlen (fun s' R' D ys m l hD hy F' _ => k s' R' D ys m l hD hy F') hs
end
end Mine
end
noncomputable section
open PySem PySem.W PyProof.Rows PySem.SeqAt PySem.MeetsSeq
set_option Elab.async false
set_option autoImplicit false
set_option maxRecDepth 100000
namespace Mine
section
variable {C : Cx} {n : Nat} {sc : Scope} {Δ : Vars}
theorem op_is_lst {ds : List Dat} {a : Addr} {o : Obj} (ha : C.h₀.get? a = some o) (hc : o.cls ≠ .type "list") : Op2 C n (compareOp .Is) (.lst ds) (.val (.ref a)) (.bool false) := by
  intro A s R v₁ v₂ rm ro h₁ h₂
  (have q_ := Rd.valE h₂; clear h₂; subst q_)
  cases h₁ with
  | lst e c _ _ =>
    have h1 := ro.on _ _ e
    have h2 := ro.hle0 _ _ ha
    refine wpAny_is_ref_other (fun q => ?_) h1 h2 (by rw [c.1]; decide) (Post.pure ro (.bool _))
    subst q
    rw [h1] at h2; (have q_ := oSS h2; clear h2; subst q_)
    exact hc c.1
end
section
variable {C : Cx} {s₀ : Shared} {R₀ : Reg} {V : List Addr} {sc : Scope} {env : Env} {W : List Addr} {s s' : Shared} {R R' Mu Mu' : Reg} {Δ Δ' : Vars} {n : Nat} {A : Around} {E : Value → Shared → Prop} {Q : Flow → Shared → Prop}
theorem st_iter {x f : Str} {xp fp cp q : Pos} {e : Expr} {ds : List Dat} {rest : List Stmt} (F : Fra C s₀ R₀ V sc env W s R Mu Δ) (rm : Room n A) (hf : Ev (C.at Mu) n sc Δ (.Name f fp) (.val (.builtin "iter"))) (he : Ev (C.at Mu) n sc Δ e (.lst ds))
    (k : ∀ s' R' I St, R.le R' → Iter (C.at noM) (.ref I) [I] ds R' St → St 0 s'.heap → (∃ o, s'.heap.get? I = some o ∧ ∀ v, o.data ≠ .cell v) → s.heap.get? I = none → Fra C s₀ R₀ V sc env W s' R' (fun a => if a ∈ [I] then s'.heap.get? a else Mu a) (upd Δ x (.val (.ref I))) → wpAny C.M A (execs rest env) Q E s')
    (hs : starEach [e] env = [(false, eval e env)] := by rfl)
    (hsw : swapsWith (.Call (.Name f fp) [e] [] cp) (some (.Name x xp)) q.line env = pure false := by rfl) (hx : sc.names.lookup x = some .local ∨ sc.names.lookup x = some .cell := by first | exact Or.inl rfl | exact Or.inr rfl) :
    wpAny C.M A (execs (.Assign [.Name x xp] (.Call (.Name f fp) [e] [] cp) q :: rest) env) Q E s := by
  refine wpAny_execs_cons (wpAny_Assign_Name (Call_ (F.ev rm hf fun fv s₁ R₁ l₁ k₁ hfv F₁ => ?_)) hsw)
  (have q_ := Rd.valE hfv; clear hfv; subst q_)
  refine callWith_method1 (first := []) (wpAny_items_cons (F₁.ev rm he fun v s₂ R₂ l₂ k₂ hv F₂ => wpAny_items_nil ?_) hs) hs rfl
  obtain ⟨l, rfl⟩ := hv.lst_ref
  obtain ⟨vs, hL, hr⟩ := hv.isList F₂.ro.on
  refine Calls.call_function_entry (by decide +kernel) (by decide +kernel) kdk_entry_iter (kdk_args_iter _) ?_
  unfold Builtin.«iter»
  refine wpAny_bind (m := someArgs "iter" 1 2 _) (wpAny_of_eq (a := [Value.ref l]) (by first | rfl | kernel_rfl!) ?_)
  show wpAny _ _ (pyIter (.ref l) >>= _) _ _ _
  refine wpAny_bind (wpAny_pyIter_list hL (wpAny_pure ⟨_, rfl, ?_⟩))
  have kI := Keeps.push s₂ { cls := .type "list_iterator", data := .fields #[.ref l, .int 0 0] }
  have hI0 : s₂.heap.get? s₂.heap.objs.size = none := fresh_none
  have F₃ := F₂.begin (X := [s₂.heap.objs.size]) kI (fun a ha => by rw [List.mem_singleton.mp ha]; exact hI0)
  have up₃ := new_up (o := { cls := .type "list_iterator", data := .fields #[.ref l, .int 0 0] }) F₂.ro.on
  have hget := Heap.get?_push_size (o := { cls := .type "list_iterator", data := .fields #[.ref l, .int 0 0] }) s₂.heap rfl
  generalize hR₃ : (R₂.ext s₂.heap (s₂.heap.push { cls := .type "list_iterator", data := .fields #[.ref l, .int 0 0] })).minus [s₂.heap.objs.size] = R₃ at *
  refine F₃.store (.val _) (fun s₄ k₄ F₄ => ?_) hx
  have hnW : s₂.heap.objs.size ∉ W := fun h => by obtain ⟨o, z⟩ := F₂.ew.isW h; rw [hI0] at z; (have q_ := oNS z; clear z; exact q_.elim)
  have hget₄ := k₄.get hnW hget
  cases hv with
  | lst e1 e2 e3 e4 =>
    have hvs := hL
    obtain ⟨o', ho', hc', n', hd'⟩ := hL
    have h5 := F₂.ro.on _ _ e1
    rw [h5] at ho'; (have q_ := oSS ho'; clear ho'; subst q_)
    refine k s₄ R₃ s₂.heap.objs.size _ (l₁.trans (l₂.trans up₃)) (iter_list (up₃ _ _ e1) hc' hd' (hr.mono up₃) ?_) ⟨⟨_, hget₄, rfl, rfl⟩, ⟨_, F₄.ro.on _ _ (up₃ _ _ e1), hc', n', hd'⟩⟩ ⟨_, hget₄, fun _ q => nomatch q⟩ ?_ ?_
    · rw [← hR₃]; exact Reg.minus_off (by simp)
    · cases z : s.heap.get? s₂.heap.objs.size with
      | none => rfl
      | some o => have := Keeps.hle (Keeps.tr k₁ k₂) _ _ z; rw [fresh_none] at this; (have q_ := oNS this; clear this; exact q_.elim)
    · refine F₄.fewer fun a o e => ?_
      simp only at e ⊢
      split at e
      · rename_i h
        rw [List.mem_singleton.mp h] at e ⊢
        rw [hget₄] at e; (have q_ := oSS e; clear e; subst q_)
        rw [if_pos (by simp)]; exact hget
      · rename_i h; rw [if_neg h]; exact e
theorem st_for_it {x it : Str} {xp ip p : Pos} {body rest : List Stmt} {I : Addr} {ds : List Dat} {St : Nat → Heap → Prop} {Rb : Reg} (i₀ : Nat) (Δs : Nat → Vars) (J : Nat → Reg → Reg → Prop)
    (F : Fra C s₀ R₀ V sc env W s R Mu Δ) (rm : Room n A) (hit : Δ it = some (.val (.ref I))) (hΔ : ∀ x d, Δs i₀ x = some d → Δ x = some d) (It : Iter (C.at noM) (.ref I) [I] ds Rb St) (hRb : Rb.le R) (hst : St i₀ s.heap) (hi₀ : i₀ ≤ ds.length) (hMI : ∃ o, Mu I = some o) (hv : I ∉ V)
    (hcI : ∀ y c, env.cells.lookup y = some c → c ≠ I)
    (Jm : ∀ i R R' Mu Mu', J i R Mu → R.le R' → (∀ a, a ≠ I → Mu' a = Mu a) → J i R' Mu') (h0 : J i₀ R Mu)
    (turn : ∀ i d s' R' Mu', ds[i]? = some d → R.le R' → Fra C s₀ R₀ V sc env W s' R' Mu' (upd (Δs i) x d) → J i R' Mu' →
      wpAny C.M A (execs body env) (fun f s₂ => match f with
        | .next | .cont => ∃ R₂ Mu₂, R'.le R₂ ∧ Mu₂ I = Mu' I ∧ Fra C s₀ R₀ V sc env W s₂ R₂ Mu₂ (Δs (i + 1)) ∧ J (i + 1) R₂ Mu₂
        | .brk => wpAny C.M A (execs rest env) Q E s₂
        | .ret v => Q (.ret v) s₂) NoE s')
    (done : ∀ s' R' Mu', R.le R' → Fra C s₀ R₀ V sc env W s' R' Mu' (Δs ds.length) → J ds.length R' Mu' → wpAny C.M A (execs rest env) Q E s')
    (hx : sc.names.lookup x = some .local ∨ sc.names.lookup x = some .cell := by first | exact Or.inl rfl | exact Or.inr rfl)
    (hn : ((it == ("__debug__" : Str)) || (it == ("__classdict__" : Str))) = false := by decide +kernel)
    (hs : ∀ v, foldedSetIterable (.Name it ip) env v = pure v := by intro _; rfl) :
    wpAny C.M A (execs (.For (.Name x xp) (.Name it ip) body [] p :: rest) env) Q E s := by
  refine wpAny_execs_cons (wpAny_For (F.name hit (fun v hv => ?_) hn) hs)
  (have q_ := Rd.valE hv; clear hv; subst q_)
  refine It.self A i₀ s _ _ hst ?_
  have F₁ := F.weak hΔ
  refine codeAny_loop' rfl (fun k s' => ∃ i R' Mu', i ≤ ds.length ∧ k = ds.length + 1 - i ∧ R.le R' ∧ Fra C s₀ R₀ V sc env W s' R' Mu' (Δs i) ∧ J i R' Mu' ∧ St i s'.heap ∧ ∃ o, Mu' I = some o) (fun k s' hI => ?_) (ds.length + 1 - i₀) ⟨i₀, R, Mu, hi₀, rfl, .refl _, F₁, h0, hst, hMI⟩
  obtain ⟨i, R', Mu', hi, rfl, hR', F', hJ, st', oI, hwM⟩ := hI
  have hone : ∀ {M : Reg}, (∃ o, M I = some o) → ∀ a ∈ [I], ∃ o, M a = some o := fun h a ha => by rw [List.mem_singleton.mp ha]; exact h
  have hcw : ∀ y c, env.cells.lookup y = some c → c ∉ [I] := fun y c h hc => hcI y c h (List.mem_singleton.mp hc)
  show wpAny _ _ ((forTurn (.Name x xp) (.ref I) body [] env).onRaise (fun x => do noteFrame x env; theTreesLotGoes x)) _ _ s'
  refine wpAny_noted ?_
  simp only [forTurn]
  refine wpAny_bind (wpAny_standAt (wpAny_bind (wpAny_onRaise ?_)))
  by_cases hlt : i < ds.length
  · have hg : ds[i]? = some ds[i] := List.getElem?_eq_getElem hlt
    refine noE (It.next A i s' R' _ rm.handled hg st' (hRb.trans hR') F'.ro.on (fun a ha => by rw [List.mem_singleton.mp ha]; exact (F'.mu _ _ hwM).2.1)) fun r s₃ h₃ => ?_
    obtain ⟨v, rfl, st₃, kb₃, hv⟩ := h₃
    have F₃ := F'.step kb₃ (hone ⟨_, hwM⟩) (fun a ha _ => It.alive _ _ st₃ a ha) hcw
    have hJ₃ := Jm _ _ (R'.ext s'.heap s₃.heap) _ (fun a => if a ∈ [I] then s₃.heap.get? a else Mu' a) hJ (Reg.ext_le F'.ro.on) (fun a ha => by rw [if_neg (by simpa using ha)])
    refine wpAny_bind (It.letgo A (i + 1) s₃ (.Name x xp) v _ _ trivial st₃ fun s₄ st₄ kb₄ => ?_)
    have F₄ := F₃.step kb₄ (fun a ha => by simp only [ha, if_true]; exact It.alive _ _ st₃ a ha) (fun a ha _ => It.alive _ _ st₄ a ha) hcw
    have hJ₄ := Jm _ _ ((R'.ext s'.heap s₃.heap).ext s₃.heap s₄.heap) _ (fun a => if a ∈ [I] then s₄.heap.get? a else (if a ∈ [I] then s₃.heap.get? a else Mu' a)) hJ₃ (Reg.ext_le F₃.ro.on) (fun a ha => by rw [if_neg (by simpa using ha)])
    refine wpAny_bind (assign_tgt (C := C.at noM) (xs := [x]) (ds := [ds[i]]) rm.handled ⟨rfl, rfl⟩ F₄.ro F₄.ew (fun y hy => F₄.stor y (by rw [List.mem_singleton.mp hy]; exact hx)) (hv.mono (Reg.ext_le F₃.ro.on)) fun s₅ kb₅ E₅ => ?_)
    have F₅ := F₄.stored kb₅ E₅
    generalize hM₅ : (fun a => if a ∈ [I] then s₄.heap.get? a else (if a ∈ [I] then s₃.heap.get? a else Mu' a) : Reg) = M₅ at *
    have l₅ : R.le ((R'.ext s'.heap s₃.heap).ext s₃.heap s₄.heap) := hR'.trans ((Reg.ext_le F'.ro.on).trans (Reg.ext_le F₃.ro.on))
    have hM₅I : ∃ o, M₅ I = some o := by
      obtain ⟨o, e⟩ := It.alive _ _ st₄ I (by simp)
      exact ⟨o, by rw [← hM₅]; simp only [List.mem_singleton, if_true]; exact e⟩
    obtain ⟨o₅, hM₅I⟩ := hM₅I
    have nW : ∀ b ∈ [I], b ∉ W := fun b hb => by rw [List.mem_singleton.mp hb]; exact (F₅.mu _ _ hM₅I).2.2.1
    have st₅ : St (i + 1) s₅.heap := It.frame _ _ _ st₄ (fun b hb o e => kb₅.get (nW b hb) e) (F₅.ro.on.le (hRb.trans l₅)) (fun a o e => nomatch e)
    refine wpAny_bind (noE (turn i ds[i] s₅ _ _ hg l₅ F₅ hJ₄) fun f s₆ h₆ => ?_)
    have fin : (∃ R₂ Mu₂, ((R'.ext s'.heap s₃.heap).ext s₃.heap s₄.heap).le R₂ ∧ Mu₂ I = M₅ I ∧ Fra C s₀ R₀ V sc env W s₆ R₂ Mu₂ (Δs (i + 1)) ∧ J (i + 1) R₂ Mu₂) →
        ∃ m, m < ds.length + 1 - i ∧ ∃ i R' Mu', i ≤ ds.length ∧ m = ds.length + 1 - i ∧ R.le R' ∧ Fra C s₀ R₀ V sc env W s₆ R' Mu' (Δs i) ∧ J i R' Mu' ∧ St i s₆.heap ∧ ∃ o, Mu' I = some o := by
      rintro ⟨R₂, Mu₂, l₂, K₂, F₂, J₂⟩
      have h6 := (F₂.mu _ _ (K₂.trans hM₅I)).1
      have h5 := (F₅.mu _ _ hM₅I).1
      refine ⟨ds.length + 1 - (i + 1), by omega, i + 1, R₂, Mu₂, hlt, rfl, l₅.trans l₂, F₂, J₂, It.frame _ _ _ st₅ (fun b hb o e => ?_) (F₂.ro.on.le (hRb.trans (l₅.trans l₂))) (fun a o e => nomatch e), ⟨o₅, K₂.trans hM₅I⟩⟩
      rw [List.mem_singleton.mp hb] at e ⊢
      rw [h5] at e; (have q_ := oSS e; clear e; subst q_); exact h6
    cases f with
    | next => exact wpAny_pure (.inl ⟨rfl, fin h₆⟩)
    | cont => exact wpAny_pure (.inl ⟨rfl, fin h₆⟩)
    | brk => exact wpAny_pure h₆
    | ret v => exact wpAny_pure h₆
  · have hin : i = ds.length := by omega
    subst hin
    refine noE (It.done A s' rm.handled st') fun r s₃ h₃ => ?_
    obtain ⟨rfl, kb₃⟩ := h₃
    have F₃ := F'.step kb₃ (hone ⟨_, hwM⟩) (fun a ha hva => absurd (List.mem_singleton.mp ha ▸ hva) hv) hcw
    have hJ₃ := Jm _ _ (R'.ext s'.heap s₃.heap) _ (fun a => if a ∈ [I] then s₃.heap.get? a else Mu' a) hJ (Reg.ext_le F'.ro.on) (fun a ha => by rw [if_neg (by simpa using ha)])
    refine wpAny_pure (.inr ⟨rfl, codeAny_block (wpAny_execs_nil ?_)⟩)
    exact done s₃ _ _ (hR'.trans (Reg.ext_le F'.ro.on)) F₃ hJ₃
end
end Mine
end
noncomputable section
open PySem PySem.W PyProof.Rows PySem.SeqAt PySem.MeetsSeq
set_option Elab.async false
set_option autoImplicit false
set_option maxRecDepth 100000
namespace Mine
section
variable {C : Cx} {s₀ : Shared} {R₀ : Reg} {V : List Addr} {sc : Scope} {env : Env} {W : List Addr} {s s' : Shared} {R R' Mu Mu' : Reg} {Δ Δ' : Vars} {n : Nat} {A : Around} {E : Value → Shared → Prop} {Q : Flow → Shared → Prop}
theorem bnd_full {fd : FuncData} {vs : List Value} {w : Value} {xs : List Str} {ds : List Dat} {T : Addr} {o : Obj} {m : Nat} {k : Option (Array Value) → Sem (List (Str × Value))} (ro : R.on s.heap) (hd : fd.defaults = .ref T) (ho : s.heap.get? T = some o) (hs : o.data = .seq #[w] m)
    (h₁ : bindArgs fd ⟨vs, []⟩ = seqItems? fd.defaults >>= k) (h₂ : k (some #[w]) = pure (xs.zip vs)) (hr : RdAll R vs ds) : Bnd C fd vs xs ds R s := fun A => by
  rw [h₁, hd]
  refine wpAny_bind (wpAny_seqItems ho hs ?_)
  rw [h₂]
  exact wpAny_pure ⟨Keeps.rfl' s, _, rfl, hr.mono (Reg.ext_le ro)⟩
end
end Mine
end
noncomputable section
open PySem PySem.W PyProof.Rows PySem.SeqAt PySem.MeetsSeq
set_option Elab.async false
set_option autoImplicit false
set_option maxRecDepth 100000
namespace Mine
noncomputable def Exc (h : Heap) (e : Addr) (cls cx tb : Value) : Prop := ∃ o vs, h.get? e = some o ∧ o.cls = cls ∧ o.data = .fields vs ∧ vs[1]? = some tb ∧ vs[2]? = some cx ∧ vs.size = 6
noncomputable def Fly (h : Heap) (e : Addr) (cls cx : Value) (tb : Addr) (fl : Value) : Prop := Exc h e cls cx (.ref tb) ∧ tb ≠ e ∧ ∃ ot ts, h.get? tb = some ot ∧ ot.data = .fields ts ∧ ts[3]? = some fl
structure MarkX (LS ES : List Addr) (h h' : Heap) : Prop where
  keep : ∀ b o, b ∉ LS → b ∉ ES → h.get? b = some o → h'.get? b = some o
  fr : ∀ b o, b ∈ LS → h.get? b = some o → ∃ sl, h'.get? b = some { o with slots := sl }
theorem MarkX.trans {LS ES ES' : List Addr} {h h' h'' : Heap} (x : MarkX LS ES h h') (y : MarkX LS ES' h' h'') : MarkX LS (ES ++ ES') h h'' :=
  ⟨fun b o h1 h2 q => y.keep b o h1 (fun m => h2 (List.mem_append_right _ m)) (x.keep b o h1 (fun m => h2 (List.mem_append_left _ m)) q), fun b o h1 q => let ⟨_, q1⟩ := x.fr b o h1 q; let ⟨sl, q2⟩ := y.fr b _ h1 q1; ⟨sl, q2⟩⟩
theorem MarkX.of {LS : List Addr} {e : Addr} {h h' : Heap} (x : Heap.SameBut e h h') (he : e ∉ LS) : MarkX LS [e] h h' :=
  ⟨fun b o _ h2 q => x.extBut b o (fun m => h2 (by simp [m])) q, fun b o h1 q => ⟨o.slots, x.extBut b o (fun m => he (m ▸ h1)) q⟩⟩
section
variable {M : Model} {A : Around} {E : Value → Shared → Prop} {s : Shared}
theorem notFrame {Out : List Env} {e : Addr} {o : Obj} {vs : Array Value} {h : Heap} (hl : h.FunFrames noH Out) (ho : h.get? e = some o) (hd : o.data = .fields vs) : e ∉ frs Out := fun hm => by
  obtain ⟨_, o', ho', hnf⟩ := hl.mem hm
  rw [ho] at ho'; injection ho' with ho'; subst ho'; exact hnf _ hd
theorem entry_new {env : Env} {outer : List Env} {L e : Addr} {cls cx tb0 head : Value} {hadNext : Bool} {Q : Unit → Shared → Prop} (hfr : A.frames = some (env :: outer)) (hl : s.heap.FunFrames noH (env :: outer)) (hf : env.frame = some L) (he : Exc s.heap e cls cx tb0)
    (h : ∀ h' tb, MarkX (frs (env :: outer)) [e] s.heap h' → s.heap.get? tb = none → Fly h' e cls cx tb (rawInt L) → Q () { s with heap := h' }) :
    wpAny M A (do setField (.ref e) 1 (← EntryCells.newEntry head (← frameOf env) .none (rawInt L) .none (← entryPlaceOf L hadNext))) Q E s := by
  obtain ⟨oe, vs, ho, hc, hd, h1, hcx, h6⟩ := he
  have hene := notFrame hl ho hd
  refine wpAny_bind (wpAny_frameOf_fun hfr hl hf fun h₁ hs₁ => ?_)
  refine wpAny_bind (wpAny_entryPlaceOf fun pl hpl => ?_)
  unfold EntryCells.newEntry newFields
  refine wpAny_bind (wpAny_newObj_type ?_ (hpl.sizeOk5 _ _ _ _ _))
  have he₁ : h₁.get? e = some oe := (hs₁.2.1 e hene).trans ho
  have he₂ := Heap.get?_push_of_some (h := h₁) { cls := .type "traceback", dict := none, data := .fields ([head, .ref L, .none, rawInt L, .none] ++ (if pl.isEmpty then List.replicate 6 Value.none else pl)).toArray } he₁
  refine wpAny_setField he₂ hd (by omega) (h _ h₁.objs.size ?_ ?_ ?_)
  · refine ⟨fun b o h1 h2 q => ?_, fun b o h1 q => ?_⟩
    · rw [Heap.get?_update_other _ _ (fun m => h2 (by simp [m]))]
      exact Heap.get?_push_of_some _ ((hs₁.2.1 b h1).trans q)
    · obtain ⟨sl, hsl⟩ := hs₁.2.2 b o q
      refine ⟨sl, ?_⟩
      have hbe : e ≠ b := fun w => hene (w ▸ h1)
      rw [Heap.get?_update_other _ _ hbe]
      exact Heap.get?_push_of_some _ hsl
  · cases q : s.heap.get? h₁.objs.size with
    | none => rfl
    | some o => have := Heap.lt_size q; rw [hs₁.1] at this; exact absurd this (Nat.lt_irrefl _)
  · have hTe : h₁.objs.size ≠ e := Nat.ne_of_gt (Heap.lt_size he₁)
    have hT := (Heap.get?_update_other (h₁.push { cls := .type "traceback", dict := none, data := .fields ([head, .ref L, .none, rawInt L, .none] ++ (if pl.isEmpty then List.replicate 6 Value.none else pl)).toArray }) (Obj.mapFields (·.setIfInBounds 1 (Value.ref h₁.objs.size))) (Ne.symm hTe)).trans (Heap.get?_push_size h₁ rfl)
    refine ⟨⟨_, _, Heap.get?_update_self _ he₂ (Obj.isFreed_of_fields (Obj.data_mapFields hd _)), (Obj.cls_mapFields ..).trans hc, Obj.data_mapFields hd _, ?_, ?_, ?_⟩, hTe, _, _, hT, rfl, ?_⟩
    · simp [h6]
    · rw [Array.getElem?_setIfInBounds_ne (by decide)]; exact hcx
    · simp [h6]
    · first | (simp; done) | (rcases hpl with rfl | ⟨_, _, _, _, _, _, _, rfl⟩ <;> simp)
theorem note1 {env : Env} {outer : List Env} {L e : Addr} {cls cx : Value} {Q : Unit → Shared → Prop} (hfr : A.frames = some (env :: outer)) (hl : s.heap.FunFrames noH (env :: outer)) (hf : env.frame = some L) (he : Exc s.heap e cls cx .none)
    (h : ∀ h' tb, MarkX (frs (env :: outer)) [e] s.heap h' → s.heap.get? tb = none → Fly h' e cls cx tb (rawInt L) → Q () { s with heap := h' }) : wpAny M A (noteFrame (.ref e) env) Q E s := by
  obtain ⟨oe, vs, ho, hc, hd, h1, hcx, h6⟩ := id he
  unfold noteFrame
  simp only [hf]
  refine wpAny_bind (wpAny_field ho hd (x := .none) h1 ?_)
  rw [if_neg (by decide)]
  exact entry_new hfr hl hf he h
theorem note_same {env : Env} {L e tb : Addr} {cls cx : Value} {Q : Unit → Shared → Prop} (hf : env.frame = some L) (he : Fly s.heap e cls cx tb (rawInt L)) (h : Q () s) : wpAny M A (noteFrame (.ref e) env) Q E s := by
  obtain ⟨⟨oe, vs, ho, hc, hd, h1, hcx, h6⟩, hne, ot, ts, hT, hdt, h3⟩ := he
  unfold noteFrame
  simp only [hf]
  refine wpAny_bind (wpAny_field ho hd h1 ?_)
  rw [if_pos (show (Value.ref tb != Value.none) = true from by simp)]
  refine wpAny_bind (wpAny_field hT hdt h3 ?_)
  rw [if_pos (by simp)]
  exact wpAny_pure h
theorem note2 {env : Env} {outer : List Env} {L e tb : Addr} {cls cx : Value} {Q : Unit → Shared → Prop} (hfr : A.frames = some (env :: outer)) (Lv : Live (env :: outer) s.heap.get?) (hf : env.frame = some L) (he : Fly s.heap e cls cx tb .none)
    (h : ∀ h' tb', MarkX (frs (env :: outer)) [tb, e] s.heap h' → s.heap.get? tb' = none → Fly h' e cls cx tb' (rawInt L) → Q () { s with heap := h' }) : wpAny M A (noteFrame (.ref e) env) Q E s := by
  obtain ⟨⟨oe, vs, ho, hc, hd, h1, hcx, h6⟩, hne, ot, ts, hT, hdt, h3⟩ := he
  have htb := notFrame Lv.fun hT hdt
  have hsz3 : 3 < ts.size := (Array.getElem?_eq_some_iff.mp h3).1
  unfold noteFrame
  simp only [hf]
  refine wpAny_bind (wpAny_field ho hd h1 ?_)
  rw [if_pos (show (Value.ref tb != Value.none) = true from by simp)]
  refine wpAny_bind (wpAny_field hT hdt h3 ?_)
  rw [if_neg (by simp [rawInt])]
  refine wpAny_bind (wpAny_setField hT hdt hsz3 ?_)
  have sb : Heap.SameBut tb s.heap (s.heap.update tb (Obj.mapFields (·.setIfInBounds 3 Value.none))) := Heap.SameBut.update ..
  have mk := MarkX.of sb htb
  refine entry_new (s := { s with heap := s.heap.update tb (Obj.mapFields (·.setIfInBounds 3 Value.none)) }) (cls := cls) (cx := cx) (tb0 := .ref tb) hfr (Live.fun (Lv.up fun a ha o q => mk.fr a o ha q)) hf ⟨oe, vs, (Heap.get?_update_other _ _ hne).trans ho, hc, hd, h1, hcx, h6⟩ fun h' tb' mk' hn hfly => h h' tb' (mk.trans mk') ?_ hfly
  cases q : s.heap.get? tb' with
  | none => rfl
  | some o =>
    by_cases hb : tb' = tb
    · subst hb
      rw [show Heap.get? _ _ = _ from Heap.get?_update_self _ hT (Obj.isFreed_of_fields (Obj.data_mapFields hdt _))] at hn; (have q_ := oSN hn; clear hn; exact q_.elim)
    · have : (s.heap.update tb (Obj.mapFields (·.setIfInBounds 3 Value.none))).get? tb' = s.heap.get? tb' := Heap.get?_update_other _ _ (Ne.symm hb)
      rw [show Heap.get? _ tb' = _ from this, q] at hn; (have q_ := oSN hn; clear hn; exact q_.elim)
theorem landX {e tb : Addr} {cls cx fl : Value} {Q : Unit → Shared → Prop} (ht : Fly s.heap e cls cx tb fl)
    (h : ∀ h', Heap.SameBut tb s.heap h' → Fly h' e cls cx tb .none → Q () { s with heap := h' }) : wpAny M A (setFlight (.ref e) none) Q E s := by
  obtain ⟨⟨oe, vs, ho, hc, hd, h1, hcx, h6⟩, hne, ot, ts, hT, hdt, h3⟩ := ht
  have hsz3 : 3 < ts.size := (Array.getElem?_eq_some_iff.mp h3).1
  unfold setFlight
  refine wpAny_bind (wpAny_field ho hd h1 ?_)
  rw [if_pos (show (Value.ref tb != Value.none) = true from by simp)]
  refine wpAny_setField hT hdt hsz3 (h _ (Heap.SameBut.update ..) ⟨⟨oe, vs, ?_, hc, hd, h1, hcx, h6⟩, hne, _, _, Heap.get?_update_self _ hT (Obj.isFreed_of_fields (Obj.data_mapFields hdt _)), Obj.data_mapFields hdt _, by simp [hsz3]⟩)
  rw [Heap.get?_update_other _ _ hne]; exact ho
theorem flyX {e tb L : Addr} {cls cx fl : Value} {Q : Unit → Shared → Prop} (ht : Fly s.heap e cls cx tb fl)
    (h : ∀ h', Heap.SameBut tb s.heap h' → Fly h' e cls cx tb (rawInt L) → Q () { s with heap := h' }) : wpAny M A (setFlight (.ref e) (some L)) Q E s := by
  obtain ⟨⟨oe, vs, ho, hc, hd, h1, hcx, h6⟩, hne, ot, ts, hT, hdt, h3⟩ := ht
  have hsz3 : 3 < ts.size := (Array.getElem?_eq_some_iff.mp h3).1
  unfold setFlight
  refine wpAny_bind (wpAny_field ho hd h1 ?_)
  rw [if_pos (show (Value.ref tb != Value.none) = true from by simp)]
  refine wpAny_setField hT hdt hsz3 (h _ (Heap.SameBut.update ..) ⟨⟨oe, vs, ?_, hc, hd, h1, hcx, h6⟩, hne, _, _, Heap.get?_update_self _ hT (Obj.isFreed_of_fields (Obj.data_mapFields hdt _)), Obj.data_mapFields hdt _, by simp [hsz3]⟩)
  rw [Heap.get?_update_other _ _ hne]; exact ho
end
end Mine
end
noncomputable section
open PySem PySem.W PyProof.Rows PySem.SeqAt PySem.MeetsSeq
set_option Elab.async false
set_option autoImplicit false
set_option maxRecDepth 100000
namespace Mine
section
variable {prog : Program} {w : World} {A : Around} {E : Value → Shared → Prop} {s : Shared} {env : Env}
theorem entry_unchain : entryFor table "proto.unchain" = some Builtin.«proto.unchain» := entryFor_of_tree (by kernel_rfl)
theorem unchain_none {e e0 : Addr} {o : Obj} {vs : Array Value} {Q : Value → Shared → Prop} (ho : s.heap.get? e0 = some o) (hd : o.data = .fields vs) (h2 : vs[2]? = some .none) (h : Q .none s) :
    wpAny (model prog w) A (runValue (.builtin "proto.unchain" ⟨[.ref e, .ref e0, .ref e0, .bool false], []⟩)) Q E s := by
  refine wpAny_runValue (codeAny_builtin entry_unchain ?_)
  show wpAny _ _ (field (.ref e0) 2 >>= _) _ _ s
  refine wpAny_bind (wpAny_field ho hd h2 ?_)
  exact wpAny_pure h
theorem raiseStmt_from_none {cls : String} (F : ExcRaiseFacts cls) {e0 : Addr} {x : Sem Value} {c : Sem Value} {Q : Flow → Shared → Prop} (hh : A.handled = some (.ref e0)) (hc : ∀ (Q' : Value → Shared → Prop) s', Q' .none s' → wpAny (model prog w) A c Q' E s')
    (h : wpAny (model prog w) A x (fun v s₁ => ∃ e t o vs, v = .ref e ∧ e ≠ e0 ∧ s₁.heap.get? e = some { cls := .type cls, data := .fields #[.ref t, .none, .none, .none, .bool false, .none] } ∧ s₁.heap.get? e0 = some o ∧ o.data = .fields vs ∧ vs[2]? = some .none ∧
      ∀ h', Heap.SameBut e s₁.heap h' → Exc h' e (.type cls) (.ref e0) .none → E (.ref e) { s₁ with heap := h' }) E s) :
    wpAny (model prog w) A (raiseStmt env (some x) (some c)) Q E s := by
  unfold raiseStmt
  refine wpAny_bind (wpAny_mono h (fun v s₁ h₁ => ?_) fun _ _ x => x)
  obtain ⟨e, t, o, vs, rfl, hne, he, he0, hd0, h2, hE⟩ := h₁
  obtain ⟨hp, g, d, tk, os⟩ := s₁
  have hsub := F.isExc
  have hmeta := F.plainMeta
  refine wpAny_bind (wpAny_holding (hc _ _ (wpAny_bind (wpAny_pure ?_))))
  repeat (first | refine wpAny_loadPart he ?_ | wp_step)
  have he3 := Heap.get?_update_self (Obj.mapFields fun x => x.setIfInBounds 3 Value.none) he rfl
  have he4 := Heap.get?_update_self (Obj.mapFields fun x => x.setIfInBounds 4 (Value.bool true)) he3 rfl
  have he0' : ((hp.update e (Obj.mapFields fun x => x.setIfInBounds 3 Value.none)).update e (Obj.mapFields fun x => x.setIfInBounds 4 (Value.bool true))).get? e0 = some o := (Heap.get?_update_other _ _ hne).trans ((Heap.get?_update_other _ _ hne).trans he0)
  unfold raiseNew
  refine wpAny_bind (wpAny_handled ?_)
  rw [hh]
  show wpAny _ _ (if (Value.ref e0 != Value.ref e) = true then _ else _) _ _ _
  rw [if_pos (by simpa using fun h => hne h.symm)]
  refine wpAny_bind (wpAny_holding (unchain_none he0' hd0 h2 ?_))
  refine wpAny_bind ?_
  show wpAny _ _ (setField (.ref e) 2 (.ref e0)) _ _ _
  refine wpAny_setField he4 rfl (by simp) (wpAny_throw (hE _ ?_ ?_))
  · exact ((Heap.SameBut.update ..).trans (Heap.SameBut.update ..)).trans (Heap.SameBut.update ..)
  · exact ⟨_, _, Heap.get?_update_self _ he4 rfl, rfl, rfl, by simp, by simp, by simp⟩
theorem exec_raise_from_none {cls newId initId : String} (F : ExcCallFacts cls newId initId) (G : ExcRaiseFacts cls) {x : Str} {m : Str} {np cpos pos mp kp : Pos} {k1 k2 : Nat} {e0 : Addr} {o : Obj} {vs : Array Value} {Q : Flow → Shared → Prop} (hh : A.handled = some (.ref e0)) (he0 : s.heap.get? e0 = some o) (hd0 : o.data = .fields vs) (h2 : vs[2]? = some .none)
    (hx : ∀ (Q' : Value → Shared → Prop), Q' (.type cls) s → wpAny (model prog w) A (eval (.Name x np) env) Q' E s)
    (h : ∀ h' e tk, (∀ b o, s.heap.get? b = some o → h'.get? b = some o) → s.heap.get? e = none → Exc h' e (.type cls) (.ref e0) .none → E (.ref e) { s with heap := h', toks := tk }) :
    wpAny (model prog w) A (exec (.Raise (some (.Call (.Name x np) [.Constant (.str m) k1 mp] [] cpos)) (some (.Constant .none k2 kp)) pos) env) Q E s := by
  rw [arm_exec_Raise]
  refine wpAny_bind (wpAny_standAt ?_)
  show wpAny _ _ (raiseStmt env (some (do let v ← eval (.Call (.Name x np) [.Constant (.str m) k1 mp] [] cpos) env; standAt pos; pure v)) (some (do let v ← eval (.Constant .none k2 kp) env; standAt pos; pure v))) _ _ _
  refine raiseStmt_from_none G hh (fun Q' s' hq => ?_) (wpAny_bind (wpAny_Call_ofName (hx _ ?_)))
  · exact wpAny_bind (wpAny_Constant_none (wpAny_bind (wpAny_standAt (wpAny_pure hq))))
  · refine callWith_excType rfl (PySem.Calls.evalArgs_plain (wpAny_items_cons (wpAny_Constant_str (wpAny_items_nil ?_)) rfl))
    refine wpAny_call_exc F (hrest := by rw [sizeLine_val]; simp) fun h' e hm => wpAny_bind (wpAny_standAt (wpAny_pure ?_))
    obtain ⟨t, ht, _, _⟩ := hm.there
    refine ⟨e, t, o, vs, rfl, fun q => ?_, ht, hm.keeps _ _ he0, hd0, h2, fun h'' sb hx => h h'' e _ (fun b ob eb => ?_) hm.new hx⟩
    · have := hm.new; rw [q] at this; rw [show Heap.get? _ e0 = _ from he0] at this; (have q_ := oSN this; clear this; exact q_.elim)
    · exact sb.extBut b ob (fun q => by have := hm.new; rw [← q] at this; rw [show Heap.get? _ b = _ from eb] at this; (have q_ := oSN this; clear this; exact q_.elim)) (hm.keeps _ _ eb)
end
end Mine
end
noncomputable section
open PySem PySem.W PyProof.Rows PySem.SeqAt PySem.MeetsSeq
set_option Elab.async false
set_option autoImplicit false
set_option maxRecDepth 100000
namespace Mine
section
variable {prog : Program} {w : World} {A : Around} {E : Value → Shared → Prop} {s : Shared}
theorem special_item {I l : Addr} {i : Nat} {items : Array Value} {x : Value} {Q : Option Value → Shared → Prop} (hit : s.heap.IsListIter I l i) (hl : s.heap.IsList l items) (hx : items[i]? = some x)
    (hQ : ∀ h', h'.IsListIter I l (i + 1) → Heap.SameBut I s.heap h' → Q (some x) { s with heap := h' }) : wpAny (model prog w) A (callSpecial? (.ref I) (Str.ofString "__next__")) Q E s := by
  obtain ⟨o, ho, hc, hd⟩ := id hit
  obtain ⟨ol, hol, _, nl, hdl⟩ := hl
  refine wpAny_callSpecial?_slot (name := Str.ofString "__next__") hit.typeIs slot_listiter_next (wpAny_call_entry slot_listiter_next hit.typeIs entry_listiter_next ?_ (args_listiter_next _))
  show wpAny _ _ (field (.ref I) 0 >>= _) _ _ s
  refine wpAny_bind (wpAny_field ho hd (x := .ref l) rfl ?_)
  show wpAny _ _ (if (Value.ref l == Value.none) = true then _ else _) _ _ s
  rw [if_neg (show ¬ ((Value.ref l == Value.none) = true) from Bool.false_ne_true)]
  show wpAny _ _ (field (.ref I) 1 >>= _) _ _ s
  refine wpAny_bind (wpAny_field ho hd (x := .int i 0) rfl ?_)
  show wpAny _ _ (seqItems? (.ref l) >>= _) _ _ s
  refine wpAny_bind (wpAny_seqItems hol hdl ?_)
  simp only [Int.toNat_natCast, hx]
  refine wpAny_bind (wpAny_setField ho hd (by simp) (wpAny_pure ⟨x, rfl, hQ _ ?_ (Heap.SameBut.update ..)⟩))
  exact ⟨_, Heap.get?_update_self _ ho (Obj.isFreed_of_fields (Obj.data_mapFields hd _)), (Obj.cls_mapFields ..).trans hc, by
    rw [Obj.data_mapFields hd]; simp [rawInt]⟩
theorem special_end {I l : Addr} {i : Nat} {items : Array Value} {Q : Option Value → Shared → Prop} (hh : A.handled = none) (hit : s.heap.IsListIter I l i) (hl : s.heap.IsList l items) (hx : items[i]? = none)
    (h : ∀ h' e T, Heap.ExtBut I s.heap h' → (∃ o, h'.get? I = some o) → s.heap.get? e = none → s.heap.get? T = none → e ≠ T → h'.get? e = some (stopObj T .none) → E (.ref e) { s with heap := h' }) : wpAny (model prog w) A (callSpecial? (.ref I) (Str.ofString "__next__")) Q E s := by
  obtain ⟨o, ho, hc, hd⟩ := id hit
  obtain ⟨ol, hol, _, nl, hdl⟩ := hl
  refine wpAny_callSpecial?_slot (name := Str.ofString "__next__") hit.typeIs slot_listiter_next (wpAny_call_entry slot_listiter_next hit.typeIs entry_listiter_next ?_ (args_listiter_next _))
  show wpAny _ _ (field (.ref I) 0 >>= _) _ _ s
  refine wpAny_bind (wpAny_field ho hd (x := .ref l) rfl ?_)
  show wpAny _ _ (if (Value.ref l == Value.none) = true then _ else _) _ _ s
  rw [if_neg (show ¬ ((Value.ref l == Value.none) = true) from Bool.false_ne_true)]
  show wpAny _ _ (field (.ref I) 1 >>= _) _ _ s
  refine wpAny_bind (wpAny_field ho hd (x := .int i 0) rfl ?_)
  show wpAny _ _ (seqItems? (.ref l) >>= _) _ _ s
  refine wpAny_bind (wpAny_seqItems hol hdl ?_)
  simp only [Int.toNat_natCast, hx]
  refine wpAny_bind (wpAny_rule (wpAny_bind (wpAny_setField ho hd (by simp) ?_)))
  show wpAny _ _ (newExc (.type "StopIteration") [] >>= _) _ _ _
  refine wpAny_bind ?_
  simp only [newExc, newTuple]
  refine wpAny_bind (wpAny_newObj_type ?_ (by size_fits))
  refine wpAny_bind (m := firstArgMember _ _) (wpAny_of_eq (a := Value.none) (by first | rfl | (simp only [firstArgMember]; rfl)) ?_)
  refine wpAny_newObj_type ?_ (by size_fits)
  simp only [raiseNew]
  refine wpAny_bind (wpAny_handled ?_)
  rw [show A.in1.handled = none from hh]
  refine wpAny_bind (wpAny_pure (wpAny_throw ?_))
  have hsz : ∀ {h : Heap} {a : Addr}, h.objs.size ≤ a → h.get? a = none := fun {h a} ha => by
    cases e : h.get? a with
    | none => rfl
    | some o' => exact absurd (Heap.lt_size e) (Nat.not_lt.mpr ha)
  have hus : (s.heap.update I (Obj.mapFields (·.setIfInBounds 0 Value.none))).objs.size = s.heap.objs.size := Heap.size_after_update ..
  refine h _ _ (s.heap.update I (Obj.mapFields (·.setIfInBounds 0 Value.none))).objs.size (((Heap.SameBut.update ..).extBut.push _).push _) ?_ ?_ ?_ ?_ ?_
  · exact ⟨_, Heap.get?_push_of_some _ (Heap.get?_push_of_some _ (Heap.get?_update_self _ ho (Obj.isFreed_of_fields (Obj.data_mapFields hd _))))⟩
  · exact hsz (by rw [Heap.size_push, hus]; exact Nat.le_succ _)
  · exact hsz (by rw [hus]; exact Nat.le_refl _)
  · rw [Heap.size_push]; exact Nat.succ_ne_self _
  · exact Heap.get?_push_size _ rfl
theorem call_next_item {I l : Addr} {i : Nat} {items : Array Value} {x : Value} {Q : Value → Shared → Prop} (hit : s.heap.IsListIter I l i) (hl : s.heap.IsList l items) (hx : items[i]? = some x)
    (hQ : ∀ h', h'.IsListIter I l (i + 1) → Heap.SameBut I s.heap h' → Q x { s with heap := h' }) : wpAny (model prog w) A (call (.builtin "next") [.ref I]) Q E s := by
  refine Calls.call_function_entry (by decide +kernel) (by decide +kernel) kdk_entry_next (kdk_args_next _) ?_
  unfold Builtin.«next»
  refine wpAny_bind (m := someArgs "next" 1 2 _) (wpAny_of_eq (a := [Value.ref I]) (by first | rfl | kernel_rfl!) ?_)
  dsimp only
  refine wpAny_bind (wpAny_specialOf (name := Str.ofString "__next__") hit.typeIs slot_listiter_next.lookup ?_)
  refine wpAny_ite_split (fun hab => absurd hab (by decide)) (fun _ => ?_)
  exact wpAny_bind (special_item hit hl hx fun h' hit' hs => wpAny_pure ⟨_, rfl, hQ h' hit' hs⟩)
theorem call_next_end {I l : Addr} {i : Nat} {items : Array Value} {Q : Value → Shared → Prop} (hh : A.handled = none) (hit : s.heap.IsListIter I l i) (hl : s.heap.IsList l items) (hx : items[i]? = none)
    (h : ∀ h' e T, Heap.ExtBut I s.heap h' → (∃ o, h'.get? I = some o) → s.heap.get? e = none → s.heap.get? T = none → e ≠ T → h'.get? e = some (stopObj T .none) → E (.ref e) { s with heap := h' }) : wpAny (model prog w) A (call (.builtin "next") [.ref I]) Q E s := by
  refine Calls.call_function_entry (by decide +kernel) (by decide +kernel) kdk_entry_next (kdk_args_next _) ?_
  unfold Builtin.«next»
  refine wpAny_bind (m := someArgs "next" 1 2 _) (wpAny_of_eq (a := [Value.ref I]) (by first | rfl | kernel_rfl!) ?_)
  dsimp only
  refine wpAny_bind (wpAny_specialOf (name := Str.ofString "__next__") hit.typeIs slot_listiter_next.lookup ?_)
  refine wpAny_ite_split (fun hab => absurd hab (by decide)) (fun _ => ?_)
  exact wpAny_bind (special_end hh hit hl hx h)
end
end Mine
end
noncomputable section
open PySem PySem.W PyProof.Rows PySem.SeqAt PySem.MeetsSeq
set_option Elab.async false
set_option autoImplicit false
set_option maxRecDepth 100000
namespace Mine
noncomputable def ExPost (Out : List Env) (s : Shared) (cls x : Value) (s' : Shared) : Prop :=
  ∃ e tb cx, x = .ref e ∧ Fly s'.heap e cls cx tb .none ∧ KeepsBut (frs Out) s s' ∧ UpTo (frs Out) s.heap.get? s'.heap.get? ∧ s.heap.get? e = none ∧ s.heap.get? tb = none
noncomputable def ExBody (env : Env) (Out : List Env) (s : Shared) (cls x : Value) (s' : Shared) : Prop :=
  ∃ e cx, x = .ref e ∧ s.heap.get? e = none ∧ KeepsBut (frs Out) s s' ∧ UpTo (frs Out) s.heap.get? s'.heap.get? ∧ Live (env :: Out) s'.heap.get? ∧ (Exc s'.heap e cls cx .none ∨ ∃ tb, s.heap.get? tb = none ∧ Fly s'.heap e cls cx tb (rawInt env.locals))
noncomputable def XCall (C : Cx) (n : Nat) (f : Addr) (ds : List Dat) (cls : Value) : Prop :=
  ∀ A Out s R vs, Room n A → A.frames = some Out → Live Out s.heap.get? → Rok (C.at noM) R s.heap → RdAll R vs ds → (∀ a ∈ frs Out, R a = none) → wpAny C.M A (call (.ref f) vs) (fun _ _ => False) (ExPost Out s cls) s
section
variable {C : Cx} {s₀ : Shared} {R₀ : Reg} {V : List Addr} {sc : Scope} {env : Env} {W : List Addr} {s s' : Shared} {R R' Mu Mu' : Reg} {Δ Δ' : Vars} {n : Nat} {A : Around} {E : Value → Shared → Prop} {Q : Flow → Shared → Prop}
theorem op_is_self {a : Addr} : Op2 C n (compareOp .Is) (.val (.ref a)) (.val (.ref a)) (.bool true) := by
  intro A s R v₁ v₂ rm ro h₁ h₂
  (have q_ := Rd.valE h₁; clear h₁; subst q_); (have q_ := Rd.valE h₂; clear h₂; subst q_)
  exact wpAny_is_ref_self (Post.pure ro (.bool _))
theorem leave_ex {Out : List Env} {cls x : Value} (hfr : A.frames = some (env :: Out)) (hf : env.frame = some env.locals) (h0 : s₀.heap.get? env.locals = none) (hx : ExBody env Out s₀ cls x s) (hE : ∀ s', ExPost Out s₀ cls x s' → E x s') :
    wpAny C.M A (leaving env x) (fun _ s' => E x s') (fun e' s' => E e' s') s := by
  obtain ⟨e, cx, rfl, he0, kb, up, Lv, hcase⟩ := hx
  have fin : ∀ (h₁ h₂ : Heap) (tb : Addr), s₀.heap.get? tb = none → (∀ b o, b ∉ frs (env :: Out) → b ≠ e → s.heap.get? b = some o → h₁.get? b = some o) → (∀ b o, b ∈ frs (env :: Out) → s.heap.get? b = some o → ∃ sl, h₁.get? b = some { o with slots := sl }) → Heap.SameBut tb h₁ h₂ → Fly h₂ e cls cx tb .none → ExPost Out s₀ cls (.ref e) { s with heap := h₂ } := by
    intro h₁ h₂ tb htb hk hs sb fly
    obtain ⟨hh, tk, rfl, xx⟩ := kb
    refine ⟨e, tb, cx, rfl, fly, ⟨h₂, tk, rfl, fun b o hb eb => ?_⟩, fun a ha o ea => ?_, he0, htb⟩
    · refine sb.extBut b o (fun q => by rw [q, htb] at eb; (have q_ := oNS eb; clear eb; exact q_.elim)) (hk b o (fun q => ?_) (fun q => by rw [q, he0] at eb; (have q_ := oNS eb; clear eb; exact q_.elim)) (xx b o hb eb))
      rw [frs_cons hf] at q
      rcases List.mem_cons.mp q with q | q
      · rw [q, h0] at eb; (have q_ := oNS eb; clear eb; exact q_.elim)
      · exact hb q
    · obtain ⟨sl, e1⟩ := up a ha o ea
      obtain ⟨sl', e2⟩ := hs a _ (by rw [frs_cons hf]; exact List.mem_cons_of_mem _ ha) e1
      exact ⟨sl', sb.extBut a _ (fun q => by rw [q, htb] at ea; (have q_ := oNS ea; clear ea; exact q_.elim)) e2⟩
  unfold leaving
  rcases hcase with hex | ⟨tb, htb, fly⟩
  · refine wpAny_bind (note1 hfr Lv.fun hf hex fun h₁ tb mk htb fly => ?_)
    refine landX (s := { s with heap := h₁ }) fly fun h₂ sb fly₂ => hE _ ?_
    refine fin h₁ h₂ tb ?_ (fun b o hb hne q => mk.keep b o hb (by simpa using hne) q) mk.fr sb fly₂
    cases q : s₀.heap.get? tb with
    | none => rfl
    | some o =>
      by_cases hb : tb ∈ frs Out
      · obtain ⟨sl, e1⟩ := up tb hb o q; rw [show Heap.get? _ tb = _ from e1] at htb; (have q_ := oSN htb; clear htb; exact q_.elim)
      · rw [kb.get hb q] at htb; (have q_ := oSN htb; clear htb; exact q_.elim)
  · refine wpAny_bind (note_same hf fly ?_)
    exact landX fly fun h₂ sb fly₂ => hE _ (fin s.heap h₂ tb htb (fun b o _ _ q => q) (fun b o _ q => ⟨o.slots, q⟩) sb fly₂)
theorem xcall_fn {a : Addr} {fd : FuncData} {xs : List Str} {body : List Stmt} {ds es : List Dat} {cls : Value} (f : FnC C a fd xs body) (hl : xs.length = es.length)
    (hb : ∀ R s vs, Rok (C.at noM) R s.heap → RdAll R vs ds → Bnd C fd vs xs es R s)
    (h : ∀ A Out env W s₀ s R R₁ Mu, env.scope = fd.scope → env.frame = some env.locals → A.frames = some (env :: Out) → Live Out Mu → UpTo (frs Out) s₀.heap.get? Mu → hle C.h₀ s₀.heap → (∀ b ∈ frs Out, C.h₀.get? b = none) → Room n A → Fra C s₀ R (frs Out) fd.scope env W s R₁ Mu (updAll noV xs es) →
      wpAny C.M A (execs body env) (fun _ _ => False) (ExBody env Out s₀ cls) s) : XCall C (n + 1) a ds cls := by
  intro A Out s R vs rm hfr Lv ro hr hO
  refine wpAny_call (fn_callF f rm ro (hb R s vs ro hr) hl fun env W s' R' e ef rm' F => ?_)
  have hVo : ∀ a ∈ frs Out, ∃ o, s.heap.get? a = some o := fun a ha => let ⟨o, e, _⟩ := Lv.obj ha; ⟨o, e⟩
  have F' : Fra C s R (frs Out) fd.scope env W s' R' (fun a => if a ∈ frs Out then s.heap.get? a else none) (updAll noV xs es) := F.lent (fun a ha => by
    cases q : R' a with
    | none => rfl
    | some o =>
      rcases F.sub a o q with h | h
      · rw [hO a ha] at h; (have q_ := oNS h; clear h; exact q_.elim)
      · obtain ⟨o', e'⟩ := hVo a ha; rw [e'] at h; (have q_ := oSN h; clear h; exact q_.elim)) hVo
  have hb0 : ∀ b ∈ frs Out, C.h₀.get? b = none := fun b hb => by
    cases q : C.h₀.get? b with
    | none => rfl
    | some o => have := ro.base b o q; rw [hO b hb] at this; (have q_ := oNS this; clear this; exact q_.elim)
  have U0 : UpTo (frs Out) s.heap.get? (fun a => if a ∈ frs Out then s.heap.get? a else none) := .of fun a ha o e => by simp only [ha, if_true]; exact e
  refine wpAny_mono (h _ Out env W s s' R R' _ e ef (Around.frames_deeper hfr) (Lv.up U0) U0 ro.hle0 hb0 rm' F') (fun _ _ q => q.elim) fun x s₂ q => ?_
  exact leave_ex (C := C) (E := fun x s'' => ExPost Out s cls x s'') (Around.frames_deeper hfr) ef (F.fresh _ F.ew.locW) q fun _ p => p
end
end Mine
end
noncomputable section
open PySem PySem.W PyProof.Rows PySem.SeqAt PySem.MeetsSeq
set_option Elab.async false
set_option autoImplicit false
set_option maxRecDepth 100000
namespace Mine
structure Inv (env : Env) (Out : List Env) (h₀ h : Heap) : Prop where
  keep : ∀ b o, b ∉ frs Out → h₀.get? b = some o → h.get? b = some o
  up : UpTo (frs Out) h₀.get? h.get?
  live : Live (env :: Out) h.get?
section
variable {env : Env} {Out : List Env} {h₀ h h' : Heap}
theorem Inv.fresh (I : Inv env Out h₀ h) {a : Addr} (q : h.get? a = none) : h₀.get? a = none := by
  cases e : h₀.get? a with
  | none => rfl
  | some o =>
    by_cases hb : a ∈ frs Out
    · obtain ⟨sl, e1⟩ := I.up a hb o e; rw [q] at e1; (have q_ := oNS e1; clear e1; exact q_.elim)
    · rw [I.keep a o hb e] at q; (have q_ := oSN q; clear q; exact q_.elim)
theorem Inv.base {c : Heap} (I : Inv env Out h₀ h) (h1 : hle c h₀) (h2 : ∀ b ∈ frs Out, c.get? b = none) : hle c h := fun b o q => I.keep b o (fun hb => by rw [h2 b hb] at q; (have q_ := oNS q; clear q; exact q_.elim)) (h1 b o q)
theorem Inv.ext (I : Inv env Out h₀ h) (k : hle h h') : Inv env Out h₀ h' :=
  ⟨fun b o hb e => k _ _ (I.keep b o hb e), fun a ha o e => let ⟨sl, q⟩ := I.up a ha o e; ⟨sl, k _ _ q⟩, I.live.up (.of fun _ _ _ e => k _ _ e)⟩
theorem Inv.but {a : Addr} (I : Inv env Out h₀ h) (x : Heap.ExtBut a h h') (ha : h₀.get? a = none) (hn : a ∉ frs (env :: Out)) : Inv env Out h₀ h' := by
  have hn' : ∀ b ∈ frs (env :: Out), b ≠ a := fun b hb q => hn (q ▸ hb)
  have sub : ∀ b ∈ frs Out, b ∈ frs (env :: Out) := fun b hb => by
    obtain ⟨e, he, q⟩ := List.mem_filterMap.mp hb
    exact List.mem_filterMap.mpr ⟨e, List.mem_cons_of_mem _ he, q⟩
  exact ⟨fun b o hb e => x b o (fun q => by rw [q, ha] at e; (have q_ := oNS e; clear e; exact q_.elim)) (I.keep b o hb e), fun b hb o e => let ⟨sl, q⟩ := I.up b hb o e; ⟨sl, x b _ (hn' b (sub b hb)) q⟩, I.live.up (.of fun b hb o e => x b o (hn' b hb) e)⟩
theorem Inv.mark {ES : List Addr} (I : Inv env Out h₀ h) (hf : env.frame = some env.locals) (h0 : h₀.get? env.locals = none) (x : MarkX (frs (env :: Out)) ES h h') (hE : ∀ e ∈ ES, h₀.get? e = none) : Inv env Out h₀ h' := by
  refine ⟨fun b o hb e => x.keep b o (fun q => ?_) (fun q => by rw [hE b q] at e; (have q_ := oNS e; clear e; exact q_.elim)) (I.keep b o hb e), fun b hb o e => ?_, I.live.up fun b hb o e => x.fr b o hb e⟩
  · rw [frs_cons hf] at q
    rcases List.mem_cons.mp q with q | q
    · rw [q, h0] at e; (have q_ := oNS e; clear e; exact q_.elim)
    · exact hb q
  · obtain ⟨sl, q⟩ := I.up b hb o e
    obtain ⟨sl', q'⟩ := x.fr b _ (by rw [frs_cons hf]; exact List.mem_cons_of_mem _ hb) q
    exact ⟨sl', q'⟩
end
theorem frames_mark {A : Around} {v : Option Value} : (A.mark v).frames = A.frames := by cases A; rfl
section
variable {C : Cx} {s₀ : Shared} {R₀ : Reg} {sc : Scope} {env : Env} {W : List Addr} {s : Shared} {R Mu : Reg} {Δ : Vars} {n : Nat} {A : Around} {Q : Flow → Shared → Prop} {Out : List Env}
theorem Fra.inv (F : Fra C s₀ R₀ (frs Out) sc env W s R Mu Δ) (hf : env.frame = some env.locals) (Lv : Live Out Mu) (up : UpTo (frs Out) s₀.heap.get? Mu) : Inv env Out s₀.heap s.heap :=
  ⟨fun b o hb e => F.keep.get hb e, fun a ha o e => by
    obtain ⟨sl, q⟩ := up a ha o e
    exact ⟨sl, (F.mu _ _ q).1⟩, F.live hf Lv⟩
theorem Fly.off {h : Heap} {e tb : Addr} {cls cx fl : Value} (x : Fly h e cls cx tb fl) (Lv : Live (env :: Out) h.get?) : e ∉ frs (env :: Out) ∧ tb ∉ frs (env :: Out) := by
  obtain ⟨⟨oe, vs, ho, hc, hd, h1, hcx, h6⟩, hne, ot, ts, hT, hdt, h3⟩ := x
  exact ⟨notFrame Lv.fun ho hd, notFrame Lv.fun hT hdt⟩
theorem st_try_end {x it nf f tf m : Str} {xp np ip cp qp fp tfp mp tcp kp rp hp tp : Pos} {k1 k2 : Nat} {I l : Addr} {i : Nat} {items : Array Value} {rest : List Stmt}
    (F : Fra C s₀ R₀ (frs Out) sc env W s R Mu Δ) (rm : Room n A) (hfr : A.frames = some (env :: Out)) (hf : env.frame = some env.locals) (Lv : Live Out Mu) (up : UpTo (frs Out) s₀.heap.get? Mu) (hb1 : hle C.h₀ s₀.heap) (hb2 : ∀ b ∈ frs Out, C.h₀.get? b = none)
    (hn : Ev (C.at Mu) n sc Δ (.Name nf np) (.val (.builtin "next"))) (hit : Ev (C.at Mu) n sc Δ (.Name it ip) (.val (.ref I))) (hI : s.heap.IsListIter I l i) (hL : s.heap.IsList l items) (hx : items[i]? = none) (hI0 : s₀.heap.get? I = none)
    (gs : GlobIs C f (.type "StopIteration")) (hfk : sc.names.lookup f = some .globalImplicit) (gt : GlobIs C tf (.type "TypeError")) (htk : sc.names.lookup tf = some .globalImplicit)
    (hxf : ((f == ("__debug__" : Str))) = false := by decide +kernel) (hxt : ((tf == ("__debug__" : Str))) = false := by decide +kernel)
    (hsw : swapsWith (.Call (.Name nf np) [.Name it ip] [] cp) (some (.Name x xp)) qp.line env = pure false := by rfl) :
    wpAny C.M A (execs (.Try [.Assign [.Name x xp] (.Call (.Name nf np) [.Name it ip] [] cp) qp] [.ExceptHandler (some (.Name f fp)) none [.Raise (some (.Call (.Name tf tfp) [.Constant (.str m) k1 mp] [] tcp)) (some (.Constant .none k2 kp)) rp] hp] [] [] tp :: rest) env) Q (ExBody env Out s₀ (.type "TypeError")) s := by
  have h0 := F.fresh _ F.ew.locW
  refine wpAny_execs_cons (wpAny_Try_except (wpAny_execs_cons (wpAny_Assign_Name (Call_ (F.ev rm hn fun fv s₁ R₁ l₁ k₁ hfv F₁ => ?_)) hsw)))
  (have q_ := Rd.valE hfv; clear hfv; subst q_)
  refine callWith_method1 (first := []) (wpAny_items_cons (F₁.ev rm hit fun v s₂ R₂ l₂ k₂ hv F₂ => wpAny_items_nil ?_) rfl) rfl rfl
  (have q_ := Rd.valE hv; clear hv; subst q_)
  have k12 := Keeps.hle (Keeps.tr k₁ k₂)
  have hI₂ : s₂.heap.IsListIter I l i := let ⟨o, a, r⟩ := hI; ⟨o, k12 _ _ a, r⟩
  have hL₂ : s₂.heap.IsList l items := let ⟨o, a, r⟩ := hL; ⟨o, k12 _ _ a, r⟩
  have inv₂ := F₂.inv hf Lv up
  have hIn : I ∉ frs (env :: Out) := by obtain ⟨o, a, _, hd⟩ := hI₂; exact notFrame inv₂.live.fun a hd
  refine call_next_end rm.handled hI₂ hL₂ hx fun h' e0 T ext hIa he0 hT0 heT hstop => ?_
  have inv₃ := inv₂.but ext hI0 hIn
  have fe0 := inv₂.fresh he0
  have hex0 : Exc h' e0 (.type "StopIteration") .none .none := ⟨_, _, hstop, rfl, rfl, rfl, rfl, rfl⟩
  refine note1 (s := { s₂ with heap := h' }) hfr inv₃.live.fun hf hex0 fun h₄ tb mk₄ htb fly₄ => ?_
  have inv₄ := inv₃.mark hf h0 mk₄ (fun e he => by rw [List.mem_singleton.mp he]; exact fe0)
  have ftb := inv₃.fresh htb
  refine landX (s := { s₂ with heap := h₄ }) fly₄ fun h₅ sb₅ fly₅ => ?_
  have inv₅ := inv₄.but sb₅.extBut ftb (fly₄.off inv₄.live).2
  have hfrm : ∀ v, (A.mark v).frames = some (env :: Out) := fun v => by rw [frames_mark, hfr]
  obtain ⟨⟨oe, vs, ho, hc, hd, h1, hcx, h6⟩, hr⟩ := id fly₅
  refine wpAny_handleBy_builtin (s := { s₂ with heap := h₅ }) stop_exc stop_nt stop_self (wpAny_Name (gs _ env _ _ _ (F₂.eo.hsc ▸ F₂.eo.fn) (by rw [← F₂.eo.hsc] at hfk; exact hfk) F₂.eo.gl F₂.eo.bl (inv₅.base hb1 hb2) ⟨rfl, ⟨_, ho, hc⟩, ?_⟩) hxf)
  rw [if_pos rfl]
  refine landX (s := { s₂ with heap := h₅ }) fly₅ fun h₆ sb₆ fly₆ => ?_
  have inv₆ := inv₅.but sb₆.extBut ftb (fly₅.off inv₅.live).2
  obtain ⟨⟨oe', vs', ho', hc', hd', h1', hcx', h6'⟩, hr'⟩ := id fly₆
  refine wpAny_execs_cons (exec_raise_from_none (s := { s₂ with heap := h₆ }) PySem.F.excCall_TypeError PySem.F.excRaise_TypeError rfl ho' hd' hcx' (fun Q' hq => wpAny_Name (gt _ env _ _ _ (F₂.eo.hsc ▸ F₂.eo.fn) (by rw [← F₂.eo.hsc] at htk; exact htk) F₂.eo.gl F₂.eo.bl (inv₆.base hb1 hb2) hq) hxt) fun h₇ e tk k₇ he hex => ?_)
  have inv₇ := inv₆.ext (h' := h₇) k₇
  have fe := inv₆.fresh he
  refine note1 (s := { s₂ with heap := h₇, toks := tk }) (hfrm _) inv₇.live.fun hf hex fun h₈ tb' mk₈ htb' fly₈ => ?_
  have inv₈ := inv₇.mark hf h0 mk₈ (fun e' he' => by rw [List.mem_singleton.mp he']; exact fe)
  have ftb' := inv₇.fresh htb'
  have hkeep := F₂.keep
  unfold cameBackBy
  obtain ⟨⟨o8, vs8, ho8, hc8, hd8, h18, hcx8, h68⟩, hne8, hr8⟩ := id fly₈
  refine wpAny_bind (wpAny_field (s := { s₂ with heap := h₈, toks := tk }) ho8 hd8 h18 ?_)
  rw [if_neg (by simp)]
  show wpAny _ _ (setFlight (.ref e) env.frame) _ _ _
  rw [hf]
  refine flyX (s := { s₂ with heap := h₈, toks := tk }) fly₈ fun h₉ sb₉ fly₉ => ?_
  have inv₉ := inv₈.but sb₉.extBut ftb' (fly₈.off inv₈.live).2
  refine ⟨e, _, rfl, fe, ?_, inv₉.up, inv₉.live, .inr ⟨tb', ftb', fly₉⟩⟩
  obtain ⟨hh, tk₂, e2, _⟩ := hkeep
  exact ⟨h₉, tk, by rw [e2], fun b o hb q => inv₉.keep b o hb q⟩
end
end Mine
end
noncomputable section
open PySem PySem.W PyProof.Rows PySem.SeqAt PySem.MeetsSeq
set_option Elab.async false
set_option autoImplicit false
set_option maxRecDepth 100000
namespace Mine
noncomputable def ExBodyK (env : Env) (Out : List Env) (V : List Addr) (s₀ : Shared) (cls : Value) (K : Reg) (x : Value) (s : Shared) : Prop :=
  ∃ e cx, x = .ref e ∧ s₀.heap.get? e = none ∧ K e = none ∧ KeepsBut V s₀ s ∧ UpTo (frs Out) s₀.heap.get? s.heap.get? ∧ Live (env :: Out) s.heap.get? ∧ (∀ a o, K a = some o → s.heap.get? a = some o) ∧ (∀ a ∈ frs (env :: Out), K a = none) ∧ Exc s.heap e cls cx .none
structure ExPostK (Out : List Env) (V : List Addr) (s : Shared) (cls : Value) (K : Reg) (x : Value) (s' : Shared) : Prop where
  exc : ∃ e tb cx, x = .ref e ∧ Fly s'.heap e cls cx tb .none ∧ s.heap.get? e = none ∧ s.heap.get? tb = none ∧ K e = none ∧ K tb = none
  keep : KeepsBut V s s'
  fr : UpTo (frs Out) s.heap.get? s'.heap.get?
  kept : ∀ a o, K a = some o → s'.heap.get? a = some o
section
variable {C : Cx} {s₀ : Shared} {R₀ : Reg} {V : List Addr} {sc : Scope} {env : Env} {W : List Addr} {s s' : Shared} {R R' Mu Mu' : Reg} {Δ Δ' : Vars} {n : Nat} {A : Around} {E : Value → Shared → Prop} {Q : Flow → Shared → Prop}
theorem leave_exK {Out : List Env} {cls x : Value} {K : Reg} (hfr : A.frames = some (env :: Out)) (hf : env.frame = some env.locals) (h0 : s₀.heap.get? env.locals = none) (hV : ∀ a ∈ frs Out, a ∈ V) (hVK : ∀ a ∈ V, a ∈ frs Out ∨ ∃ o, K a = some o) (hx : ExBodyK env Out V s₀ cls K x s) (hE : ∀ s', ExPostK Out V s₀ cls K x s' → E x s') :
    wpAny C.M A (leaving env x) (fun _ s' => E x s') (fun e' s' => E e' s') s := by
  obtain ⟨e, cx, rfl, he0, hKe, kb, up, Lv, hK, hKf, hex⟩ := hx
  unfold leaving
  refine wpAny_bind (note1 hfr Lv.fun hf hex fun h₁ tb mk htb fly => ?_)
  refine landX (s := { s with heap := h₁ }) fly fun h₂ sb fly₂ => hE _ ?_
  have htb0 : s₀.heap.get? tb = none := by
    cases q : s₀.heap.get? tb with
    | none => rfl
    | some o =>
      by_cases hb : tb ∈ frs Out
      · obtain ⟨sl, e1⟩ := up tb hb o q; rw [show Heap.get? _ tb = _ from e1] at htb; (have q_ := oSN htb; clear htb; exact q_.elim)
      · by_cases hv : tb ∈ V
        · obtain ⟨o', e'⟩ := (hVK tb hv).resolve_left hb
          rw [show Heap.get? _ tb = _ from hK tb o' e'] at htb; (have q_ := oSN htb; clear htb; exact q_.elim)
        · rw [kb.get hv q] at htb; (have q_ := oSN htb; clear htb; exact q_.elim)
  have hKtb : K tb = none := by
    cases q : K tb with
    | none => rfl
    | some o => rw [hK tb o q] at htb; (have q_ := oSN htb; clear htb; exact q_.elim)
  refine ⟨⟨e, tb, cx, rfl, fly₂, he0, htb0, hKe, hKtb⟩, ?_, fun a ha o ea => ?_, fun a o ea => ?_⟩
  · obtain ⟨hh, tk, rfl, xx⟩ := kb
    refine ⟨h₂, tk, rfl, fun b o hb eb => ?_⟩
    refine sb.extBut b o (fun q => by rw [q, htb0] at eb; (have q_ := oNS eb; clear eb; exact q_.elim)) (mk.keep b o (fun q => ?_) (fun q => by rw [List.mem_singleton.mp q, he0] at eb; (have q_ := oNS eb; clear eb; exact q_.elim)) (xx b o hb eb))
    rw [frs_cons hf] at q
    rcases List.mem_cons.mp q with q | q
    · rw [q, h0] at eb; (have q_ := oNS eb; clear eb; exact q_.elim)
    · exact hb (hV _ q)
  · obtain ⟨sl, e1⟩ := up a ha o ea
    obtain ⟨sl', e2⟩ := mk.fr a _ (by rw [frs_cons hf]; exact List.mem_cons_of_mem _ ha) e1
    exact ⟨sl', sb.extBut a _ (fun q => by rw [q, htb0] at ea; (have q_ := oNS ea; clear ea; exact q_.elim)) e2⟩
  · refine sb.extBut a o (fun q => by rw [q, hKtb] at ea; (have q_ := oNS ea; clear ea; exact q_.elim)) (mk.keep a o (fun q => ?_) (fun q => by rw [List.mem_singleton.mp q, hKe] at ea; (have q_ := oNS ea; clear ea; exact q_.elim)) (hK a o ea))
    rw [hKf a q] at ea; (have q_ := oNS ea; clear ea; exact q_.elim)
theorem st_raise2 {x : Str} {e₁ e₂ : Expr} {d₁ d₂ : Dat} {c Ns : Addr} {nm qn : Str} {bs bm : List Value} {hdct : Bool} {sn : List Str} {sub : List Value} {ab : Bool} {col : Option Bool} {dd : Option Addr} {k0 k1 k2 k3 k5 : Option Value} {newId B initId : String} {mN : Str → Option Value} {np cpos pos : Pos} {rest : List Stmt}
    (F : Fra C s₀ R₀ V sc env W s R Mu Δ) (rm : Room n A) (FB : ExcBaseFacts B newId initId bm) (gx : Ev (C.at Mu) n sc Δ (.Name x np) (.val (.ref c)))
    (hC : C.h₀.get? c = some (excClassObj nm qn c Ns bs bm hdct sn sub ab col dd k0 k1 k2 k3 k5 newId)) (hN : C.h₀.Ns Ns mN) (hni : mN "__init__" = none) (h₁ : Ev (C.at Mu) n sc Δ e₁ d₁) (h₂ : Ev (C.at Mu) n sc Δ e₂ d₂)
    (h : ∀ s₁ R₁ h' e, Fra C s₀ R₀ V sc env W s₁ R₁ Mu Δ → (∀ b o, s₁.heap.get? b = some o → h'.get? b = some o) → s₁.heap.get? e = none → Exc h' e (.ref c) .none .none → E (.ref e) { s₁ with heap := h' })
    (hs : starEach [e₁, e₂] env = [(false, eval e₁ env), (false, eval e₂ env)] := by rfl) :
    wpAny C.M A (execs (.Raise (some (.Call (.Name x np) [e₁, e₂] [] cpos)) none pos :: rest) env) Q E s := by
  refine wpAny_execs_cons (wpAny_Raise_call_sub (C := c) (nm := nm) (q := qn) (N := Ns) (bs := bs) (bm := bm) (hdct := hdct) (sn := sn) (sub := sub) (ab := ab) (col := col) (dd := dd) (k0 := k0) (k1 := k1) (k2 := k2) (k3 := k3) (k5 := k5) (mN := mN)
    FB rm.handled (by rw [hs]; rfl) hni (F.ev rm gx fun fv s₁ R₁ l₁ k₁ hfv F₁ => ?_))
  (have q_ := Rd.valE hfv; clear hfv; subst q_)
  refine ⟨rfl, ?_⟩
  rw [hs]
  refine PySem.Calls.evalArgs_plain ?_
  refine (PySem.Calls.spliced_cons (F₁.ev rm h₁ fun v₁ s₂ R₂ l₂ k₂ hv₁ F₂ => PySem.Calls.spliced_cons (F₂.ev rm h₂ fun v₂ s₃ R₃ l₃ k₃ hv₂ F₃ => PySem.Calls.spliced_nil ?_)))
  refine ⟨rfl, by rw [sizeLine_val]; simp, F₃.ro.hle0 _ _ hC, hN.keeps F₃.ro.hle0, fun h' e hm => ?_⟩
  obtain ⟨t, ht, _, _⟩ := hm.there
  exact h s₃ R₃ h' e F₃ hm.keeps hm.new ⟨_, _, ht, rfl, rfl, rfl, rfl, rfl⟩
end
structure EPost (C : Cx) (cT cN : Addr) (Out : List Env) (s : Shared) (Z : Srt) (σ : Sd) (cls x : Value) (s' : Shared) (Z' : Srt) (σ' : Sd) : Prop where
  self : Z'.s = Z.s
  keep : KeepsBut (frs Out ++ Z.all σ) s s'
  fr : UpTo (frs Out) s.heap.get? s'.heap.get?
  at' : SAt C cT cN s'.heap.get? Z' σ'
  new : ∀ a ∈ Z'.all σ', a ∈ Z.all σ ∨ s.heap.get? a = none
  old : ∀ a ∈ Z.all σ, a ∈ Z'.all σ'
  exc : ∃ e tb cx, x = .ref e ∧ Fly s'.heap e cls cx tb .none ∧ s.heap.get? e = none ∧ s.heap.get? tb = none ∧ e ∉ Z'.all σ' ∧ tb ∉ Z'.all σ'
noncomputable def XFCall (C : Cx) (cT cN : Addr) (n : Nat) (f : Addr) (ds : List Dat) (Z : Srt) (σ : Sd) (cls : Value) (P : Srt → Sd → Dat → Prop) (PE : Srt → Sd → Prop) : Prop :=
  ∀ A Out s R vs, Room n A → A.frames = some Out → Live Out s.heap.get? → Rok (C.at noM) R s.heap → RdAll R vs ds → SAt C cT cN s.heap.get? Z σ → (∀ a ∈ Z.all σ, R a = none) → (∀ a ∈ frs Out, R a = none ∧ a ∉ Z.all σ) →
    wpAny C.M A (call (.ref f) (.ref Z.s :: vs)) (fun v s' => ∃ Z' σ' d, P Z' σ' d ∧ FPost C cT cN Out s R Z σ v s' Z' σ' d) (fun x s' => ∃ Z' σ', PE Z' σ' ∧ EPost C cT cN Out s Z σ cls x s' Z' σ') s
section
variable {C : Cx} {n : Nat}
theorem xfcall_fn {cT cN a : Addr} {fd : FuncData} {xs : List Str} {body : List Stmt} {ds es : List Dat} {Z : Srt} {σ : Sd} {cls : Value} {P : Srt → Sd → Dat → Prop} {PE : Srt → Sd → Prop} (f : FnC C a fd xs body) (hl : xs.length = es.length)
    (hb : ∀ R s vs, R.on s.heap → Rok (C.at noM) R s.heap → RdAll R vs ds → Bnd C fd (.ref Z.s :: vs) xs es R s)
    (h : ∀ A Out env W s₀ s R R₁ Mu, env.scope = fd.scope → env.frame = some env.locals → A.frames = some (env :: Out) → Live Out Mu → UpTo (frs Out) s₀.heap.get? Mu → (∀ a ∈ frs Out, a ∉ Z.all σ) → Room n A → Fra C s₀ R (frs Out ++ Z.all σ) fd.scope env W s R₁ Mu (updAll noV xs es) → SAt C cT cN Mu Z σ →
      wpAny C.M A (execs body env) (fun fl s₂ => ∃ R₂ Mu₂ Δ₂ Z' σ' d, Fra C s₀ R (frs Out ++ Z.all σ) fd.scope env W s₂ R₂ Mu₂ Δ₂ ∧ UpTo (frs Out) Mu Mu₂ ∧ SAt C cT cN Mu₂ Z' σ' ∧ P Z' σ' d ∧ Z'.s = Z.s ∧ (∀ a ∈ Z'.all σ', a ∈ Z.all σ ∨ s₀.heap.get? a = none) ∧ (∀ a ∈ Z.all σ, a ∈ Z'.all σ') ∧ Rd R₂ (match (motive := Flow → Value) fl with | .ret v => v | _ => .none) d) (fun x s₂ => ∃ Z' σ' K, PE Z' σ' ∧ Z'.s = Z.s ∧ SAt C cT cN K Z' σ' ∧ (∀ a ∈ Z'.all σ', a ∈ Z.all σ ∨ s₀.heap.get? a = none) ∧ (∀ a ∈ Z.all σ, a ∈ Z'.all σ') ∧ ExBodyK env Out (frs Out ++ Z.all σ) s₀ cls K x s₂) s) :
    XFCall C cT cN (n + 1) a ds Z σ cls P PE := by
  intro A Out s R vs rm hfr Lv ro hr S hR hO
  refine wpAny_call (fn_callF f rm ro (hb R s vs ro.on ro hr) hl fun env W s' R' e ef rm' F => ?_)
  have hVo : ∀ a ∈ frs Out ++ Z.all σ, ∃ o, s.heap.get? a = some o := fun a ha => by
    rcases List.mem_append.mp ha with q | q
    · obtain ⟨o, e, _⟩ := Lv.obj q; exact ⟨o, e⟩
    · obtain ⟨o, e, _⟩ := S.obj q; exact ⟨o, e⟩
  have F' : Fra C s R (frs Out ++ Z.all σ) fd.scope env W s' R' (fun a => if a ∈ frs Out ++ Z.all σ then s.heap.get? a else none) (updAll noV xs es) := F.lent (fun a ha => by
    cases q : R' a with
    | none => rfl
    | some o =>
      rcases F.sub a o q with h | h
      · rcases List.mem_append.mp ha with q | q
        · rw [(hO a q).1] at h; (have q_ := oNS h; clear h; exact q_.elim)
        · rw [hR a q] at h; (have q_ := oNS h; clear h; exact q_.elim)
      · obtain ⟨o', e'⟩ := hVo a ha; rw [e'] at h; (have q_ := oSN h; clear h; exact q_.elim)) hVo
  have U0 : UpTo (frs Out) s.heap.get? (fun a => if a ∈ frs Out ++ Z.all σ then s.heap.get? a else none) := .of fun a ha o e => by simp only [List.mem_append_left (Z.all σ) ha, if_true]; exact e
  refine wpAny_mono (h _ Out env W s s' R R' _ e ef (Around.frames_deeper hfr) (Lv.up U0) U0 (fun a ha => (hO a ha).2) rm' F' (S.on fun a o ha e => by simp only [List.mem_append_right (frs Out) ha, if_true]; exact e)) (fun fl s₂ p => ?_) fun x s₂ q => ?_
  · obtain ⟨R₂, Mu₂, Δ₂, Z', σ', d, F₂, U, S₂, hP, hs, hn, ho, hv⟩ := p
    refine ⟨Z', σ', d, hP, hs, F₂.keep, fun a ha o e => ?_, S₂.on fun a o _ e => (F₂.mu a o e).1, hn, ho, hv.mono fun b ob e => ?_⟩
    · obtain ⟨sl, q⟩ := (U0.trans U) a ha o e
      exact ⟨sl, (F₂.mu _ _ q).1⟩
    refine Reg.minus_some (fun hb => ?_) ?_
    · obtain ⟨o', e', _⟩ := S₂.obj hb
      rw [(F₂.mu b o' e').2.1] at e; (have q_ := oNS e; clear e; exact q_.elim)
    · have on := F₂.ro.on b ob e
      rcases F₂.sub b ob e with q | q
      · simp only [Reg.ext, ro.on b ob q]; exact q
      · simp only [Reg.ext, q]; exact on
  obtain ⟨Z', σ', K, hP, hs, S', hn, ho, hx⟩ := q
  refine leave_exK (C := C) (E := fun x s'' => ∃ Z' σ', PE Z' σ' ∧ EPost C cT cN Out s Z σ cls x s'' Z' σ') (Around.frames_deeper hfr) ef (F.fresh _ F.ew.locW) (fun a ha => List.mem_append_left _ ha) (fun a ha => (List.mem_append.mp ha).imp id fun q => by
    obtain ⟨o, e, _⟩ := S'.obj (ho a q); exact ⟨o, e⟩) hx fun s₃ p => ⟨Z', σ', hP, ?_⟩
  have hno : ∀ b, K b = none → b ∉ Z'.all σ' := fun b hb hm => by
    obtain ⟨o, e, _⟩ := S'.obj hm; rw [hb] at e; (have q_ := oNS e; clear e; exact q_.elim)
  obtain ⟨e, tb, cx, rfl, fly, e1, e2, e3, e4⟩ := p.exc
  exact ⟨hs, p.keep, p.fr, S'.on fun b o _ eb => p.kept b o eb, hn, ho, ⟨e, tb, cx, rfl, fly, e1, e2, hno _ e3, hno _ e4⟩⟩
end
end Mine
end
noncomputable section
open PySem PySem.W PyProof.Rows PySem.SeqAt PySem.MeetsSeq
set_option Elab.async false
set_option autoImplicit false
namespace Mine
section
variable {C : Cx} {s₀ : Shared} {R₀ : Reg} {V : List Addr} {sc : Scope} {env : Env} {W : List Addr} {s s' : Shared} {R R' Mu Mu' : Reg} {Δ Δ' : Vars} {n : Nat} {A : Around} {E : Value → Shared → Prop} {Q : Flow → Shared → Prop}
theorem st_forX {α : Type} {L : List α} {enc : α → Dat} {tds : α → List Dat} {target iter : Expr} {body rest : List Stmt} {p : Pos} (xs : List Str) (T : List Addr) (Δs : Nat → Vars) (J : Nat → Reg → Reg → List Addr → Prop)
    (F : Fra C s₀ R₀ V sc env W s R Mu Δ) (rm : Room n A) (hit : EvIt (C.at (Mu.minus T)) n sc Δ iter (L.map enc)) (hΔ : ∀ x d, Δs 0 x = some d → Δ x = some d) (hT0 : ∀ a ∈ T, ∃ o, Mu a = some o)
    (hxs : ∀ x ∈ xs, sc.names.lookup x = some .local ∨ sc.names.lookup x = some .cell) (hT : ∀ a ∈ L, Tgt target (enc a) xs (tds a))
    (Jm : ∀ i R R' Mu Mu' X, J i R Mu X → R.le R' → (∀ a ∈ X, Mu' a = Mu a) → J i R' Mu' X) (h0 : J 0 R Mu T)
    (turn : ∀ i a s' R' Mu' X, L[i]? = some a → R.le R' → Reg.keepsOff T Mu Mu' → (∀ a ∈ X, a ∈ T ∨ Mu a = none) → Fra C s₀ R₀ V sc env W s' R' Mu' (updAll (Δs i) xs (tds a)) → J i R' Mu' X →
      wpAny C.M A (execs body env) (fun f s₂ => match f with
        | .next | .cont => ∃ R₂ Mu₂ X₂, R'.le R₂ ∧ Reg.keepsOff X Mu' Mu₂ ∧ (∀ a ∈ X₂, a ∈ X ∨ s'.heap.get? a = none) ∧ Fra C s₀ R₀ V sc env W s₂ R₂ Mu₂ (Δs (i + 1)) ∧ J (i + 1) R₂ Mu₂ X₂
        | .brk => wpAny C.M A (execs rest env) Q E s₂
        | .ret v => Q (.ret v) s₂) NoE s')
    (done : ∀ s' R' Mu' X, R.le R' → Reg.keepsOff T Mu Mu' → (∀ a ∈ X, a ∈ T ∨ Mu a = none) → Fra C s₀ R₀ V sc env W s' R' Mu' (Δs L.length) → J L.length R' Mu' X → wpAny C.M A (execs rest env) Q E s')
    (hs : ∀ x, foldedSetIterable iter env x = pure x := by intro _; rfl) :
    wpAny C.M A (execs (.For target iter body [] p :: rest) env) Q E s := by
  refine wpAny_execs_cons (wpAny_For (noE (hit A env s R rm ⟨F.ro.base, F.ro.on, fun a o e => (F.mu a o (Reg.minus_le a o e)).1⟩ F.eo) fun x s₁ h₁ => noE h₁ fun it s₂ h₂ => ?_) hs)
  exact for_loop (tds := tds) xs T Δs J F rm h₂ hΔ hT0 hxs hT Jm h0 turn done
end
end Mine
end
noncomputable section
open PySem PySem.W PyProof.Rows PySem.SeqAt PySem.MeetsSeq
set_option Elab.async false
set_option autoImplicit false
namespace Mine
section
variable {C : Cx} {s₀ : Shared} {R₀ : Reg} {V : List Addr} {sc : Scope} {env : Env} {W : List Addr} {s s' : Shared} {R R' Mu Mu' : Reg} {Δ Δ' : Vars} {n : Nat} {A : Around} {E : Value → Shared → Prop} {Q : Flow → Shared → Prop}
end
end Mine
end
noncomputable section
open PySem PySem.W PyProof.Rows PySem.SeqAt PySem.MeetsSeq
set_option Elab.async false
set_option autoImplicit false
namespace Mine
noncomputable def allSome : List (Option Dat) → Option (List Dat)
  | [] => some []
  | none :: _ => none
  | some d :: r => (allSome r).map (d :: ·)
noncomputable def litI : Const → Option Dat
  | .int i => some (.int i)
  | _ => none
noncomputable def litM : Expr → Option Dat
  | .Constant c _ _ => litI c
  | _ => none
noncomputable def litN : Option Dat → Option Dat
  | some (.int i) => some (.int (-i))
  | _ => none
noncomputable def litU : UnaryOp → Expr → Option Dat
  | .USub, e => litN (litM e)
  | _, _ => none
noncomputable def litD : Nat → Expr → Option Dat
  | 0, _ => none
  | k + 1, e => match e with
    | .Constant c _ _ => litI c
    | .UnaryOp o x _ => litU o x
    | .Tuple es _ _ => if es.length ≤ 1000 then (allSome (es.map (litD k))).map .tup else none
    | .List es _ => if es.length ≤ 1000 then (allSome (es.map (litD k))).map .lst else none
    | _ => none
theorem litNo {d : Dat} (h : (none : Option Dat) = some d) : False := by cases h
theorem litSo {a b : Dat} (h : some a = some b) : a = b := Option.some.inj h
theorem lit_star {k : Nat} {e : Expr} {d : Dat} (h : litD k e = some d) (es : List Expr) (env : Env) : starEach (e :: es) env = (false, eval e env) :: starEach es env := by
  cases k with
  | zero => exact (litNo h).elim
  | succ k => cases e <;> first | exact (litNo h).elim | rfl
section
variable {C : Cx} {n : Nat} {sc : Scope} {Δ : Vars}
theorem evAll_lit {k : Nat} (ih : ∀ e d, litD k e = some d → Ev C n sc Δ e d) : ∀ (es : List Expr) (ds : List Dat), allSome (es.map (litD k)) = some ds → EvAll C n sc Δ es ds ∧ ds.length = es.length
  | [], ds, h => by cases h; exact ⟨evAll_nil, rfl⟩
  | e :: es, ds, h => by
    rw [List.map_cons] at h
    cases he : litD k e with
    | none => rw [he] at h; cases h
    | some d =>
      rw [he] at h
      simp only [allSome] at h
      obtain ⟨ds', h', rfl⟩ := Option.map_eq_some_iff.mp h
      obtain ⟨r, hl⟩ := evAll_lit ih es ds' h'
      exact ⟨evAll_cons (ih e d he) r (lit_star he es), by simp [hl]⟩
theorem litI_of {c : Const} {d : Dat} (h : litI c = some d) : ∃ i, c = .int i ∧ .int i = d := by
  cases c with
  | int i => exact ⟨i, rfl, litSo h⟩
  | _ => exact (litNo h).elim
theorem litM_of {x : Expr} {d : Dat} (h : litM x = some d) : ∃ i a p, x = .Constant (.int i) a p ∧ .int i = d := by
  cases x with
  | Constant c a p =>
    obtain ⟨i, rfl, h'⟩ := litI_of (c := c) h
    exact ⟨i, a, p, rfl, h'⟩
  | _ => exact (litNo h).elim
theorem ev_litI {c : Const} {a : Nat} {p : Pos} {d : Dat} (h : litI c = some d) : Ev C n sc Δ (.Constant c a p) d := by
  obtain ⟨i, rfl, rfl⟩ := litI_of h
  exact ev_int
theorem ev_litU {o : UnaryOp} {x : Expr} {p : Pos} {d : Dat} (h : litU o x = some d) : Ev C n sc Δ (.UnaryOp o x p) d := by
  cases o with
  | USub =>
    cases hm : litM x with
    | none => exact (litNo (show litN none = some d from hm ▸ h)).elim
    | some d' =>
      obtain ⟨i, _, _, rfl, rfl⟩ := litM_of hm
      have h : Dat.int (-i) = d := litSo h
      rw [← h]
      exact ev_un ev_int op_neg
  | _ => exact (litNo h).elim
theorem ev_litL {k : Nat} {es : List Expr} {d : Dat} {f : List Dat → Dat} (ih : ∀ e d, litD k e = some d → Ev C n sc Δ e d) (h : (if es.length ≤ 1000 then (allSome (es.map (litD k))).map f else none) = some d) :
    ∃ ds, f ds = d ∧ EvAll C n sc Δ es ds ∧ ds.length ≤ 1000 := by
  by_cases hs : es.length ≤ 1000
  · rw [if_pos hs] at h
    obtain ⟨ds, h', e⟩ := Option.map_eq_some_iff.mp h
    obtain ⟨r, hl⟩ := evAll_lit ih _ _ h'
    exact ⟨ds, e, r, hl ▸ hs⟩
  · rw [if_neg hs] at h; exact (litNo h).elim
theorem ev_lit (k : Nat) {e : Expr} {d : Dat} (h : litD k e = some d) : Ev C n sc Δ e d := by
  induction k generalizing e d with
  | zero => exact (litNo h).elim
  | succ k ih =>
    cases e with
    | Constant c _ _ => exact ev_litI h
    | UnaryOp o x _ => exact ev_litU h
    | Tuple es _ _ =>
      obtain ⟨ds, rfl, r, hl⟩ := ev_litL (fun _ _ h => ih h) h
      exact ev_tuple r (by rw [sizeLine_val]; omega)
    | List es _ =>
      obtain ⟨ds, rfl, r, hl⟩ := ev_litL (fun _ _ h => ih h) h
      exact ev_list r (by rw [sizeLine_val]; omega)
    | _ => exact (litNo h).elim
end
end Mine
end
noncomputable section
open PySem PySem.W PyProof.Rows PySem.SeqAt PySem.MeetsSeq
set_option Elab.async false
set_option autoImplicit false
set_option maxRecDepth 100000
namespace Mine
section
variable {C : Cx} {n : Nat} {sc : Scope} {Δ : Vars}
end
end Mine
namespace Mine
section
variable {C : Cx} {n : Nat} {sc : Scope} {Δ : Vars}
end
end Mine
end
noncomputable section
open PySem PySem.W PyProof.Rows PySem.SeqAt PySem.MeetsSeq
set_option Elab.async false
set_option autoImplicit false
namespace Mine
noncomputable def CodeIs (R : Reg) (q : Str) (v : Value) : Prop := ∃ c o vs t, v = .ref c ∧ R c = some o ∧ o.data = .fields vs ∧ vs[1]? = some (.str q t)
theorem CodeIs.mono {R R' : Reg} {q : Str} {v : Value} (h : CodeIs R q v) (l : R.le R') : CodeIs R' q v := let ⟨c, o, vs, t, a, b, d⟩ := h; ⟨c, o, vs, t, a, l _ _ b, d⟩
theorem CodeIs.on {R : Reg} {q : Str} {v : Value} {h : Heap} (x : CodeIs R q v) (o : R.on h) : h.CodeRec v q := let ⟨c, ob, vs, t, a, b, d⟩ := x; ⟨c, ob, vs, t, a, o _ _ b, d⟩
inductive TabL (R : Reg) (q : Str) : List Value → Prop
  | nil : TabL R q []
  | cons {a b : Int} {t u : Tok} {v : Value} {l : List Value} : CodeIs R q v → TabL R q l → TabL R q (.int a t :: .int b u :: v :: l)
noncomputable def TabBase (C : Cx) (c P : Addr) : Prop := ∃ mg, C.h₀.Ns mainGlobals mg ∧ C.h₀.BuiltinsAt mg P ∧ CodeHd C.h₀ c P ∧ mainGlobals ≠ P
theorem builtinsAt_keeps {h h' : Heap} {mg : Str → Option Value} {P : Addr} (x : h.BuiltinsAt mg P) (k : hle h h') : h'.BuiltinsAt mg P :=
  let ⟨bm, o, a, b, c, d, e, r⟩ := x; ⟨bm, o, a, b, c, d, k _ _ e, r⟩
noncomputable def LamAt (R : Reg) (f : Addr) (fd : FuncData) : Prop := (∃ o, R f = some o ∧ o.data = .func fd) ∧ CodeIs R fd.qualname fd.code
theorem LamAt.mono {R R' : Reg} {f : Addr} {fd : FuncData} (h : LamAt R f fd) (l : R.le R') : LamAt R' f fd := ⟨let ⟨o, a, b⟩ := h.1; ⟨o, l _ _ a, b⟩, h.2.mono l⟩
section
variable {C : Cx} {s₀ : Shared} {R₀ : Reg} {V : List Addr} {sc : Scope} {env : Env} {W : List Addr} {s s' : Shared} {R R' Mu Mu' : Reg} {Δ Δ' : Vars} {n : Nat} {A : Around} {E : Value → Shared → Prop} {Q : Flow → Shared → Prop}
end
noncomputable abbrev Stab (P : Shared → Reg → Prop) : Prop := ∀ s s' R R', P s R → Keeps s s' → R.le R' → P s' R'
noncomputable def CallH (C : Cx) (n : Nat) (P : Shared → Reg → Prop) (f : Value) (ds : List Dat) (d : Dat) : Prop :=
  ∀ A s R vs, Room n A → Rok (C.at noM) R s.heap → P s R → RdAll R vs ds → wpAny C.M A (call f vs) (Post s R d) NoE s
theorem CloOk.mono {scope : Scope} {clo : List (Str × Addr)} {h h' : Heap} {R R' : Reg} {Δc : Vars} (x : CloOk scope clo h R Δc) (k : hle h h') (l : R.le R') : CloOk scope clo h' R' Δc :=
  ⟨fun y d e => let ⟨a, c, v, p, q, r⟩ := x.vars y d e; ⟨a, c, v, p, q.keeps k, r.mono l⟩, fun y c e => let ⟨v, p⟩ := x.alive y c e; ⟨v, p.keeps k⟩⟩
section
variable {C : Cx} {s₀ : Shared} {R₀ : Reg} {V : List Addr} {sc : Scope} {env : Env} {W : List Addr} {s s' : Shared} {R R' Mu Mu' : Reg} {Δ Δ' : Vars} {n : Nat} {A : Around} {E : Value → Shared → Prop} {Q : Flow → Shared → Prop}
noncomputable def freeB (sc scope : Scope) (Δ : Vars) : Bool := scope.names.all fun p => p.2 != .free || ((Δ p.1).isSome && (sc.names.lookup p.1 == some .cell || sc.names.lookup p.1 == some .free))
theorem Fra.cellOf {x : Str} {d : Dat} (F : Fra C s₀ R₀ V sc env W s R Mu Δ) (h : Δ x = some d) (hk : sc.names.lookup x = some .cell ∨ sc.names.lookup x = some .free) : ∃ c v, env.cells.lookup x = some c ∧ s.heap.IsCell c (some v) ∧ Rd R v d := by
  obtain ⟨v, hv, hd⟩ := F.eo.vars x d h
  have hk' : ∀ k, env.kindOf x = some k → sc.names.lookup x = some k := fun k e => by rw [← F.eo.hsc]; exact e
  rcases hv with ⟨a, _⟩ | ⟨a, c, p, q⟩ | ⟨a, c, p, q⟩
  · rcases hk with e | e <;> (rw [hk' _ a] at e; cases e)
  · exact ⟨c, v, p, q, hd⟩
  · exact ⟨c, v, p, q, hd⟩
theorem Fra.freeOk {scope : Scope} (F : Fra C s₀ R₀ V sc env W s R Mu Δ) (h : freeB sc scope Δ = true) : ∀ p ∈ scope.names, p.2 = .free → ∃ d, Δ p.1 = some d ∧ (sc.names.lookup p.1 = some .cell ∨ sc.names.lookup p.1 = some .free) := fun p hp e => by
  have q := List.all_eq_true.mp h p hp
  simp only [e, bne_self_eq_false, Bool.false_or, Bool.and_eq_true, Bool.or_eq_true, beq_iff_eq] at q
  obtain ⟨d, hd⟩ := Option.isSome_iff_exists.mp q.1
  exact ⟨d, hd, q.2⟩
theorem Fra.freeCells {scope : Scope} (F : Fra C s₀ R₀ V sc env W s R Mu Δ) (h : freeB sc scope Δ = true) : ∀ p ∈ scope.names, p.2 = .free → (env.cells.lookup p.1).isSome = true := fun p hp e => by
  obtain ⟨d, hd, hk⟩ := F.freeOk h p hp e
  obtain ⟨c, v, hc, _⟩ := F.cellOf hd hk
  rw [hc]; rfl
theorem Fra.clo {scope : Scope} (F : Fra C s₀ R₀ V sc env W s R Mu Δ) (h : freeB sc scope Δ = true) : CloOk scope (clFrom env scope.names []) s.heap R (inner scope Δ) := by
  refine ⟨fun x d e => ?_, fun x c e => ?_⟩
  · unfold inner at e
    split at e
    · rename_i h1
      obtain ⟨d', hd', hk⟩ := F.freeOk h _ (mem_kind h1) rfl
      obtain ⟨c, v, hc, hcell, hd⟩ := F.cellOf e hk
      refine ⟨h1, c, v, ?_, hcell, hd⟩
      obtain ⟨c', hc'⟩ := Option.isSome_iff_exists.mp (clFrom_some (env := env) scope.names [] (.inl (mem_kind h1)))
      rcases clFrom_lookup scope.names [] (F.freeCells h) hc' with q | q
      · rw [hc', ← q.2, hc]
      · (have q_ := oNS q; clear q; exact q_.elim)
    · (have q_ := oNS e; clear e; exact q_.elim)
  · rcases clFrom_lookup scope.names [] (F.freeCells h) e with q | q
    · exact F.ew.calive x c q.2
    · (have q_ := oNS q; clear q; exact q_.elim)
end
structure LamFd (fd : FuncData) (xs : List Str) (body : Expr) : Prop where
  co : fd.scope.isCoroutine = false
  gen : fd.scope.isGenerator = false
  body' : fd.body = .expr body
  glob : fd.globals = mainGlobals
  bui : fd.builtins = builtinsNs
  kind : fd.scope.kind = .function
  uniq : (fd.scope.names.map (·.1)).Nodup
  par : ∀ x ∈ xs, fd.scope.names.lookup x = some .local ∨ fd.scope.names.lookup x = some .cell
  bind : ∀ vs : List Value, vs.length = xs.length → bindArgs fd ⟨vs, []⟩ = pure (xs.zip vs)
section
variable {C : Cx} {n : Nat}
end
end Mine
end
noncomputable section
open PySem PySem.W PyProof.Rows PySem.SeqAt PySem.MeetsSeq
set_option Elab.async false
set_option autoImplicit false
namespace Mine
noncomputable def LamP (f : Addr) (fd : FuncData) (Δc : Vars) (M : Reg) : Shared → Reg → Prop := fun s R => LamAt R f fd ∧ CloOk fd.scope fd.closure s.heap R Δc ∧ M.on s.heap
theorem lamP_stab {f : Addr} {fd : FuncData} {Δc : Vars} {M : Reg} : Stab (LamP f fd Δc M) := fun s s' R R' h k l => ⟨h.1.mono l, h.2.1.mono (Keeps.hle k) l, h.2.2.hle (Keeps.hle k)⟩
section
variable {C : Cx} {s₀ : Shared} {R₀ : Reg} {V : List Addr} {sc : Scope} {env : Env} {W : List Addr} {s s' : Shared} {R R' Mu Mu' : Reg} {Δ Δ' : Vars} {n : Nat} {A : Around} {E : Value → Shared → Prop} {Q : Flow → Shared → Prop}
theorem callh_fnB {P : Shared → Reg → Prop} {a : Addr} {fd : FuncData} {xs : List Str} {body : List Stmt} {ds es : List Dat} {d : Dat} (f : FnC C a fd xs body) (hl : xs.length = es.length)
    (hb : ∀ R s vs, Rok (C.at noM) R s.heap → RdAll R vs ds → Bnd C fd vs xs es R s)
    (h : ∀ A env W s₀ s R R', env.scope = fd.scope → Room n A → P s₀ R → Fra C s₀ R [] fd.scope env W s R' noM (updAll noV xs es) → wpAny C.M A (execs body env) (fun fl s₂ => ∃ v, fl = .ret v ∧ Post s₀ R d v s₂) NoE s) :
    CallH C (n + 1) P (.ref a) ds d := by
  intro A s R vs rm ro hp hr
  refine wpAny_call (fn_callB f rm ro (hb R s vs ro hr) hl fun env W s' R' e rm' F => ?_)
  refine noE (h _ env W s s' R R' e rm' hp F) fun fl s₂ p => ?_
  obtain ⟨v, rfl, p⟩ := p
  exact p
theorem Fra.callH {P : Shared → Reg → Prop} (hst : Stab P) {fe e : Expr} {es : List Expr} {p : Pos} {f : Addr} {o : Obj} {fd : FuncData} {ds : List Dat} {d : Dat} {Qv : Value → Shared → Prop} (F : Fra C s₀ R₀ V sc env W s R Mu Δ) (rm : Room n A) (hf : Ev (C.at Mu) n sc Δ fe (.val (.ref f))) (hfo : R f = some o) (hdat : o.data = .func fd)
    (ha : EvAll (C.at Mu) n sc Δ (e :: es) ds) (hc : CallH C n P (.ref f) ds d) (hP : P s R)
    (h : ∀ v s' R', R.le R' → Keeps s s' → Rd R' v d → Fra C s₀ R₀ V sc env W s' R' Mu Δ → Qv v s')
    (he : starEach (e :: es) env = (false, eval e env) :: starEach es env := by rfl)
    (hev : ∀ {M : Model} {E : Value → Shared → Prop} {Q : Value → Shared → Prop} {s : Shared}, wpAny M A (eval fe env) (fun v s' => wpAny M A (callWith p v [] (backTo p (starEach (e :: es) env)) []) Q E s') E s → wpAny M A (eval (.Call fe (e :: es) [] p) env) Q E s := by intro _ _ _ _ h; exact Call_ h) :
    wpAny C.M A (eval (.Call fe (e :: es) [] p) env) Qv E s := by
  refine hev (F.ev rm hf fun fv s₁ R₁' l₁ k₁ hfv F₁ => ?_)
  (have q_ := Rd.valE hfv; clear hfv; subst q_)
  refine callWith_def hdat (F₁.evAll rm ha fun vs s₂ R₂ l₂ k₂ hvs F₂ => ?_) he
  refine ⟨F₂.ro.on _ _ (l₂ _ _ (l₁ _ _ hfo)), ?_⟩
  refine noE (hc A s₂ R₂ vs rm F₂.ro (hst _ _ _ _ hP (Keeps.tr k₁ k₂) (l₁.trans l₂)) hvs) fun v s₃ p₃ => ?_
  exact h v s₃ _ (l₁.trans (l₂.trans (Reg.ext_le F₂.ro.on))) (Keeps.tr (Keeps.tr k₁ k₂) p₃.1) p₃.2 (F₂.ext p₃.1)
theorem rdAll_refs (R : Reg) : ∀ rows : List Addr, RdAll R (rows.map Value.ref) (rows.map fun c => Dat.val (.ref c))
  | [] => .nil
  | _ :: rows => .cons (.val _) (rdAll_refs R rows)
end
section
variable {C : Cx} {n : Nat} {sc : Scope} {Δ : Vars}
noncomputable abbrev encPr (p : Int × Int) : Dat := .tup [.int p.1, .int p.2]
end
end Mine
end
noncomputable section
open PySem PySem.W PyProof.Rows PySem.SeqAt PySem.MeetsSeq
set_option Elab.async false
set_option autoImplicit false
namespace Mine
theorem Live.notab {Out : List Env} {G : Reg} (x : Live Out G) {P : Addr} {ps : Array Value} (h : G P = some (tabObj ps)) : P ∉ frs Out := fun hp => by
  obtain ⟨e, he, hf⟩ := List.mem_filterMap.mp hp
  obtain ⟨_, L, o, h1, h2, h3, _⟩ := x e he
  rw [hf] at h1; (have q_ := oSS h1; clear h1; subst q_)
  rw [h] at h2; (have q_ := oSS h2; clear h2; subst q_)
  exact h3 _ rfl
section
variable {C : Cx} {s₀ : Shared} {R₀ : Reg} {V : List Addr} {sc : Scope} {env : Env} {W : List Addr} {s s' : Shared} {R R' Mu Mu' : Reg} {Δ Δ' : Vars} {n : Nat} {A : Around} {E : Value → Shared → Prop} {Q : Flow → Shared → Prop}
theorem fn_callX {a : Addr} {fd : FuncData} {xs : List Str} {body : List Stmt} {vs : List Value} {ds : List Dat} {Rs : Result → Shared → Prop} (f : FnC C a fd xs body) (rm : Room (n + 1) A) (ro : Rok (C.at noM) R s.heap) (hb : Bnd C fd vs xs ds R s) (hl : xs.length = ds.length)
    (h : ∀ env W s' R', env.scope = fd.scope → env.frame = some env.locals → env.code = fd.code → env.qual = fd.qualname ++ ".<locals>." → Room n (A.deeper env) → Fra C s R [] fd.scope env W s' R' noM (updAll noV xs ds) → wpAny C.M (A.deeper env) (execs body env) (fun fl s₂ => Rs (.ok (.ret (match fl with | .ret v => v | _ => .none))) s₂)
      (fun e s' => wpAny C.M (A.deeper env) (leaving env e) (fun _ s'' => Rs (.error e) s'') (fun e' s'' => Rs (.error e') s'') s') s') :
    codeAny C.M A (.call (.ref a) ⟨vs, []⟩) Rs s := by
  obtain ⟨o, ho, hd⟩ := f.at'
  have k0 := ro.hle0
  refine codeAny_call_function rm.lt (k0 _ _ ho) hd f.co f.gen f.body' (f.code.keeps k0) ?_
  refine noE (hb _) fun b s₁ p => ?_
  obtain ⟨k, us, rfl, hr⟩ := p
  rw [f.glob, f.clo, f.bui]
  have r₁ := ro.ext (Keeps.hle k)
  refine fn_frame r₁ f.kind f.uniq CloOk.none hr hl f.par fun env W s' e1 e2 e3 e4 e5 F => ⟨?_, ?_⟩
  · exact f.nolimit.keeps F.ro.hle0
  · exact codeAny_func (h env W s' _ e1 e2 e3 e5 rm.deeper (F.back k ro.on))
end
theorem call_sorted {C : Cx} {n : Nat} {ns ms : List Int} (hp : ns.Perm ms) (hs : ms.Pairwise (· ≤ ·)) (hz : ns.length < 64) : CallOp C n (.builtin "sorted") [.lst (ns.map Dat.int)] (.lst (ms.map Dat.int)) := by
  intro A s R vs rm ro hr
  have q_ := RdAll.consE hr
  clear hr
  obtain ⟨_, _, rfl, h, r⟩ := q_
  next =>
    (have q_ := RdAll.nilE r; clear r; subst q_)
    obtain ⟨a, rfl⟩ := h.lst_ref
    obtain ⟨vs, t, r⟩ := h.isList ro.on
    have hl := r.length
    rw [List.length_map] at hl
    refine sorted_ints t (Rd.ints r) (by omega) fun out ns' hi hp' hs' => ?_
    have e : ns' = ms := (hp'.trans hp).eq_of_pairwise (fun a b _ _ h1 h2 => Int.le_antisymm h1 h2) hs' hs
    subst e
    obtain ⟨e, he⟩ := sortedAll_at s.heap vs out
    have kk : Keeps s { s with heap := sortedAll s.heap vs out } := ⟨_, s.toks, rfl, fun b o hb => sortedAll_old hb⟩
    have fr : s.heap.get? (s.heap.objs.size + 1) = none := by
      cases q : s.heap.get? (s.heap.objs.size + 1) with
      | none => rfl
      | some o => exact absurd (Heap.lt_size q) (Nat.not_lt.mpr (Nat.le_succ _))
    refine ⟨kk, .lst (o := seqObj "list" out e) (vs := out.toList) (n := e) (Reg.new_ext fr he) ⟨rfl, rfl⟩ ?_ (Rd.of_ints hi)⟩
    simp [seqObj]
end Mine
end
noncomputable section
open PySem PySem.W PyProof.Rows PySem.SeqAt PySem.MeetsSeq
set_option Elab.async false
set_option autoImplicit false
namespace Mine
theorem rangeI0 (n : Nat) : rangeI 0 (n : Int) = (List.range n).map fun (k : Nat) => (k : Int) := by simp [rangeI]
theorem rangeN (n : Nat) : (rangeI 0 (n : Int)).map Dat.int = encN (List.range n) := by rw [rangeI0, List.map_map]; rfl
theorem encN_ints (l : List Nat) : encN l = (l.map fun (k : Nat) => (k : Int)).map Dat.int := by rw [List.map_map]; rfl
theorem contains_cast (l : List Nat) (k : Nat) : (l.map fun (k : Nat) => (k : Int)).contains (k : Int) = l.contains k := by
  induction l with
  | nil => rfl
  | cons a l ih =>
    rw [List.map_cons, List.contains_cons, List.contains_cons, ih]
    congr 1
    by_cases h : k = a
    · simp [h]
    · have : ¬ (k : Int) = (a : Int) := fun e => h (Int.ofNat.inj e)
      rw [beq_eq_false_iff_ne.mpr h, beq_eq_false_iff_ne.mpr this]
theorem EvIt.cast {C : Cx} {n : Nat} {sc : Scope} {Δ : Vars} {e : Expr} {ds ds' : List Dat} (h : EvIt C n sc Δ e ds) (hd : ds = ds') : EvIt C n sc Δ e ds' := hd ▸ h
theorem Op2.cast {C : Cx} {n : Nat} {t : Value → Value → Sem Value} {d₁ d₂ d d' : Dat} (h : Op2 C n t d₁ d₂ d) (e : d = d') : Op2 C n t d₁ d₂ d' := e ▸ h
section
variable {C : Cx} {n : Nat}
theorem op_in_N {x : Nat} {l : List Nat} : Op2 C n (compareOp .In) (.int (x : Int)) (.lst (encN l)) (.bool (l.contains x)) := by
  rw [encN_ints, ← contains_cast]; exact op_in_ints
theorem op_notin_N {x : Nat} {l : List Nat} : Op2 C n (compareOp .NotIn) (.int (x : Int)) (.lst (encN l)) (.bool (!l.contains x)) := by
  rw [encN_ints, ← contains_cast]; exact op_notin_ints
theorem call_sortedN {ns ms : List Nat} (hp : ns.Perm ms) (hs : ms.Pairwise (· ≤ ·)) (hz : ns.length < 64) : CallOp C n (.builtin "sorted") [.lst (encN ns)] (.lst (encN ms)) := by
  rw [encN_ints, encN_ints]
  exact call_sorted (hp.map _) (List.pairwise_map.mpr (hs.imp fun h => by omega)) (by simpa using hz)
end
section
variable {C : Cx} {s₀ : Shared} {R₀ : Reg} {V : List Addr} {sc : Scope} {env : Env} {W : List Addr} {s s' : Shared} {R R' Mu Mu' : Reg} {Δ Δ' : Vars} {n : Nat} {A : Around} {E : Value → Shared → Prop} {Q : Flow → Shared → Prop}
theorem Fra.reread2 {x : Str} {d d' : Dat} (F : Fra C s₀ R₀ V sc env W s R Mu Δ) (hx : Δ x = some d) (hd : ∀ v, Rd R v d → Rd R v d') : Fra C s₀ R₀ V sc env W s R Mu (upd Δ x d') := by
  have hv : ∀ y dy, upd Δ x d' y = some dy → ∃ v, Var env s.heap y v ∧ Rd R v dy := fun y dy e => by
    simp only [upd] at e
    split at e
    · rename_i h; subst h; (have q_ := oSS e; clear e; subst q_)
      obtain ⟨v', hv, hr⟩ := F.ew.ok.vars y _ hx
      exact ⟨_, hv, hd _ hr⟩
    · exact F.ew.ok.vars y dy e
  exact { F with ew := { F.ew with ok := { F.ew.ok with vars := hv } } }
theorem Fra.freezeAll : ∀ (rows : List Addr) {R Mu : Reg}, Fra C s₀ R₀ V sc env W s R Mu Δ → (∀ c ∈ rows, (∃ o, Mu c = some o) ∧ c ∉ V) → rows.Nodup →
    ∃ R' Mu', R.le R' ∧ (∀ c ∈ rows, R' c = Mu c) ∧ (∀ a, a ∉ rows → Mu' a = Mu a) ∧ Fra C s₀ R₀ V sc env W s R' Mu' Δ
  | [], R, Mu, F, _, _ => ⟨R, Mu, .refl R, (fun _ h => absurd h List.not_mem_nil), (fun _ _ => rfl), F⟩
  | c :: rows, R, Mu, F, h, hn => by
    obtain ⟨⟨o, ho⟩, hv⟩ := h c List.mem_cons_self
    have hnc : c ∉ rows := (List.nodup_cons.mp hn).1
    have del : ∀ a, a ≠ c → (Mu.del c) a = Mu a := fun a h => by simp only [Reg.del, h, if_false]
    obtain ⟨R', Mu', h1, h2, h3, F'⟩ := Fra.freezeAll rows (F.freeze ho hv) (fun b hb => by
      obtain ⟨⟨ob, eb⟩, hvb⟩ := h b (List.mem_cons_of_mem _ hb)
      exact ⟨⟨ob, by rw [del b (fun e => hnc (e ▸ hb))]; exact eb⟩, hvb⟩) (List.nodup_cons.mp hn).2
    refine ⟨R', Mu', (F.freeze_le ho).trans h1, fun b hb => ?_, fun a ha => ?_, F'⟩
    · rcases List.mem_cons.mp hb with rfl | hb
      · rw [ho]; exact h1 _ _ (Reg.set_self _ _ _)
      · rw [h2 b hb, del b (fun e => hnc (e ▸ hb))]
    · have ha' : a ≠ c ∧ a ∉ rows := by simpa using ha
      rw [h3 a ha'.2, del a ha'.1]
theorem rd_refs {R : Reg} {v : Value} {rows : List Addr} {ds : List Dat} (h : Rd R v (.lst (rows.map fun c => .val (.ref c)))) (hd : RdAll R (rows.map Value.ref) ds) : Rd R v (.lst ds) := by
  cases h with
  | lst e c hd' r =>
    refine .lst e c hd' ?_
    have : ∀ (vs : List Value) (rows : List Addr), RdAll R vs (rows.map fun c => .val (.ref c)) → vs = rows.map Value.ref := fun vs rows => by
      induction rows generalizing vs with
      | nil => intro h; (have q_ := RdAll.nilE h; clear h; subst q_); rfl
      | cons c rows ih =>
        intro h
        cases h with
        | cons h r => (have q_ := Rd.valE h; clear h; subst q_); rw [ih _ r]; rfl
    rw [this _ _ r]; exact hd
theorem rdAll_of {R : Reg} {α : Type} : ∀ (vs : List Value) (L : List α) (g : α → Dat), vs.length = L.length → (∀ (i : Nat) (v : Value) (a : α), vs[i]? = some v → L[i]? = some a → Rd R v (g a)) → RdAll R vs (L.map g)
  | [], [], _, _, _ => .nil
  | v :: vs, a :: L, g, hl, h => .cons (h 0 v a rfl rfl) (rdAll_of vs L g (by simpa using hl) fun i v a h1 h2 => h (i + 1) v a h1 h2)
end
theorem ev_lenN {C : Cx} {n : Nat} {sc : Scope} {Δ : Vars} {np p q : Pos} {z : Str} {l : List Nat} (g : GlobIs C (Str.ofString "len") (.builtin "len")) (hz : l.length ≤ sizeLine) (hk : sc.names.lookup (Str.ofString "len") = some .globalImplicit) (h : Δ z = some (.lst (encN l))) (hn : ((z == ("__debug__" : Str)) || (z == ("__classdict__" : Str))) = false := by decide +kernel) :
    Ev C n sc Δ (.Call (.Name (Str.ofString "len") np) [.Name z q] [] p) (.int (l.length : Int)) :=
  ev_callb (ev_glob g hk) (evAll_cons (ev_name h hn) evAll_nil) (call_lenm (l := l) (g := fun (k : Nat) => Dat.int (k : Int)) hz)
end Mine
end
noncomputable section
open PySem PySem.W PyProof.Rows PySem.SeqAt PySem.MeetsSeq
set_option Elab.async false
set_option autoImplicit false
namespace Mine
section
variable {C : Cx} {n : Nat} {sc : Scope} {Δ : Vars}
end
section
variable {C : Cx} {s₀ : Shared} {R₀ : Reg} {V : List Addr} {sc : Scope} {env : Env} {W : List Addr} {s s' : Shared} {R R' Mu Mu' : Reg} {Δ Δ' : Vars} {n : Nat} {A : Around} {E : Value → Shared → Prop} {Q : Flow → Shared → Prop}
end
end Mine
end
noncomputable section
open PySem PySem.W PyProof.Rows PySem.SeqAt PySem.MeetsSeq
set_option Elab.async false
set_option autoImplicit false
namespace Mine
theorem meets_enum_tup (l : Addr) (items : Array Value) (n : Nat) (dct : Option Addr) (sl : Array (Option Value)) :
    Meets (Builtin.«enumerate.__new__» ⟨[.type "enumerate", .ref l], []⟩) (fun _ R s => s.heap.get? l = some { cls := .type "tuple", dict := dct, data := .seq items n, slots := sl } ∧
      R (.ok (.ret (.ref (s.heap.push { cls := .type "tuple_iterator", data := .fields #[.ref l, .int 0 0] }).objs.size)))
        { s with heap := (s.heap.push { cls := .type "tuple_iterator", data := .fields #[.ref l, .int 0 0] }).push { cls := .type "enumerate", data := .fields #[.none, .bool false, .ref s.heap.objs.size, rawInt 0, .none, .none] } }) :=
  .of_wp fun prog w A R s h => by
    obtain ⟨hp, g, d, tk, os⟩ := s; obtain ⟨hl, h⟩ := h
    have hsub := PySem.sub_enumerate
    have hL : Heap.IsTuple (Shared.heap ⟨hp, g, d, tk, os⟩) l items := ⟨_, hl, rfl, n, rfl⟩
    wp_walk using AutoSeq1.wpAny_loadPart' hl
    refine wpAny_stack_any fun st => wpAny_pure ?_
    split
    · rename_i c _ _ _ _ _
      cases (c == Value.type "enumerate")
      · wp_walk using AutoSeq1.wpAny_loadPart' hl, wpAny_pyIter_tuple hL
        exact ⟨_, rfl, h⟩
      · wp_walk using AutoSeq1.wpAny_loadPart' hl, wpAny_pyIter_tuple hL
        exact ⟨_, rfl, h⟩
    · wp_walk using AutoSeq1.wpAny_loadPart' hl, wpAny_pyIter_tuple hL
      exact ⟨_, rfl, h⟩
section
variable {prog : Program} {w : World} {A : Around} {E : Value → Shared → Prop} {s : Shared}
theorem call_enum_tup {l : Addr} {items : Array Value} {Q : Value → Shared → Prop} (hL : s.heap.IsTuple l items)
    (h : ∀ h', IsEnum h' (s.heap.objs.size + 1) s.heap.objs.size 0 .none → h'.IsTupleIter s.heap.objs.size l 0 → h'.objs.size = s.heap.objs.size + 2 →
      (∀ b o, s.heap.get? b = some o → h'.get? b = some o) → Q (.ref (s.heap.objs.size + 1)) { s with heap := h' }) :
    wpAny (model prog w) A (call (.type "enumerate") [.ref l]) Q E s := by
  obtain ⟨⟨c, dct, dt, sl⟩, hl, hc, n, hd⟩ := hL
  replace hc : c = .type "tuple" := hc
  replace hd : dt = .seq items n := hd
  subst hc hd
  refine callType_new F.called_enumerate (by decide) (F.typeCall_enumerate_1 _) (F.newCall_enumerate_1 _) (fun obj => F.args_object_init_2 obj _) F.entry_enumerate_new
    (meets_enum_tup l items n dct sl) ⟨hl, ?_⟩
  have hz : (s.heap.push { cls := .type "tuple_iterator", data := .fields #[.ref l, .int 0 0] }).objs.size = s.heap.objs.size + 1 := Heap.size_push ..
  show _ ∧ _
  rw [hz]
  have he : IsEnum ((s.heap.push { cls := .type "tuple_iterator", data := .fields #[.ref l, .int 0 0] }).push
      { cls := .type "enumerate", data := .fields #[.none, .bool false, .ref s.heap.objs.size, rawInt 0, .none, .none] }) (s.heap.objs.size + 1) s.heap.objs.size 0 .none := by
    have := Heap.get?_push_size (s.heap.push { cls := .type "tuple_iterator", data := .fields #[.ref l, .int 0 0] })
      (o := { cls := .type "enumerate", data := .fields #[.none, .bool false, .ref s.heap.objs.size, rawInt 0, .none, .none] }) rfl
    rw [hz] at this; exact this
  refine ⟨⟨_, he, rfl⟩, h _ he ⟨_, Heap.get?_push_of_some _ (Heap.get?_push_size _ rfl), rfl, rfl⟩ (by rw [Heap.size_push, hz]) fun b o x => Heap.get?_push_of_some _ (Heap.get?_push_of_some _ x)⟩
theorem nextOf_tup_item {it l : Addr} {i : Nat} {items : Array Value} {x : Value} {Q : Value → Shared → Prop} (hit : s.heap.IsTupleIter it l i) (hl : s.heap.IsTuple l items) (hx : items[i]? = some x)
    (hQ : ∀ h', h'.IsTupleIter it l (i + 1) → Heap.SameBut it s.heap h' → Q x { s with heap := h' }) : wpAny (model prog w) A (Builtin.SmallTypes.nextOf (.ref it)) Q E s := by
  obtain ⟨o, ho, hc, hd⟩ := id hit
  obtain ⟨ol, hol, _, nl, hdl⟩ := hl
  unfold Builtin.SmallTypes.nextOf
  refine wpAny_bind (wpAny_callSpecial?_slot (name := Str.ofString "__next__") hit.typeIs F.slot_tuple_iterator_next
    (wpAny_call_entry F.slot_tuple_iterator_next hit.typeIs F.entry_tuple_iterator_next ?_ (F.args_tuple_iterator_next_1 _)))
  show wpAny _ _ (field (.ref it) 0 >>= _) _ _ s
  refine wpAny_bind (wpAny_field ho hd (x := .ref l) rfl ?_)
  show wpAny _ _ (if (Value.ref l == Value.none) = true then _ else _) _ _ s
  rw [if_neg (show ¬ ((Value.ref l == Value.none) = true) from Bool.false_ne_true)]
  show wpAny _ _ (field (.ref it) 1 >>= _) _ _ s
  refine wpAny_bind (wpAny_field ho hd (x := .int i 0) rfl ?_)
  show wpAny _ _ (seqItems? (.ref l) >>= _) _ _ s
  refine wpAny_bind (wpAny_seqItems hol hdl ?_)
  simp only [Int.toNat_natCast, hx]
  refine wpAny_bind (wpAny_setField ho hd (by simp) (wpAny_pure ⟨x, rfl, wpAny_pure (hQ _ ?_ (Heap.SameBut.update ..))⟩))
  exact ⟨_, Heap.get?_update_self _ ho (Obj.isFreed_of_fields (Obj.data_mapFields hd _)), (Obj.cls_mapFields ..).trans hc, by
    rw [Obj.data_mapFields hd]; simp [rawInt]⟩
theorem nextOf_tup_end {it l : Addr} {i : Nat} {items : Array Value} {Q : Value → Shared → Prop} (hh : A.handled = none) (hit : s.heap.IsTupleIter it l i) (hl : s.heap.IsTuple l items) (hx : items[i]? = none)
    (hE : ∀ h' e, Heap.ExtBut it s.heap h' → (∃ o, h'.get? e = some o ∧ o.cls = .type "StopIteration") → E (.ref e) { s with heap := h' }) :
    wpAny (model prog w) A (Builtin.SmallTypes.nextOf (.ref it)) Q E s := by
  obtain ⟨o, ho, hc, hd⟩ := id hit
  obtain ⟨ol, hol, _, nl, hdl⟩ := hl
  unfold Builtin.SmallTypes.nextOf
  refine wpAny_bind (wpAny_callSpecial?_slot (name := Str.ofString "__next__") hit.typeIs F.slot_tuple_iterator_next
    (wpAny_call_entry F.slot_tuple_iterator_next hit.typeIs F.entry_tuple_iterator_next ?_ (F.args_tuple_iterator_next_1 _)))
  show wpAny _ _ (field (.ref it) 0 >>= _) _ _ s
  refine wpAny_bind (wpAny_field ho hd (x := .ref l) rfl ?_)
  show wpAny _ _ (if (Value.ref l == Value.none) = true then _ else _) _ _ s
  rw [if_neg (show ¬ ((Value.ref l == Value.none) = true) from Bool.false_ne_true)]
  show wpAny _ _ (field (.ref it) 1 >>= _) _ _ s
  refine wpAny_bind (wpAny_field ho hd (x := .int i 0) rfl ?_)
  show wpAny _ _ (seqItems? (.ref l) >>= _) _ _ s
  refine wpAny_bind (wpAny_seqItems hol hdl ?_)
  simp only [Int.toNat_natCast, hx]
  refine wpAny_bind (wpAny_rule (wpAny_bind (wpAny_setField ho hd (by simp) ?_)))
  show wpAny _ _ (newExc (.type "StopIteration") [] >>= _) _ _ _
  refine wpAny_bind ?_
  simp only [newExc, newTuple]
  refine wpAny_bind (wpAny_newObj_type ?_ (by size_fits))
  refine wpAny_bind (m := firstArgMember _ _) (wpAny_of_eq (a := Value.none) (by first | rfl | (simp only [firstArgMember]; rfl)) ?_)
  refine wpAny_newObj_type ?_ (by size_fits)
  simp only [raiseNew]
  refine wpAny_bind (wpAny_handled ?_)
  first | rw [show A.in1.handled = none from hh] | rw [hh]
  refine wpAny_bind (wpAny_pure (wpAny_throw ?_))
  exact hE _ _ (((Heap.SameBut.update ..).extBut.push _).push _) ⟨_, Heap.get?_push_size _ rfl, rfl⟩
end
theorem draws_tup {prog : Program} {w : World} {A : Around} (hh : A.handled = none) (it l : Addr) (hne : l ≠ it) (items : Array Value) :
    Draws prog w A it [it, l] items.size (fun i v => items[i]? = some v) (fun i h => h.IsTupleIter it l i ∧ h.IsTuple l items) where
  live := fun _ _ st => let ⟨o, ho, _⟩ := st.1; ⟨o, ho⟩
  frame := fun _ _ _ st hk => ⟨st.1.at fun o e => hk it (by simp) o e, st.2.at fun o e => hk l (by simp) o e⟩
  item := fun i s Q E hi st hQ => by
    refine nextOf_tup_item st.1 st.2 (x := items[i]) (by simp [hi]) fun h' hit' hs' => ?_
    exact hQ _ h' s.toks (by simp [hi]) ⟨hit', st.2.extBut hs'.extBut hne⟩ hs'
  done := fun s Q E st hE => nextOf_tup_end hh st.1 st.2 (by simp) hE
end Mine
end
noncomputable section
open PySem PySem.W PyProof.Rows PySem.SeqAt PySem.MeetsSeq
set_option Elab.async false
set_option autoImplicit false
namespace Mine
noncomputable def TupT (t : Expr) : Prop := ∃ es k p, t = .Tuple es k p
noncomputable def enumD (ds : List Dat) : List Dat := ds.zipIdx.map fun p => .tup [.int (p.2 : Int), p.1]
theorem enumD_get {ds : List Dat} {i : Nat} {d : Dat} (h : (enumD ds)[i]? = some d) : ∃ d', ds[i]? = some d' ∧ d = .tup [.int (i : Int), d'] := by
  unfold enumD at h
  rw [List.getElem?_map, List.getElem?_zipIdx] at h
  obtain ⟨⟨a, b⟩, h1, rfl⟩ := Option.map_eq_some_iff.mp h
  obtain ⟨a', h2, h3⟩ := Option.map_eq_some_iff.mp h1
  cases h3
  exact ⟨a, h2, by simp⟩
theorem zip_apart {N a b : Nat} (ha : a < N) (hb : b < N) : ZipApart (N + 4) (N + 2) (N + 3) N (N + 1) a b := by
  constructor <;> (refine fun (q : @Eq Nat _ _) => ?_; omega)
section
variable {C : Cx} {n : Nat} {sc : Scope} {Δ : Vars}
theorem iter_enum {e I l : Addr} {vs : List Value} {ds : List Dat} {R₀ : Reg} {o : Obj} {m : Nat} (hl : R₀ l = some o) (hc : o.cls = .type "tuple") (hd : o.data = .seq vs.toArray m) (hr : RdAll R₀ vs ds) (hI : R₀ I = none) (he : R₀ e = none) (hne : e ≠ I) :
    IterM C (.ref e) [e, I] (enumD ds) R₀ (fun i h => (∃ old, IsEnum h e I i old) ∧ h.IsTupleIter I l i ∧ h.IsTuple l vs.toArray) (fun i v h => ∃ T x, v = .ref T ∧ IsEnumOut h e I i x T ∧ h.IsTupleIter I l i ∧ h.IsTuple l vs.toArray) TupT where
  frame := fun i h h' st hk ho _ => ⟨let ⟨old, a⟩ := st.1; ⟨old, hk e (by simp) _ a⟩, let ⟨o, a, r⟩ := st.2.1; ⟨o, hk I (by simp) o a, r⟩, ⟨_, ho _ _ hl, hc, _, hd⟩⟩
  alive := fun i h st b hb => by
    rcases List.mem_cons.mp hb with rfl | hb
    · obtain ⟨old, x⟩ := st.1; exact ⟨_, x⟩
    · obtain ⟨o, x, _⟩ := st.2.1
      rw [List.mem_singleton.mp hb]; exact ⟨o, x⟩
  next := fun A i s R d hh hi st hle ho hW => by
    obtain ⟨d', hd', rfl⟩ := enumD_get hi
    obtain ⟨v, hv, hdv⟩ := hr.get hd'
    have hlI : l ≠ I := fun h => by rw [h, hI] at hl; (have q_ := oNS hl; clear hl; exact q_.elim)
    have hle' : e ≠ l := fun h => by rw [← h, he] at hl; (have q_ := oNS hl; clear hl; exact q_.elim)
    obtain ⟨⟨old, hen⟩, hit, htu⟩ := st
    have hlen := (List.getElem?_eq_some_iff.mp hv).1
    refine wpAny_pyNext_enum_itemD (draws_tup (A := A.in1) hh I l hlI vs.toArray) hen ⟨hit, htu⟩ (by simpa using hlen) hne (by simp [hne, hle']) fun x h' tk hx hout hst ht hsz hk => ?_
    have hx' : x = v := by simp [hv] at hx; exact hx.symm
    subst hx'
    refine ⟨.ref s.heap.objs.size, rfl, ⟨_, x, rfl, by simpa using hout, hst.1, hst.2⟩, ⟨h', tk + 1, rfl, fun b ob hb q => hk b ob (fun h => hb (by simp [h])) (fun h => hb (by simp [h])) q⟩, ?_⟩
    exact .tup (vs := [.int (i : Int) tk, x]) (Reg.new_ext fresh_none ht) rfl rfl (.cons (.int _ _) (.cons (hdv.mono (hle.trans (Reg.ext_le ho))) .nil))
  done := fun A s hh st => by
    have hlI : l ≠ I := fun h => by rw [h, hI] at hl; (have q_ := oNS hl; clear hl; exact q_.elim)
    obtain ⟨⟨old, hen⟩, hit, htu⟩ := st
    have hlen : (enumD ds).length = vs.toArray.size := by simp [enumD, hr.length]
    refine wpAny_pyNext_enum_endD (draws_tup (A := A.in1) hh I l hlI vs.toArray) hen ⟨hlen ▸ hit, htu⟩ fun h' hx => ⟨rfl, h', s.toks, rfl, fun b ob hb q => hx b ob (fun h => hb (by simp [h])) q⟩
  self := fun A i s Q E st hQ => by obtain ⟨old, hen⟩ := st.1; exact wpAny_pyIter_enum hen hQ
  letgo := fun A i s t v Q E ht st hQ => by
    obtain ⟨es, k, p, rfl⟩ := ht
    obtain ⟨T, x, rfl, hout, hit, htu⟩ := st
    have hle' : l ≠ e := fun h => by rw [h, he] at hl; (have q_ := oNS hl; clear hl; exact q_.elim)
    refine wpAny_letOwnedTupleGo_enum hout fun h' hen hs => hQ { s with heap := h' } ⟨⟨x, hen⟩, hit.extBut hs.extBut (Ne.symm hne), htu.extBut hs.extBut hle'⟩ ⟨h', s.toks, rfl, fun b ob hb q => hs.extBut b ob (fun h => hb (by simp [h])) q⟩
theorem evIt_enum {x : Str} {np p : Pos} {e : Expr} {ds : List Dat} (hf : Ev C n sc Δ (.Name x np) (.val (.type "enumerate"))) (he : Ev C n sc Δ e (.tup ds))
    (hs : ∀ env, starEach [e] env = [(false, eval e env)] := by intro _; rfl) : EvItT C n sc Δ TupT (.Call (.Name x np) [e] [] p) (enumD ds) := by
  intro A env s R rm ro eo
  refine Call_ (noE (hf A env s R rm ro eo) fun f s₁ p₁ => ?_)
  have hf' := p₁.2
  (have q_ := Rd.valE hf'; clear hf'; subst q_)
  have k₁ := Keeps.hle p₁.1
  refine callWith_type1 (wpAny_items_cons (noE (he A env s₁ _ rm (ro.ext k₁) (eo.ext ro k₁)) fun v s₂ p₂ => wpAny_items_nil ?_) (hs env)) (hs env) rfl
  have k₂ := Keeps.hle p₂.1
  have ks := Keeps.tr p₁.1 p₂.1
  have ro₂ := ro.ext (Keeps.hle ks)
  have hv := p₂.2.mono (Reg.ext_ext k₁ k₂)
  obtain ⟨a, rfl⟩ := hv.tup_ref
  cases hv with
  | tup e' c hd r =>
    have htu : s₂.heap.IsTuple a _ := ⟨_, ro₂.on _ _ e', c, _, hd⟩
    refine call_enum_tup htu fun h' hen hit hsz hk => ?_
    have kn : Keeps s₂ { s₂ with heap := h' } := ⟨h', s₂.toks, rfl, hk⟩
    have new0 : s₂.heap.get? s₂.heap.objs.size = none := fresh_none
    have new1 : s₂.heap.get? (s₂.heap.objs.size + 1) = none := Heap.get?_none_of_le (Nat.le_succ _)
    have none_s : ∀ b, s₂.heap.get? b = none → s.heap.get? b = none := fun b h => none_of_fresh ks h
    refine wpAny_pyIter_enum hen ⟨Keeps.tr ks kn, [s₂.heap.objs.size + 1, s₂.heap.objs.size], _, _, iter_enum (l := a) (Reg.minus_some (fun h => ?_) (Reg.ext_step (Keeps.hle ks) hk _ _ e')) c hd (r.mono fun b ob q => Reg.minus_some (fun h => ?_) (Reg.ext_step (Keeps.hle ks) hk _ _ q)) (Reg.minus_off (by simp)) (Reg.minus_off (by simp)) (Nat.succ_ne_self _), ⟨⟨_, hen⟩, hit, htu.at fun o q => hk _ _ q⟩, fun b hb => ?_⟩
    · have := ro₂.on _ _ e'
      rcases List.mem_cons.mp h with h | h
      · rw [h, new1] at this; (have q_ := oNS this; clear this; exact q_.elim)
      · rw [List.mem_singleton.mp h, new0] at this; (have q_ := oNS this; clear this; exact q_.elim)
    · have := ro₂.on _ _ q
      rcases List.mem_cons.mp h with h | h
      · rw [h, new1] at this; (have q_ := oNS this; clear this; exact q_.elim)
      · rw [List.mem_singleton.mp h, new0] at this; (have q_ := oNS this; clear this; exact q_.elim)
    · rcases List.mem_cons.mp hb with rfl | hb
      · exact none_s _ new1
      · rw [List.mem_singleton.mp hb]; exact none_s _ new0
noncomputable def zipD (ds es : List Dat) : List Dat := (ds.zip es).map fun p => .tup [p.1, p.2]
theorem zipD_get {ds es : List Dat} {i : Nat} {d : Dat} (h : (zipD ds es)[i]? = some d) : ∃ a b, ds[i]? = some a ∧ es[i]? = some b ∧ d = .tup [a, b] := by
  unfold zipD at h
  rw [List.getElem?_map] at h
  obtain ⟨⟨a, b⟩, h1, rfl⟩ := Option.map_eq_some_iff.mp h
  obtain ⟨h2, h3⟩ := List.getElem?_zip_eq_some.mp h1
  exact ⟨a, b, h2, h3, rfl⟩
theorem iter_zip {z TI TO i1 i2 l1 l2 : Addr} {vs ws : List Value} {ds es : List Dat} {R₀ : Reg} {o1 o2 : Obj} {m1 m2 : Nat} (D : ZipApart z TI TO i1 i2 l1 l2) (hl1 : R₀ l1 = some o1) (hc1 : o1.cls = .type "list") (hd1 : o1.data = .seq vs.toArray m1) (hr1 : RdAll R₀ vs ds)
    (hl2 : R₀ l2 = some o2) (hc2 : o2.cls = .type "list") (hd2 : o2.data = .seq ws.toArray m2) (hr2 : RdAll R₀ ws es) (hlen : ds.length = es.length) :
    IterM C (.ref z) [z, TI, TO, i1, i2] (zipD ds es) R₀ (fun i h => IsZip h z TI TO .none ∧ IsPair h TI (.ref i1) (.ref i2) ∧ (∃ a b, IsPair h TO a b) ∧ h.IsListIter i1 l1 i ∧ h.IsListIter i2 l2 i ∧ h.IsList l1 vs.toArray ∧ h.IsList l2 ws.toArray)
      (fun i v h => ∃ T, v = .ref T ∧ IsZip h z TI TO (rawInt T) ∧ IsPair h TI (.ref i1) (.ref i2) ∧ (∃ a b, IsPair h TO a b) ∧ h.IsListIter i1 l1 i ∧ h.IsListIter i2 l2 i ∧ h.IsList l1 vs.toArray ∧ h.IsList l2 ws.toArray) TupT where
  frame := fun i h h' st hk ho _ => by
    obtain ⟨hz, hTI, ⟨a, b, hTO⟩, h1, h2, -, -⟩ := st
    exact ⟨hk z (by simp) _ hz, hk TI (by simp) _ hTI, ⟨a, b, hk TO (by simp) _ hTO⟩, h1.at fun o q => hk i1 (by simp) o q, h2.at fun o q => hk i2 (by simp) o q, ⟨_, ho _ _ hl1, hc1, _, hd1⟩, ⟨_, ho _ _ hl2, hc2, _, hd2⟩⟩
  alive := fun i h st c hc => by
    obtain ⟨hz, hTI, ⟨a, b, hTO⟩, ⟨o1, h1, _⟩, ⟨o2, h2, _⟩, -, -⟩ := st
    simp only [List.mem_cons, List.not_mem_nil, or_false] at hc
    rcases hc with rfl | rfl | rfl | rfl | rfl
    · exact ⟨_, hz⟩
    · exact ⟨_, hTI⟩
    · exact ⟨_, hTO⟩
    · exact ⟨_, h1⟩
    · exact ⟨_, h2⟩
  next := fun A i s R d hh hi st hle ho hW => by
    obtain ⟨d1, d2, hd1', hd2', rfl⟩ := zipD_get hi
    obtain ⟨v, hv, hdv⟩ := hr1.get hd1'
    obtain ⟨w, hw, hdw⟩ := hr2.get hd2'
    obtain ⟨hz, hTI, ⟨a, b, hTO⟩, h1, h2, g1, g2⟩ := st
    refine wpAny_pyNext_zip_item D hz hTI hTO h1 h2 g1 g2 (x := v) (y := w) (by simpa using hv) (by simpa using hw) fun h' a1 a2 a3 a4 a5 a6 hk => ?_
    refine ⟨.ref s.heap.objs.size, rfl, ⟨_, rfl, a1, hk _ _ D.TIz D.TITO D.TIi1 D.TIi2 hTI, ⟨_, _, a2⟩, a3, a4, g1.at fun o q => hk _ o D.l1z D.l1TO D.l1i1 D.l1i2 q, g2.at fun o q => hk _ o D.l2z D.l2TO D.l2i1 D.l2i2 q⟩,
      ⟨h', s.toks, rfl, fun c o hc q => hk c o (fun h => hc (by simp [h])) (fun h => hc (by simp [h])) (fun h => hc (by simp [h])) (fun h => hc (by simp [h])) q⟩, ?_⟩
    exact .tup (vs := [v, w]) (Reg.new_ext fresh_none a5) rfl rfl (.cons (hdv.mono (hle.trans (Reg.ext_le ho))) (.cons (hdw.mono (hle.trans (Reg.ext_le ho))) .nil))
  done := fun A s hh st => by
    obtain ⟨hz, hTI, ⟨a, b, hTO⟩, h1, h2, g1, g2⟩ := st
    have hl : (zipD ds es).length = vs.length := by simp [zipD, hr1.length, hlen]
    refine wpAny_pyNext_zip_end hh D hz hTI hTO h1 h2 g1 g2 (.inl (by simp [hl])) fun h' hk => ⟨rfl, h', s.toks, rfl, fun c o hc q => hk c o (fun h => hc (by simp [h])) (fun h => hc (by simp [h])) (fun h => hc (by simp [h])) (fun h => hc (by simp [h])) q⟩
  self := fun A i s Q E st hQ => wpAny_pyIter_zip st.1 hQ
  letgo := fun A i s t v Q E ht st hQ => by
    obtain ⟨es, k, p, rfl⟩ := ht
    obtain ⟨T, rfl, hz, hTI, ⟨a, b, hTO⟩, h1, h2, g1, g2⟩ := st
    refine wpAny_letOwnedTupleGo_zip hz fun h' hz' hs => hQ { s with heap := h' } ⟨hz', hs.extBut _ _ D.TIz hTI, ⟨a, b, hs.extBut _ _ D.TOz hTO⟩, h1.extBut hs.extBut D.i1z, h2.extBut hs.extBut D.i2z, g1.extBut hs.extBut D.l1z, g2.extBut hs.extBut D.l2z⟩
      ⟨h', s.toks, rfl, fun c o hc q => hs.extBut c o (fun h => hc (by simp [h])) q⟩
theorem evIt_zip {x : Str} {np p : Pos} {e₁ e₂ : Expr} {ds es : List Dat} (hlen : ds.length = es.length) (hf : Ev C n sc Δ (.Name x np) (.val (.type "zip"))) (h₁ : Ev C n sc Δ e₁ (.lst ds)) (h₂ : Ev C n sc Δ e₂ (.lst es))
    (hs : ∀ env, starEach [e₁, e₂] env = (false, eval e₁ env) :: starEach [e₂] env := by intro _; rfl) (hs' : ∀ env, starEach [e₂] env = [(false, eval e₂ env)] := by intro _; rfl) (hp : ∀ env, (backTo p (starEach [e₂] env)).any (·.1) = false := by intro _; rfl) : EvItT C n sc Δ TupT (.Call (.Name x np) [e₁, e₂] [] p) (zipD ds es) := by
  intro A env s R rm ro eo
  refine Call_ (noE (hf A env s R rm ro eo) fun f s₁ p₁ => ?_)
  have hf' := p₁.2
  (have q_ := Rd.valE hf'; clear hf'; subst q_)
  have k₁ := Keeps.hle p₁.1
  refine callWith_type1 (noE (evAll_cons h₁ (evAll_cons h₂ evAll_nil hs') hs A env s₁ _ p rm (ro.ext k₁) (eo.ext ro k₁)) fun vs s₂ p₂ => ?_) (hs env) (hp env)
  have k₂ := Keeps.hle p₂.1
  have ks := Keeps.tr p₁.1 p₂.1
  have ro₂ := ro.ext (Keeps.hle ks)
  obtain ⟨v, w, rfl, hv, hw⟩ : ∃ v w, vs = [v, w] ∧ Rd (R.ext s.heap s₂.heap) v (.lst ds) ∧ Rd (R.ext s.heap s₂.heap) w (.lst es) := by
    have := p₂.2
    cases this with
    | cons a r => cases r with
      | cons b r => (have q_ := RdAll.nilE r; clear r; subst q_); exact ⟨_, _, rfl, a.mono (Reg.ext_ext k₁ k₂), b.mono (Reg.ext_ext k₁ k₂)⟩
  obtain ⟨a, rfl⟩ := hv.lst_ref
  obtain ⟨b, rfl⟩ := hw.lst_ref
  cases hv with
  | lst ea ca da ra => cases hw with
    | lst eb cb db rb =>
      have la := ro₂.on _ _ ea
      have lb := ro₂.on _ _ eb
      have ga : s₂.heap.IsList a _ := ⟨_, la, ca.1, _, da⟩
      have gb : s₂.heap.IsList b _ := ⟨_, lb, cb.1, _, db⟩
      refine call_zip_2 ga gb fun h' hz hTI hTO h1 h2 hsz hk => ?_
      have kn : Keeps s₂ { s₂ with heap := h' } := ⟨h', s₂.toks, rfl, hk⟩
      have lt : ∀ {c o}, s₂.heap.get? c = some o → c < s₂.heap.objs.size := fun q => Heap.lt_size q
      have lta := lt la
      have ltb := lt lb
      have D : ZipApart (s₂.heap.objs.size + 4) (s₂.heap.objs.size + 2) (s₂.heap.objs.size + 3) s₂.heap.objs.size (s₂.heap.objs.size + 1) a b := zip_apart lta ltb
      have new : ∀ c ∈ [s₂.heap.objs.size + 4, s₂.heap.objs.size + 2, s₂.heap.objs.size + 3, s₂.heap.objs.size, s₂.heap.objs.size + 1], s₂.heap.get? c = none := fun c hc => by
        refine Heap.get?_none_of_le ?_
        simp only [List.mem_cons, List.not_mem_nil, or_false] at hc
        rcases hc with rfl | rfl | rfl | rfl | rfl <;> simp
      have up : ∀ c o, (R.ext s.heap s₂.heap) c = some o → ((R.ext s.heap h').minus [s₂.heap.objs.size + 4, s₂.heap.objs.size + 2, s₂.heap.objs.size + 3, s₂.heap.objs.size, s₂.heap.objs.size + 1]) c = some o := fun c o q =>
        Reg.minus_some (fun h => by have := ro₂.on _ _ q; rw [new c h] at this; (have q_ := oNS this; clear this; exact q_.elim)) (Reg.ext_step (Keeps.hle ks) hk _ _ q)
      exact wpAny_pyIter_zip hz ⟨Keeps.tr ks kn, _, _, _, iter_zip D (up _ _ ea) ca.1 da (ra.mono up) (up _ _ eb) cb.1 db (rb.mono up) hlen, ⟨hz, hTI, ⟨_, _, hTO⟩, h1, h2, ga.at fun o q => hk _ _ q, gb.at fun o q => hk _ _ q⟩, fun c hc => none_of_fresh ks (new c hc)⟩
end
end Mine
end
noncomputable section
open PySem PySem.W PyProof.Rows PySem.SeqAt PySem.MeetsSeq
set_option Elab.async false
set_option autoImplicit false
namespace Mine
theorem EnvW.weak {sc : Scope} {env : Env} {h : Heap} {R : Reg} {Δ Δ' : Vars} {W : List Addr} (e : EnvW sc env h R Δ W) (l : ∀ y d, Δ' y = some d → Δ y = some d) : EnvW sc env h R Δ' W :=
  { e with ok := { e.ok with vars := fun y d q => e.ok.vars y d (l y d q) } }
theorem EnvW.but {sc : Scope} {env : Env} {s s' : Shared} {R R' : Reg} {Δ : Vars} {W wr : List Addr} (e : EnvW sc env s.heap R Δ W) (k : KeepsBut wr s s') (hW : ∀ a ∈ W, a ∉ wr) (hc : ∀ x c, env.cells.lookup x = some c → c ∉ wr) (l : R.le R') (hR : ∀ a ∈ W, R' a = none) : EnvW sc env s'.heap R' Δ W := by
  have kn : ∀ m, s.heap.Ns env.locals m → s'.heap.Ns env.locals m := fun m x => x.at' fun o q => k.get (hW _ e.locW) q
  refine ⟨⟨e.ok.hsc, e.ok.fn, e.ok.gl, e.ok.bl, fun y d q => ?_⟩, let ⟨m, x⟩ := e.ns; ⟨m, kn m x⟩, e.locW, fun c hc' hne => ?_, hR, e.inj, e.locne, fun x c q => ?_⟩
  · obtain ⟨v, hv, hd⟩ := e.ok.vars y d q
    refine ⟨v, ?_, hd.mono l⟩
    rcases hv with ⟨a, m, b, c⟩ | ⟨a, c, b, o, q1, q2⟩ | ⟨a, c, b, o, q1, q2⟩
    · exact .inl ⟨a, m, kn m b, c⟩
    · exact .inr (.inl ⟨a, c, b, o, k.get (hc _ _ b) q1, q2⟩)
    · exact .inr (.inr ⟨a, c, b, o, k.get (hc _ _ b) q1, q2⟩)
  · obtain ⟨v, o, q1, q2⟩ := e.alive c hc' hne
    exact ⟨v, o, k.get (hW _ hc') q1, q2⟩
  · obtain ⟨v, o, q1, q2⟩ := e.calive x c q
    exact ⟨v, o, k.get (hc _ _ q) q1, q2⟩
theorem updAll_off {Δ : Vars} {y : Str} {d : Dat} (h : Δ y = some d) : ∀ (xs : List Str) (ds : List Dat) (Δ' : Vars), (∀ x ∈ xs, Δ x = none) → Δ' y = some d → updAll Δ' xs ds y = some d
  | [], _, _, _, e => by simpa [updAll] using e
  | x :: xs, [], _, _, e => by simpa [updAll] using e
  | x :: xs, d' :: ds, Δ', hx, e => by
    unfold updAll
    refine updAll_off h xs ds _ (fun z hz => hx z (List.mem_cons_of_mem _ hz)) ?_
    have : y ≠ x := fun q => by rw [q, hx x List.mem_cons_self] at h; (have q_ := oNS h; clear h; exact q_.elim)
    simp only [upd, this, if_false]; exact e
theorem comp_loopG {α : Type} {C : Cx} {n : Nat} {sc : Scope} {Δ : Vars} {L : List α} {enc : α → Dat} {tds : α → List Dat} {p : α → Bool} {g : α → List Dat} {xs : List Str} {A : Around} {s s₁ : Shared} {R R₀ : Reg} {it : Value} {wr W X : List Addr} {St : Nat → Heap → Prop} {Md : Nat → Value → Heap → Prop} {TO : Expr → Prop} {D : Addr} {cenv : Env}
    {elt : Expr} {gens : List Comprehension} {scope : Scope} {pos : Pos} {depth : Nat} {target iter : Expr} {ifs : List Expr} {INS : Sem Fin → Sem Fin} {RR : Result → Shared → Prop} {ys₀ : Array Value} {M : Nat}
    (hturn : compTurn (.ListComp elt gens scope pos) depth it (.ref D) cenv = (do
      standAt iter.pos
      match ← pyNext it with
      | none => pure (.done .next)
      | some v =>
        letOwnedTupleGo target it v
        assign target cenv v
        let mut ok := true
        for c in ifs do
          if ok then ok ← isTrue c cenv (eval c cenv)
        if ok then INS (again (.compLoop (.ListComp elt gens scope pos) depth it (.ref D) cenv)) else again (.compLoop (.ListComp elt gens scope pos) depth it (.ref D) cenv)))
    (rm : Room n A) (ro : Rok C R s.heap) (k₁ : Keeps s s₁) (It : IterM C it wr (L.map enc) R₀ St Md TO) (hTO : TO target) (hst : St 0 s₁.heap) (hR₀ : R₀.le (Rl s R ((wr ++ D :: W) ++ X) s₁.heap))
    (fresh : ∀ a ∈ (wr ++ D :: W) ++ X, s.heap.get? a = none) (hDr : D ∉ wr) (hDW : D ∉ W) (hWr : ∀ a ∈ W, a ∉ wr) (hcw : ∀ x c, cenv.cells.lookup x = some c → c ∉ wr) (hX : ∀ a ∈ X, a ∉ wr ++ D :: W ∧ ∃ o, s₁.heap.get? a = some o) (hD : s₁.heap.PlainList D ys₀)
    (e₁ : EnvW sc cenv s₁.heap (Rl s R ((wr ++ D :: W) ++ X) s₁.heap) Δ W) (hS : ∀ x ∈ xs, Stor sc cenv W x) (hfr : ∀ x ∈ xs, Δ x = none)
    (hT : ∀ a ∈ L, Tgt target (enc a) xs (tds a)) (ht : ∀ a ∈ L, EvTs C n sc (updAll Δ xs (tds a)) ifs (p a)) (hM : ∀ i, ys₀.size + (((L.take i).filter p).flatMap g).length ≤ M)
    (ins : ∀ a ∈ L, p a = true → ∀ s₅ (ys : Array Value), Keeps s s₅ → EnvW sc cenv s₅.heap (Rl s R ((wr ++ D :: W) ++ X) s₅.heap) (updAll Δ xs (tds a)) W → s₅.heap.PlainList D ys → ys.size + (g a).length ≤ M → (∀ b ∈ wr ++ X, ∃ o, s₅.heap.get? b = some o) →
      ∀ (kk : Sem Fin) (Q : Fin → Shared → Prop) (E : Value → Shared → Prop), (∀ s₆, (KeepsBut (D :: W) s₅ s₆ ∧ ∃ new : List Value, s₆.heap.PlainList D (ys ++ new.toArray) ∧ RdAll (Rl s R ((wr ++ D :: W) ++ X) s₆.heap) new (g a) ∧ EnvW sc cenv s₆.heap (Rl s R ((wr ++ D :: W) ++ X) s₆.heap) (updAll Δ xs (tds a)) W) → wpAny C.M A kk Q E s₆) → wpAny C.M A (INS kk) Q E s₅)
    (hRR : ∀ s' (new : List Value), Keeps s s' → KeepsBut (wr ++ D :: W) s₁ s' → s'.heap.PlainList D (ys₀ ++ new.toArray) → RdAll (Rl s R ((wr ++ D :: W) ++ X) s'.heap) new ((L.filter p).flatMap g) → EnvW sc cenv s'.heap (Rl s R ((wr ++ D :: W) ++ X) s'.heap) Δ W → RR (.ok .next) s') :
    codeAny C.M A (.compLoop (.ListComp elt gens scope pos) depth it (.ref D) cenv) RR s₁ := by
  generalize hU : wr ++ D :: W = U at *
  generalize hV : U ++ X = V at *
  have inU : ∀ a, a ∈ U ↔ a ∈ wr ∨ a = D ∨ a ∈ W := fun a => by rw [← hU]; simp
  have UV : ∀ a ∈ U, a ∈ V := fun a h => by rw [← hV]; exact List.mem_append_left _ h
  have XV : ∀ a ∈ X, a ∈ V := fun a h => by rw [← hV]; exact List.mem_append_right _ h
  have wrU : ∀ a ∈ wr, a ∈ U := fun a h => (inU a).mpr (.inl h)
  have WU : ∀ a ∈ W, a ∈ U := fun a h => (inU a).mpr (.inr (.inr h))
  have DU : D ∈ U := (inU D).mpr (.inr (.inl rfl))
  have frU : ∀ a ∈ U, s.heap.get? a = none := fun a h => fresh a (UV a h)
  refine codeAny_loop rfl (fun k s' => ∃ i, ∃ new : List Value, i ≤ L.length ∧ k = L.length + 1 - i ∧ Keeps s s' ∧ KeepsBut U s₁ s' ∧ St i s'.heap ∧ s'.heap.PlainList D (ys₀ ++ new.toArray) ∧ RdAll (Rl s R V s'.heap) new (((L.take i).filter p).flatMap g) ∧ EnvW sc cenv s'.heap (Rl s R V s'.heap) Δ W) (fun k s' hI => ?_) (L.length + 1)
    ⟨0, [], Nat.zero_le _, rfl, k₁, .rfl' _ _, hst, by simpa using hD, .nil, e₁⟩
  obtain ⟨i, new, hi, rfl, kS, kV, st, hl, hr, ew⟩ := hI
  have alV : ∀ {s' : Shared} {i : Nat} {ys : Array Value} {Δ' : Vars}, KeepsBut U s₁ s' → St i s'.heap → s'.heap.PlainList D ys → EnvW sc cenv s'.heap (Rl s R V s'.heap) Δ' W → ∀ a ∈ V, ∃ o, s'.heap.get? a = some o := fun kb st hl ew a ha => by
    rw [← hV] at ha
    rcases List.mem_append.mp ha with ha | ha
    · rcases (inU a).mp ha with h | rfl | h
      · exact It.alive _ _ st a h
      · obtain ⟨n, q⟩ := hl; exact ⟨_, q⟩
      · exact ew.isW h
    · obtain ⟨h1, o, h2⟩ := hX a ha
      exact ⟨o, kb.get h1 h2⟩
  have rlV : ∀ {h : Heap} (a : Addr), a ∈ V → Rl s R V h a = none := fun a h => Reg.minus_off h
  have r0 : ∀ {s' : Shared}, KeepsBut U s₁ s' → R₀.le (Rl s R V s'.heap) := fun kV => hR₀.trans (rl_le k₁ (kV.sub UV))
  show wpAny C.M A ((compTurn (.ListComp elt gens scope pos) depth it (.ref D) cenv).onRaise (fun x => do noteFrame x cenv; theTreesLotGoes x)) _ _ s'
  refine wpAny_noted ?_
  rw [hturn]
  refine wpAny_bind (wpAny_standAt (wpAny_bind ?_))
  by_cases hlt : i < L.length
  · have hg : (L.map enc)[i]? = some (enc L[i]) := by simp [hlt]
    have hmem : L[i] ∈ L := List.getElem_mem hlt
    refine noE (It.next A i s' (Rl s R V s'.heap) _ rm.handled hg st (r0 kV) (rl_on ro.on (Keeps.hle kS)) (fun a ha => rlV a (UV a (wrU a ha)))) fun r s₂ h₂ => ?_
    obtain ⟨v, rfl, st₂, kb₂, hv⟩ := h₂
    have kb₂U : KeepsBut U s' s₂ := kb₂.sub wrU
    have kS₂ : Keeps s s₂ := kb₂U.keeps kS frU
    have al := alV kV st hl ew
    have hv' : Rd (Rl s R V s₂.heap) v (enc L[i]) := hv.mono (rl_step kS kS₂ (kb₂U.sub UV) al)
    have hl₂ : s₂.heap.PlainList D (ys₀ ++ new.toArray) := hl.at fun o q => kb₂.get hDr q
    have ew₂ : EnvW sc cenv s₂.heap (Rl s R V s₂.heap) Δ W := ew.but kb₂ hWr hcw (rl_le kS (kb₂U.sub UV)) fun a ha => rlV a (UV a (WU a ha))
    refine wpAny_bind (It.letgo A (i + 1) s₂ target v _ _ hTO st₂ fun s₃ st₃ kb₃ => ?_)
    have kb₃U : KeepsBut U s₂ s₃ := kb₃.sub wrU
    have kS₃ : Keeps s s₃ := kb₃U.keeps kS₂ frU
    have hl₃ : s₃.heap.PlainList D (ys₀ ++ new.toArray) := hl₂.at fun o q => kb₃.get hDr q
    have up₃ := rl_le (R := R) kS₂ (kb₃U.sub UV)
    have ew₃ : EnvW sc cenv s₃.heap (Rl s R V s₃.heap) Δ W := ew₂.but kb₃ hWr hcw up₃ fun a ha => rlV a (UV a (WU a ha))
    refine wpAny_bind (assign_tgt rm.handled (hT _ hmem) (rl_rok ro fresh (Keeps.hle kS₃)) ew₃ hS (hv'.mono up₃) fun s₄ kb₄ ew₄ => ?_)
    have kb₄U : KeepsBut U s₃ s₄ := kb₄.sub WU
    have kS₄ : Keeps s s₄ := kb₄U.keeps kS₃ frU
    have hl₄ : s₄.heap.PlainList D (ys₀ ++ new.toArray) := hl₃.at fun o q => kb₄.get hDW q
    have up₄ := rl_le (R := R) kS₃ (kb₄U.sub UV)
    have ew₄' : EnvW sc cenv s₄.heap (Rl s R V s₄.heap) (updAll Δ xs (tds L[i])) W := ew₄.keeps (hle.refl _) up₄ (fun a ha => rlV a (UV a (WU a ha)))
    have kV₄ := kV.tr (kb₂U.tr (kb₃U.tr kb₄U))
    have st₄ : St (i + 1) s₄.heap := It.frame _ _ _ st₃ (fun b hb o q => kb₄.get (fun h => hWr b h hb) q) ((rl_on ro.on (Keeps.hle kS₄)).le (r0 kV₄)) (ro.mu.hle (Keeps.hle kS₄))
    refine wpAny_bind (noE (tests_run (ht _ hmem) rm (rl_rok ro fresh (Keeps.hle kS₄)) ew₄'.ok) fun ok s₅ h₅ => ?_)
    obtain ⟨k₅, rfl⟩ := h₅
    have kS₅ := Keeps.tr kS₄ k₅
    have up₅ := rl_le (R := R) kS₄ (KeepsBut.of (W := V) k₅)
    have ew₅ : EnvW sc cenv s₅.heap (Rl s R V s₅.heap) (updAll Δ xs (tds L[i])) W := ew₄'.keeps (Keeps.hle k₅) up₅ (fun a ha => rlV a (UV a (WU a ha)))
    have hl₅ : s₅.heap.PlainList D (ys₀ ++ new.toArray) := hl₄.at fun o q => Keeps.hle k₅ _ _ q
    have kV₅ := kV₄.tr (KeepsBut.of k₅)
    have st₅ : St (i + 1) s₅.heap := It.frame _ _ _ st₄ (fun b hb o q => Keeps.hle k₅ _ _ q) ((rl_on ro.on (Keeps.hle kS₅)).le (r0 kV₅)) (ro.mu.hle (Keeps.hle kS₅))
    have hr₅ : RdAll (Rl s R V s₅.heap) new (((L.take i).filter p).flatMap g) := hr.mono ((rl_le kS (kb₂U.sub UV)).trans (up₃.trans (up₄.trans up₅)))
    have htk : L.take (i + 1) = L.take i ++ [L[i]] := by simp
    have back : ∀ y d, Δ y = some d → updAll Δ xs (tds L[i]) y = some d := fun y d q => updAll_off q xs _ Δ hfr q
    cases hp : p L[i] with
    | false =>
      exact wpAny_pure ⟨rfl, L.length + 1 - (i + 1), by omega, i + 1, new, hlt, rfl, kS₅, kV₅, st₅, hl₅, by rw [htk, List.filter_append]; simpa [hp] using hr₅, ew₅.weak back⟩
    | true =>
      have hm1 := hM (i + 1)
      rw [htk, List.filter_append, List.flatMap_append, List.length_append] at hm1
      simp only [List.filter_cons, hp, if_true, List.filter_nil, List.flatMap_cons, List.flatMap_nil, List.append_nil] at hm1
      have hsz : (ys₀ ++ new.toArray).size + (g L[i]).length ≤ M := by
        have := hr₅.length
        simp only [Array.size_append, List.size_toArray]; omega
      have halv : ∀ b ∈ wr ++ X, ∃ o, s₅.heap.get? b = some o := fun b hb => by
        rcases List.mem_append.mp hb with h | h
        · exact It.alive _ _ st₅ b h
        · obtain ⟨h1, o, h2⟩ := hX b h
          exact ⟨o, kV₅.get h1 h2⟩
      refine ins _ hmem hp s₅ _ kS₅ ew₅ hl₅ hsz halv _ _ _ fun s₆ h₆ => ?_
      obtain ⟨kb₆, nw, hl₆, hr₆, ew₆⟩ := h₆
      have kb₆U : KeepsBut U s₅ s₆ := kb₆.sub fun a ha => by
        rcases List.mem_cons.mp ha with rfl | ha
        · exact DU
        · exact WU a ha
      have kS₆ : Keeps s s₆ := kb₆U.keeps kS₅ frU
      have kV₆ := kV₅.tr kb₆U
      have st₆ : St (i + 1) s₆.heap := It.frame _ _ _ st₅ (fun b hb o q => kb₆.get (fun h => by
        rcases List.mem_cons.mp h with h | h
        · exact hDr (h ▸ hb)
        · exact hWr b h hb) q) ((rl_on ro.on (Keeps.hle kS₆)).le (r0 kV₆)) (ro.mu.hle (Keeps.hle kS₆))
      refine wpAny_pure ⟨rfl, L.length + 1 - (i + 1), by omega, i + 1, new ++ nw, hlt, rfl, kS₆, kV₆, st₆, by simpa [Array.append_assoc] using hl₆, ?_, ew₆.weak back⟩
      rw [htk, List.filter_append, List.flatMap_append]
      refine (hr₅.mono (rl_le kS₅ (kb₆U.sub UV))).append ?_
      simpa [hp] using hr₆
  · have hin : i = L.length := by omega
    subst hin
    refine noE (It.done A s' rm.handled (by simpa using st)) fun r s₂ h₂ => ?_
    obtain ⟨rfl, kb₂⟩ := h₂
    have kb₂U : KeepsBut U s' s₂ := kb₂.sub wrU
    have kS₂ : Keeps s s₂ := kb₂U.keeps kS frU
    have up := rl_le (R := R) kS (kb₂U.sub UV)
    refine wpAny_pure (hRR s₂ new kS₂ (kV.tr kb₂U) (hl.at fun o q => kb₂.get hDr q) ?_ (ew.but kb₂ hWr hcw up fun a ha => rlV a (UV a (WU a ha))))
    have := hr.mono up
    rwa [List.take_length] at this
end Mine
end
noncomputable section
open PySem PySem.W PyProof.Rows PySem.SeqAt PySem.MeetsSeq
set_option Elab.async false
set_option autoImplicit false
namespace Mine
theorem compStart_at1 {C : Cx} {A : Around} {R : Result → Shared → Prop} {s : Shared} {elt : Expr} {g1 : Comprehension} {target iter : Expr} {ifs : List Expr} {scope : Scope} {pos : Pos} {it acc : Value} {env : Env}
    (h0 : codeAny C.M A (.compLoop (.ListComp elt [g1, ⟨target, iter, ifs, 0⟩] scope pos) 1 it acc env) R s)
    (h : wpAny C.M A (pyIter it) (fun it' s' => codeAny C.M A (.compLoop (.ListComp elt [g1, ⟨target, iter, ifs, 0⟩] scope pos) 1 it' acc env) R s')
      (notedBy C.M A env fun x s' => R (.error x) s') s) :
    codeAny C.M A (.compStart (.ListComp elt [g1, ⟨target, iter, ifs, 0⟩] scope pos) 1 it acc env) R s := by
  refine codeAny_of_tree ?_
  show wpAny _ _ ((compStart (.ListComp elt [g1, ⟨target, iter, ifs, 0⟩] scope pos) 1 it acc env).onRaise (fun x => do noteFrame x env; standAt theWindowsPlace)) _ _ s
  refine wpAny_notedAt ?_
  unfold compStart
  show wpAny _ _ (ask >>= _) _ _ s
  refine wpAny_bind (wpAny_askSetting (wpAny_ite ?_))
  split
  · first
      | exact wpAny_bind (wpAny_pure (wpAny_pure (And.intro rfl h0)))
      | exact wpAny_pure (And.intro rfl h0)
  · first
      | exact wpAny_bind (wpAny_rule (wpAny_bind (wpAny_standAt (wpAny_bind (wpAny_mono h (fun it' s' h' => wpAny_pure (And.intro rfl h')) fun _ _ x => x)))))
      | (refine wpAny_bind (wpAny_rule ?_); show wpAny _ _ (standAt iter.pos >>= _) _ _ s; exact wpAny_bind (wpAny_standAt (wpAny_bind (wpAny_mono h (fun it' s' h' => wpAny_pure (And.intro rfl h')) fun _ _ x => x))))
theorem ins_emit {C : Cx} {n : Nat} {sc : Scope} {Δ : Vars} {A : Around} {s s₅ : Shared} {R : Reg} {cenv : Env} {W V : List Addr} {D : Addr} {elt : Expr} {d : Dat} {ys : Array Value} (rm : Room n A) (ro : Rok C R s.heap) (fresh : ∀ a ∈ V, s.heap.get? a = none) (DV : D ∈ V) (WV : ∀ a ∈ W, a ∈ V) (hDW : D ∉ W) (hcD : ∀ x c, cenv.cells.lookup x = some c → c ≠ D) (al : ∀ a ∈ V, ∃ o, s₅.heap.get? a = some o) (kS : Keeps s s₅) (ew : EnvW sc cenv s₅.heap (Rl s R V s₅.heap) Δ W)
    (hl : s₅.heap.PlainList D ys) (hz : ys.size ≤ sizeLine) (he : Ev C n sc Δ elt d) :
    wpAny C.M A ((do let _ ← call (.builtin "list.append") [.ref D, ← eval elt cenv]) : Sem Unit) (fun _ s₆ => KeepsBut (D :: W) s₅ s₆ ∧ ∃ new : List Value, s₆.heap.PlainList D (ys ++ new.toArray) ∧ RdAll (Rl s R V s₆.heap) new [d] ∧ EnvW sc cenv s₆.heap (Rl s R V s₆.heap) Δ W) NoE s₅ := by
  refine wpAny_bind (noE (he A cenv s₅ _ rm (rl_rok ro fresh (Keeps.hle kS)) ew.ok) fun y s₆ h₆ => ?_)
  obtain ⟨k₆, hy⟩ := h₆
  have kS₆ := Keeps.tr kS k₆
  have up₆ := rl_le (R := R) kS (KeepsBut.of (W := V) k₆)
  have hl₆ : s₆.heap.PlainList D ys := hl.at fun o q => Keeps.hle k₆ _ _ q
  have ew₆ : EnvW sc cenv s₆.heap (Rl s R V s₆.heap) Δ W := ew.keeps (Keeps.hle k₆) up₆ fun a ha => Reg.minus_off (WV a ha)
  refine wpAny_bind (wpAny_list_append_plain (hsz := hz) hl₆ fun h₇ hl₇ hs₇ => wpAny_pure ?_)
  have kb₇ : KeepsBut [D] s₆ { s₆ with heap := h₇ } := ⟨h₇, s₆.toks, rfl, fun b o hb q => hs₇.extBut b o (by simpa using hb) q⟩
  have up₇ := rl_le (R := R) kS₆ (kb₇.sub (W' := V) fun a ha => by rw [List.mem_singleton.mp ha]; exact DV)
  have kS₇ : Keeps s { s₆ with heap := h₇ } := kb₇.keeps kS₆ fun a ha => by rw [List.mem_singleton.mp ha]; exact fresh _ DV
  refine ⟨(KeepsBut.of k₆).tr (kb₇.sub fun a ha => by rw [List.mem_singleton.mp ha]; exact List.mem_cons_self), [y], by simpa using hl₇, .cons ((hy.mono (rl_step kS kS₆ (KeepsBut.of k₆) al)).mono up₇) .nil, ew₆.but kb₇ (fun a ha h => hDW (List.mem_singleton.mp h ▸ ha)) (fun x c q h => hcD x c q (List.mem_singleton.mp h)) up₇ fun a ha => Reg.minus_off (WV a ha)⟩
theorem mark_none' (A : Around) : A.mark none = A := by cases A; rfl
theorem lc2_len {α β γ : Type} (L : List α) (L₂ : α → List β) (p : α → Bool) (p₂ : α → β → Bool) (f : α → β → γ) (i : Nat) : (((L.take i).filter p).flatMap fun a => ((L₂ a).filter (p₂ a)).map (f a)).length ≤ (L.flatMap fun a => L₂ a).length := by
  induction L generalizing i with
  | nil => simp
  | cons a L ih =>
    cases i with
    | zero => simp
    | succ i =>
      have h1 := ih i
      have h2 := List.length_filter_le (p₂ a) (L₂ a)
      rw [List.take_succ_cons, List.filter_cons]
      split
      · rw [List.flatMap_cons, List.flatMap_cons, List.length_append, List.length_append, List.length_map]; omega
      · rw [List.flatMap_cons, List.length_append]; omega
theorem rl_nest {s s₅ s₇ : Shared} {R : Reg} {V V₂ wr₂ : List Addr} (k : Keeps s s₅) (k' : Keeps s₅ s₇) (al : ∀ a ∈ V, ∃ o, s₅.heap.get? a = some o) (h : ∀ a ∈ V₂, a ∈ V ∨ a ∈ wr₂) : (((Rl s R V s₅.heap).ext s₅.heap s₇.heap).minus wr₂).le (Rl s R V₂ s₇.heap) := fun a o q => by
  have h1 : a ∉ wr₂ := fun w => by rw [Reg.minus_off w] at q; (have q_ := oNS q; clear q; exact q_.elim)
  have h2 := rl_step k (Keeps.tr k k') (KeepsBut.of (W := V) k') al a o (Reg.minus_le a o q)
  have h3 : a ∉ V := fun w => by rw [show Rl s R V s₇.heap a = none from Reg.minus_off w] at h2; (have q_ := oNS h2; clear h2; exact q_.elim)
  exact Reg.minus_some (fun w => (h a w).elim h3 h1) (Reg.minus_le a o h2)
theorem comp2_run {α β : Type} {C : Cx} {n : Nat} {sc scope : Scope} {Δ : Vars} {L : List α} {enc : α → Dat} {tds : α → List Dat} {p : α → Bool} {L₂ : α → List β} {enc₂ : β → Dat} {tds₂ : β → List Dat} {p₂ : α → β → Bool} {f : α → β → Dat} {elt target iter target₂ iter₂ : Expr} {ifs ifs₂ : List Expr} {pos ps : Pos} {A : Around} {env : Env} {s : Shared} {R : Reg} {E : Value → Shared → Prop} {use : Option (Value → Sem Unit)} {Q : Value → Shared → Prop} (xs xs₂ : List Str)
    (rm : Room n A) (ro : Rok C R s.heap) (eo : EnvOk sc env s.heap R Δ)
    (hit : EvIt C n sc Δ iter (L.map enc)) (hc : compOkB sc scope Δ (xs ++ xs₂) = true)
    (hT : ∀ a ∈ L, Tgt target (enc a) xs (tds a)) (ht : ∀ a ∈ L, EvTs C n (relab scope sc) (updAll (inner scope Δ) xs (tds a)) ifs (p a))
    (hit₂ : ∀ a ∈ L, p a = true → EvIt C n (relab scope sc) (updAll (inner scope Δ) xs (tds a)) iter₂ ((L₂ a).map enc₂))
    (hT₂ : ∀ a ∈ L, ∀ b ∈ L₂ a, Tgt target₂ (enc₂ b) xs₂ (tds₂ b)) (ht₂ : ∀ a ∈ L, ∀ b ∈ L₂ a, EvTs C n (relab scope sc) (updAll (updAll (inner scope Δ) xs (tds a)) xs₂ (tds₂ b)) ifs₂ (p₂ a b))
    (he : ∀ a ∈ L, ∀ b ∈ L₂ a, p₂ a b = true → Ev C n (relab scope sc) (updAll (updAll (inner scope Δ) xs (tds a)) xs₂ (tds₂ b)) elt (f a b))
    (hfr : ∀ x ∈ xs, inner scope Δ x = none) (hfr₂ : ∀ a ∈ L, ∀ x ∈ xs₂, updAll (inner scope Δ) xs (tds a) x = none)
    (hM : (L.flatMap fun a => (L₂ a)).length ≤ 1000)
    (hs : ∀ x, foldedSetIterable iter env x = pure x) (hs₂ : ∀ env x, foldedSetIterable iter₂ env x = pure x)
    (hQ : ∀ D C' s', Keeps s s' → s.heap.get? C' = none → s.heap.get? D = none → D ≠ C' → (∃ m, s'.heap.Ns C' m) → (∃ o n ys, s'.heap.get? D = some o ∧ (o.cls = .type "list" ∧ o.dict = none) ∧ o.data = .seq ys n ∧ RdAll ((R.ext s.heap s'.heap).minus [C', D]) ys.toList ((L.filter p).flatMap fun a => ((L₂ a).filter (p₂ a)).map (f a))) → compPost C.M A E use Q (.ref D) C' (.ok .next) s') :
    wpAny C.M A (comprehension (.ListComp elt [⟨target, iter, ifs, 0⟩, ⟨target₂, iter₂, ifs₂, 0⟩] scope pos) scope env ps (newList []) false (eval iter env) use) Q E s := by
  have hcx := CompOk.of hc
  have hclo : closureFor scope env = pure (clFrom env scope.names []) := by
    refine closure_eq fun q hq hf => ?_
    obtain ⟨h1, h2⟩ := hcx.free q hq hf
    obtain ⟨d, hd⟩ := Option.isSome_iff_exists.mp h1
    obtain ⟨v, hv, _⟩ := eo.vars _ _ hd
    rcases hv with ⟨a, _⟩ | ⟨a, c, b, e⟩ | ⟨a, c, b, e⟩
    · have a' : sc.names.lookup q.1 = some .local := by rw [← eo.hsc]; exact a
      rcases h2 with h2 | h2 <;> rw [a'] at h2 <;> cases h2
    · rw [b]; rfl
    · rw [b]; rfl
  refine wpAny_comprehension_free (cl := clFrom env scope.names []) rfl hs hclo hcx.kind hcx.names ?_
  refine noE (hit A env s R rm ro eo) fun x s₁ h₁ => noE h₁ fun it s₂ h₂ => ?_
  obtain ⟨k₂, wr, St, It, st, hw⟩ := h₂
  refine wpAny_newObj_type ?_
  generalize hs₃ : ({ s₂ with heap := s₂.heap.push { cls := .type "list", data := .seq ([] : List Value).toArray } } : Shared) = s₃
  have k23 : Keeps s₂ s₃ := by rw [← hs₃]; exact Keeps.push _ _
  have k₃ := Keeps.tr k₂ k23
  have hDn : s₂.heap.get? s₂.heap.objs.size = none := fresh_none
  have hD₃ : s₃.heap.PlainList s₂.heap.objs.size #[] := by rw [← hs₃]; exact ⟨0, Heap.get?_push_size _ rfl⟩
  generalize s₂.heap.objs.size = D at *
  obtain ⟨cl', W, h', e1, hnew, kp, hfrW⟩ := comp_frame (C := C) (s₀ := s) (s := s₃) (qual := env.qual) hcx (Keeps.hle k₃) eo
  rw [hclo] at e1
  have e2 : clFrom env scope.names [] = cl' := by injection e1
  rw [← e2] at hnew
  refine hnew A E _ fun cenv hloc hLW fr hE hS => ?_
  have k34 : Keeps s₃ { s₃ with heap := h' } := ⟨h', s₃.toks, rfl, kp⟩
  have k₄ := Keeps.tr k₃ k34
  have hDs : s.heap.get? D = none := none_of_fresh k₂ hDn
  have hDr : D ∉ wr := fun h => by obtain ⟨o, x⟩ := It.alive _ _ st D h; rw [hDn] at x; (have q_ := oNS x; clear x; exact q_.elim)
  have hWr : ∀ a ∈ W, a ∉ wr := fun a ha h => by
    obtain ⟨o, x⟩ := It.alive _ _ st a h
    have := Keeps.hle k23 _ _ x
    rw [hfrW a ha] at this; (have q_ := oNS this; clear this; exact q_.elim)
  have hDW : D ∉ W := fun h => by obtain ⟨n, x⟩ := hD₃; rw [hfrW D h] at x; (have q_ := oNS x; clear x; exact q_.elim)
  have fresh : ∀ a ∈ wr ++ D :: W, s.heap.get? a = none := fun a ha => by
    rcases List.mem_append.mp ha with h | h
    · exact hw a h
    · rcases List.mem_cons.mp h with rfl | h
      · exact hDs
      · exact none_of_fresh k₃ (hfrW a h)
  have hfW : ∀ a ∈ W, R a = none := fun a ha => by
    cases q : R a with
    | none => rfl
    | some o => have := ro.on a o q; rw [fresh a (by simp [ha])] at this; (have q_ := oNS this; clear this; exact q_.elim)
  have hcell : ∀ Z : List Addr, (∀ a ∈ Z, s.heap.get? a = none) → (∀ a ∈ Z, a ∉ W) → ∀ x c, cenv.cells.lookup x = some c → c ∉ Z := fun Z h1 h2 x c hx hcZ => by
    have kh : hle s.heap (hideAll h' Z) := fun b o q => hideAll_get _ (Keeps.hle k₄ b o q) fun h => by rw [h1 b h] at q; (have q_ := oNS q; clear q; exact q_.elim)
    have fz : FrameAt W cenv.locals (hideAll h' Z) := by
      refine ⟨let ⟨m, x⟩ := fr.1; ⟨m, x.at' fun o q => hideAll_get _ q fun h => h2 _ h hLW⟩, fun a ha hn => ?_⟩
      obtain ⟨v, o, q1, q2⟩ := fr.2 a ha hn
      exact ⟨v, o, hideAll_get _ q1 fun h => h2 _ h ha, q2⟩
    obtain ⟨v, o, q, _⟩ := (hE (hideAll h' Z) R kh fz (.refl _) hfW).calive x c hx
    rw [hideAll_none _ hcZ] at q; (have q_ := oNS q; clear q; exact q_.elim)
  generalize hcenv : ({ cenv with scope := relabel scope env } : Env) = ce at *
  have hloc' : ce.locals = cenv.locals := by rw [← hcenv]
  have hcells : ce.cells = cenv.cells := by rw [← hcenv]
  have hcell' : ∀ Z : List Addr, (∀ a ∈ Z, s.heap.get? a = none) → (∀ a ∈ Z, a ∉ W) → ∀ x c, ce.cells.lookup x = some c → c ∉ Z := fun Z h1 h2 x c hx => hcell Z h1 h2 x c (hcells ▸ hx)
  have freshX : ∀ a ∈ (wr ++ D :: W) ++ ([] : List Addr), s.heap.get? a = none := fun a ha => fresh a (by simpa using ha)
  have hcD : ∀ x c, ce.cells.lookup x = some c → c ≠ D := fun x c hx h => hcell' [D] (fun a ha => by rw [List.mem_singleton.mp ha]; exact hDs) (fun a ha => by rw [List.mem_singleton.mp ha]; exact hDW) x c hx (by simp [h])
  have hReg : ((R.ext s.heap s₂.heap).minus wr).le (Rl s R ((wr ++ D :: W) ++ []) h') := fun a o q => by
    have e' := Reg.minus_le a o q
    have hal := (ro.ext (Keeps.hle k₂)).on a o e'
    refine Reg.minus_some (fun h => ?_) (Reg.ext_step (Keeps.hle k₂) (Keeps.hle (Keeps.tr k23 k34)) a o e')
    rw [List.append_nil] at h
    rcases List.mem_append.mp h with h | h
    · rw [Reg.minus_off h] at q; (have q_ := oNS q; clear q; exact q_.elim)
    · rcases List.mem_cons.mp h with rfl | h
      · rw [hDn] at hal; (have q_ := oNS hal; clear hal; exact q_.elim)
      · have := Keeps.hle k23 _ _ hal
        rw [hfrW a h] at this; (have q_ := oNS this; clear this; exact q_.elim)
  have offW : ∀ {X : List Addr} {h : Heap}, (∀ a ∈ W, a ∈ X) → ∀ a ∈ W, Rl s R X h a = none := fun hx a ha => Reg.minus_off (hx a ha)
  have hDl' : h'.PlainList D #[] := hD₃.at fun o q => kp _ _ q
  have st' : St 0 h' := It.frame _ _ _ st (fun b _ o q => Keeps.hle (Keeps.tr k23 k34) _ _ q) (fun a o q => Keeps.hle (Keeps.tr k23 k34) _ _ ((ro.ext (Keeps.hle k₂)).on a o (Reg.minus_le a o q))) ((ro.mu.hle (Keeps.hle k₂)).hle (Keeps.hle (Keeps.tr k23 k34)))
  have W₁ : ∀ a ∈ W, a ∈ (wr ++ D :: W) ++ ([] : List Addr) := fun a ha => by simp [ha]
  have e₁ : EnvW (relab scope sc) ce h' (Rl s R ((wr ++ D :: W) ++ []) h') (inner scope Δ) W := hE h' _ (Keeps.hle k₄) fr (rl_base ro.on freshX) (offW W₁)
  have l0 : codeAny C.M A (.compLoop (.ListComp elt [⟨target, iter, ifs, 0⟩, ⟨target₂, iter₂, ifs₂, 0⟩] scope pos) 0 it (.ref D) ce) (compPost C.M A E use Q (.ref D) cenv.locals) { s₃ with heap := h' } := by
    refine comp_loopG (C := C) (elt := elt) (gens := [⟨target, iter, ifs, 0⟩, ⟨target₂, iter₂, ifs₂, 0⟩]) (scope := scope) (pos := pos) (depth := 0) (target := target) (iter := iter) (ifs := ifs) (sc := relab scope sc) (Δ := inner scope Δ) (s := s) (R := R) (s₁ := { s₃ with heap := h' }) (W := W) (X := []) (ys₀ := #[]) (M := 1000) (g := fun a => ((L₂ a).filter (p₂ a)).map (f a)) (p := p) (INS := fun kk => do
        let x ← eval iter₂ ce
        standAt iter₂.pos
        let x ← foldedSetIterable iter₂ ce x
        let _ ← runOwn (.compStart (.ListComp elt [⟨target, iter, ifs, 0⟩, ⟨target₂, iter₂, ifs₂, 0⟩] scope pos) 1 (← holding [x] (pyIter x)) (.ref D) ce) ce
        kk) rfl rm ro k₄ It trivial st' hReg freshX hDr hDW hWr (hcell' wr hw fun a ha h => hWr a h ha) (by simp) hDl' e₁ (fun x hx => hS x (List.mem_append_left _ hx)) hfr hT ht ?_ ?_ ?_
    · intro i
      simpa using Nat.le_trans (lc2_len L L₂ p p₂ f i) hM
    · intro a ha hp s₅ ys kS₅ ew₅ hl₅ hz hal kk Q₁ E₁ hQ₁
      refine wpAny_bind (noE (hit₂ a ha hp A ce s₅ _ rm (rl_rok ro freshX (Keeps.hle kS₅)) ew₅.ok) fun x₂ s₆ h₆ => ?_)
      refine wpAny_bind (wpAny_standAt ?_)
      rw [hs₂ ce x₂]
      refine wpAny_bind (wpAny_pure (wpAny_bind (wpAny_holding (noE h₆ fun it₂ s₇ h₇ => ?_))))
      obtain ⟨k₇, wr₂, St₂, It₂, st₂, hw₂⟩ := h₇
      have kS₇ := Keeps.tr kS₅ k₇
      have al₅ : ∀ b ∈ (wr ++ D :: W) ++ ([] : List Addr), ∃ o, s₅.heap.get? b = some o := fun b hb => by
        rw [List.append_nil] at hb
        rcases List.mem_append.mp hb with h | h
        · exact hal b (by simp [h])
        · rcases List.mem_cons.mp h with rfl | h
          · obtain ⟨m, q⟩ := hl₅; exact ⟨_, q⟩
          · exact ew₅.isW h
      have no₂ : ∀ b, (∃ o, s₅.heap.get? b = some o) → b ∉ wr₂ := fun b ⟨o, q⟩ h => by rw [hw₂ b h] at q; (have q_ := oNS q; clear q; exact q_.elim)
      have aD : ∃ o, s₅.heap.get? D = some o := al₅ D (by simp)
      have freshV : ∀ b ∈ (wr₂ ++ D :: W) ++ wr, s.heap.get? b = none := fun b hb => by
        rcases List.mem_append.mp hb with h | h
        · rcases List.mem_append.mp h with h | h
          · exact none_of_fresh kS₅ (hw₂ b h)
          · exact fresh b (List.mem_append_right _ h)
        · exact fresh b (List.mem_append_left _ h)
      have hV₂ : ∀ b ∈ (wr₂ ++ D :: W) ++ wr, b ∈ (wr ++ D :: W) ++ ([] : List Addr) ∨ b ∈ wr₂ := fun b hb => by
        rcases List.mem_append.mp hb with h | h
        · rcases List.mem_append.mp h with h | h
          · exact .inr h
          · exact .inl (by simp only [List.append_nil]; exact List.mem_append_right _ h)
        · exact .inl (by simp only [List.append_nil]; exact List.mem_append_left _ h)
      have VV₂ : ∀ b ∈ (wr ++ D :: W) ++ ([] : List Addr), b ∈ (wr₂ ++ D :: W) ++ wr := fun b hb => by
        rw [List.append_nil] at hb
        rcases List.mem_append.mp hb with h | h
        · exact List.mem_append_right _ h
        · exact List.mem_append_left _ (List.mem_append_right _ h)
      have nest := rl_nest (R := R) kS₅ k₇ al₅ hV₂
      have hWr₂ : ∀ b ∈ W, b ∉ wr₂ := fun b hb => no₂ b (ew₅.isW hb)
      have hDr₂ : D ∉ wr₂ := no₂ D aD
      have offW₂ : ∀ {h : Heap}, ∀ b ∈ W, Rl s R ((wr₂ ++ D :: W) ++ wr) h b = none := fun b hb => Reg.minus_off (by simp [hb])
      have l₅ : (Rl s R ((wr ++ D :: W) ++ []) s₅.heap).le (Rl s R ((wr₂ ++ D :: W) ++ wr) s₇.heap) := fun b o q =>
        nest b o (Reg.minus_some (no₂ b ⟨o, rl_on ro.on (Keeps.hle kS₅) b o q⟩) (Reg.ext_le (rl_on ro.on (Keeps.hle kS₅)) b o q))
      refine wpAny_bind (wpAny_runOwn ?_)
      rw [mark_none']
      have l1 : codeAny C.M A (.compLoop (.ListComp elt [⟨target, iter, ifs, 0⟩, ⟨target₂, iter₂, ifs₂, 0⟩] scope pos) 1 it₂ (.ref D) ce) (fun r s' => match r with | .ok _ => wpAny C.M A kk Q₁ E₁ s' | .error e => cameBackBy C.M A ce E₁ e s') s₇ := by
        refine comp_loopG (C := C) (elt := elt) (gens := [⟨target, iter, ifs, 0⟩, ⟨target₂, iter₂, ifs₂, 0⟩]) (scope := scope) (pos := pos) (depth := 1) (target := target₂) (iter := iter₂) (ifs := ifs₂) (sc := relab scope sc) (Δ := updAll (inner scope Δ) xs (tds a)) (s := s) (R := R) (s₁ := s₇) (W := W) (X := wr) (ys₀ := ys) (M := 1000) (g := fun b => [f a b]) (p := p₂ a) (xs := xs₂) (tds := tds₂) (wr := wr₂) (INS := fun kk => ((do let _ ← call (.builtin "list.append") [.ref D, ← eval elt ce]) : Sem Unit) >>= fun _ => kk) rfl rm ro kS₇ It₂ trivial st₂ nest freshV hDr₂ hDW hWr₂ (fun x c q h => ?_) (fun b hb => ⟨?_, ?_⟩) (hl₅.at fun o q => Keeps.hle k₇ _ _ q) (ew₅.keeps (Keeps.hle k₇) l₅ offW₂) (fun x hx => hS x (List.mem_append_right _ hx)) (hfr₂ a ha) (hT₂ a ha) (ht₂ a ha) ?_ ?_ ?_
        · obtain ⟨v, o, q1, q2⟩ := ew₅.calive x c q
          exact no₂ c ⟨_, q1⟩ h
        · intro h
          rcases List.mem_append.mp h with h | h
          · exact no₂ b (al₅ b (by simp [hb])) h
          · rcases List.mem_cons.mp h with rfl | h
            · exact hDr hb
            · exact hWr b h hb
        · obtain ⟨o, q⟩ := al₅ b (by simp [hb])
          exact ⟨o, Keeps.hle k₇ _ _ q⟩
        · intro i
          have h1 := List.length_filter_le (p₂ a) ((L₂ a).take i)
          have h2 : (((L₂ a).take i).filter (p₂ a)).length ≤ ((L₂ a).filter (p₂ a)).length := ((List.take_sublist i (L₂ a)).filter _).length_le
          simp only [List.length_map] at hz
          simp only [List.length_flatMap, List.map_const', List.length_cons, List.length_nil, List.sum_replicate_nat]
          omega
        · intro b hb hp₂ s₈ ys₈ kS₈ ew₈ hl₈ hz₈ hal₈ kk' Q' E' hQ'
          refine wpAny_bind (noE (ins_emit rm ro freshV (by simp) (fun x hx => by simp [hx]) hDW hcD (fun x hx => ?_) kS₈ ew₈ hl₈ (Nat.le_trans (Nat.le_trans (Nat.le_add_right _ _) hz₈) (by decide)) (he a ha b hb hp₂)) fun _ s₉ h₉ => hQ' s₉ h₉)
          rcases List.mem_append.mp hx with h | h
          · rcases List.mem_append.mp h with h | h
            · exact hal₈ x (List.mem_append_left _ h)
            · rcases List.mem_cons.mp h with rfl | h
              · obtain ⟨m, q⟩ := hl₈; exact ⟨_, q⟩
              · exact ew₈.isW h
          · exact hal₈ x (List.mem_append_right _ h)
        · intro s' new kS₈ kb hl hr ew
          have up : (Rl s R ((wr₂ ++ D :: W) ++ wr) s'.heap).le (Rl s R ((wr ++ D :: W) ++ []) s'.heap) := fun x o q => by
            have h1 : x ∉ (wr₂ ++ D :: W) ++ wr := fun w => by rw [show Rl s R ((wr₂ ++ D :: W) ++ wr) s'.heap x = none from Reg.minus_off w] at q; (have q_ := oNS q; clear q; exact q_.elim)
            exact Reg.minus_some (fun w => h1 (VV₂ x w)) (Reg.minus_le x o q)
          refine hQ₁ s' ⟨?_, new, hl, ?_, ew.keeps (hle.refl _) up (fun x hx => Reg.minus_off (by simp [hx]))⟩
          · obtain ⟨h, t, e, q⟩ := (KeepsBut.of (W := wr₂ ++ D :: W) k₇).tr kb
            exact ⟨h, t, e, fun b o hb w => q b o (fun m => (List.mem_append.mp m).elim (no₂ b ⟨o, w⟩) hb) w⟩
          · rw [List.map_eq_flatMap]
            exact hr.mono up
      refine compStart_at1 l1 (It₂.self A 0 _ _ _ st₂ l1)
    · intro s' new kS kb hl hr ew
      have hns := ew.ns
      rw [hloc'] at hns
      have hCW : cenv.locals ∈ W := hLW
      have hDC : D ≠ cenv.locals := fun h => hDW (h ▸ hCW)
      obtain ⟨nn, ho⟩ := hl
      have ho' : s'.heap.get? D = some { cls := .type "list", data := .seq (new.toArray) nn } := by rw [ho]; simp
      refine hQ D cenv.locals s' kS (fresh _ (by simp [hCW])) hDs hDC hns ⟨_, nn, _, ho', ⟨rfl, rfl⟩, rfl, hr.mono fun a o e => ?_⟩
      have hn : a ∉ (wr ++ D :: W) ++ ([] : List Addr) := fun w => by rw [show Rl s R ((wr ++ D :: W) ++ []) s'.heap a = none from Reg.minus_off w] at e; (have q_ := oNS e; clear e; exact q_.elim)
      refine Reg.minus_some (fun h => hn ?_) (Reg.minus_le a o e)
      rcases List.mem_cons.mp h with rfl | h
      · simp [hCW]
      · rw [List.mem_singleton.mp h]; simp
  exact codeAny_compStart_list l0 (It.self A 0 _ _ _ st' l0)
theorem ev_lc2 {α β : Type} {C : Cx} {n : Nat} {sc scope : Scope} {Δ : Vars} {L : List α} {enc : α → Dat} {tds : α → List Dat} {p : α → Bool} {L₂ : α → List β} {enc₂ : β → Dat} {tds₂ : β → List Dat} {p₂ : α → β → Bool} {f : α → β → Dat} {elt target iter target₂ iter₂ : Expr} {ifs ifs₂ : List Expr} {pos : Pos} (xs xs₂ : List Str)
    (hit : EvIt C n sc Δ iter (L.map enc)) (hc : compOkB sc scope Δ (xs ++ xs₂) = true)
    (hT : ∀ a ∈ L, Tgt target (enc a) xs (tds a)) (ht : ∀ a ∈ L, EvTs C n (relab scope sc) (updAll (inner scope Δ) xs (tds a)) ifs (p a))
    (hit₂ : ∀ a ∈ L, p a = true → EvIt C n (relab scope sc) (updAll (inner scope Δ) xs (tds a)) iter₂ ((L₂ a).map enc₂))
    (hT₂ : ∀ a ∈ L, ∀ b ∈ L₂ a, Tgt target₂ (enc₂ b) xs₂ (tds₂ b)) (ht₂ : ∀ a ∈ L, ∀ b ∈ L₂ a, EvTs C n (relab scope sc) (updAll (updAll (inner scope Δ) xs (tds a)) xs₂ (tds₂ b)) ifs₂ (p₂ a b))
    (he : ∀ a ∈ L, ∀ b ∈ L₂ a, p₂ a b = true → Ev C n (relab scope sc) (updAll (updAll (inner scope Δ) xs (tds a)) xs₂ (tds₂ b)) elt (f a b))
    (hfr : ∀ x ∈ xs, inner scope Δ x = none) (hfr₂ : ∀ a ∈ L, ∀ x ∈ xs₂, updAll (inner scope Δ) xs (tds a) x = none)
    (hM : (L.flatMap fun a => (L₂ a)).length ≤ 1000)
    (hs : ∀ env x, foldedSetIterable iter env x = pure x := by intro _ _; rfl) (hs₂ : ∀ env x, foldedSetIterable iter₂ env x = pure x := by intro _ _; rfl) :
    Ev C n sc Δ (.ListComp elt [⟨target, iter, ifs, 0⟩, ⟨target₂, iter₂, ifs₂, 0⟩] scope pos) (.lst ((L.filter p).flatMap fun a => ((L₂ a).filter (p₂ a)).map (f a))) := by
  intro A env s R rm ro eo
  rw [eval_ListComp]
  refine comp2_run (use := none) xs xs₂ rm ro eo hit hc hT ht hit₂ hT₂ ht₂ he hfr hfr₂ hM (hs env) hs₂ fun D C' s' kS hC hD hne hns hl => ?_
  obtain ⟨m, hm⟩ := hns
  obtain ⟨o, nn, ys, ho, hcl, hd, hr⟩ := hl
  refine ⟨m, hm, fun h' hs' => ?_⟩
  have kb : KeepsBut [C'] s' { s' with heap := h' } := ⟨h', s'.toks, rfl, fun b o hb e => hs'.extBut b o (by simpa using hb) e⟩
  have kS' := kb.keeps kS fun a ha => by rw [List.mem_singleton.mp ha]; exact hC
  refine ⟨kS', .lst (Reg.new_ext hD (hs'.extBut D o hne ho)) hcl (by rw [hd]) (hr.mono fun a o e => ?_)⟩
  have hn : a ≠ C' := fun h => by rw [h, Reg.minus_off (by simp)] at e; (have q_ := oNS e; clear e; exact q_.elim)
  have e' := Reg.minus_le a o e
  simp only [Reg.ext] at e' ⊢
  split at e'
  · exact e'
  · exact hs'.extBut a o hn e'
end Mine
end
noncomputable section
open PySem PySem.W PyProof.Rows PySem.SeqAt PySem.MeetsSeq
set_option Elab.async false
set_option autoImplicit false
set_option maxRecDepth 100000
namespace Mine
noncomputable abbrev encI (l : List Int) : Dat := .lst (l.map Dat.int)
section
variable {C : Cx} (B : Base C (K3 C))
include B
theorem g_enum : GlobIs C (Str.ofString "enumerate") (.type "enumerate") := glob_bui B (by kernel_rfl!) (by decide +kernel) (by decide +kernel)
theorem g_zip : GlobIs C (Str.ofString "zip") (.type "zip") := glob_bui B (by kernel_rfl!) (by decide +kernel) (by decide +kernel)
theorem g_list : GlobIs C (Str.ofString "list") (.type "list") := glob_bui B (by kernel_rfl!) (by decide +kernel) (by decide +kernel)
theorem g_reduce : GlobIs C (Str.ofString "reduce") (.ref 150) := glob_own B (by kernel_rfl!)
theorem g_cycle : GlobIs C (Str.ofString "CycleError") (.ref 55) := glob_own B (by kernel_rfl!)
end
noncomputable def bases3 : List Int := [45, 26, 95, 53, 121, 9, 35, 6, 33, 23, 21, 3]
noncomputable def cells3 (ns : List Int) : List Int := bases3.zipIdx.map fun p => p.1 + (pickL ns (some (p.2 : Int)) none (some 12)).sum
section
variable {C : Cx} (B : Base C (K3 C))
include B
theorem cells_spec {ns : List Int} (hl : ns.length ≤ sizeLine) : CallOp C 5 (.ref 155) [encI ns] (encI (cells3 ns)) := by
  have f := fnOk (xs := [Str.ofString "figures"]) B (a := 155) rfl (by kernel_rfl!) rfl (by kernel_rfl!) (bind1 (fun _ => by kernel_rfl!))
  with_reducible refine callop_fn (n := 4) f (by simp) ?_
  intro A env W s₀ s R hsc rm F
  clear hsc
  dsimp only at F
  with_reducible refine cps fun Q hQ => ?_
  with_reducible refine st_assign (d := .tup (bases3.map Dat.int)) F rm (ev_lit 3 ?_) (fun s₁ R₁ l₁ F₁ => ?_) ?_ ?_
  · kernel_rfl!
  rotate_left
  · rfl
  · exact Or.inl rfl
  refine st_ret (d := encI (cells3 ns)) F₁ rm (Ev.cast (ev_compT (L := bases3.zipIdx) (enc := fun p => .tup [.int (p.2 : Int), .int p.1]) (tds := fun p => [.int (p.2 : Int), .int p.1]) (p := fun _ => true) (f := fun p => .int (p.1 + (pickL ns (some (p.2 : Int)) none (some 12)).sum)) [Str.ofString "place", Str.ofString "base"] TupT ?_ ⟨_, _, _, rfl⟩ (CompOk.of (by kernel_rfl!)) (fun e _ => ⟨rfl, rfl, [_, _], rfl, rfl⟩) (fun _ _ => rfl) (fun p hp _ => ?_) (by rw [sizeLine_val]; decide)) (by rw [filter_tt, encI, cells3, List.map_map]; rfl)) fun s₂ R₂ w l₂ F₂ hw => ?_
  · exact evIt_enum (ds := bases3.map Dat.int) (ev_glob (g_enum B.at) rfl) (ev_name rfl)
  · exact ev_bin (ev_name rfl) (ev_callb (ev_glob (g_sum B.at) rfl) (evAll_cons (ev_every (l := ns) (g := Dat.int) (ev_name rfl) (ev_name rfl) ev_int (by decide) hl) evAll_nil) call_sum) op_add
  · exact hQ _ _ ⟨w, rfl, F₂.post hw⟩
end
end Mine
end
noncomputable section
open PySem PySem.W PyProof.Rows PySem.SeqAt PySem.MeetsSeq
set_option Elab.async false
set_option autoImplicit false
set_option maxRecDepth 100000
namespace Mine
theorem RdAll.ofNats {R R' : Reg} : ∀ {vs : List Value} {l : List Nat}, RdAll R vs (encN l) → RdAll R' vs (encN l)
  | _, [], h => by (have q_ := RdAll.nilE h; clear h; subst q_); exact .nil
  | _, k :: l, h => by
    cases h with
    | cons h r => (have q_ := Rd.intE h; clear h; obtain ⟨_, rfl⟩ := q_); exact .cons (.int _ _) (RdAll.ofNats r)
noncomputable def Srt.withq (Z : Srt) (D : Addr) : Srt := { Z with q := D, role := fun a => if a = D then .q else Z.role a }
theorem SAt.newq {C : Cx} {cT cN : Addr} {M : Reg} {Z : Srt} {σ : Sd} {D : Addr} {ys : List Value} {m n : Nat} {l : List Nat} {h : Nat → Int} {t : Nat → Tok} (S : SAt C cT cN M Z σ) (hrd : σ.rd = none) (hD : M D = none) (hys : RdAll noM ys (encN l)) :
    SAt C cT cN ((M.set D (lstObj ys m)).set Z.d (dictOf (sEnts Z (.ref D) σ.po σ.nf h t) n)) (Z.withq D) { σ with rd := some l } := by
  have ne : ∀ {a x}, Z.role a = x → x ≠ .d → a ≠ Z.d := fun ha hx => role_ne ha S.rd hx
  have nD : ∀ {a : Addr} {o : Obj}, M a = some o → a ≠ D := fun {a o} e q => by rw [q, hD] at e; (have q_ := oNS e; clear e; exact q_.elim)
  obtain ⟨hh, tt, nn, ed⟩ := S.d
  have g : ∀ {a : Addr} {x : Role} {o : Obj}, Z.role a = x → x ≠ .d → M a = some o → ((M.set D (lstObj ys m)).set Z.d (dictOf (sEnts Z (.ref D) σ.po σ.nf h t) n)) a = some o := fun ha hx e => by
    rw [Reg.set_ne _ _ (ne ha hx), Reg.set_ne _ _ (nD e)]; exact e
  have rr : ∀ {a : Addr} {o : Obj}, M a = some o → (Z.withq D).role a = Z.role a := fun e => by simp [Srt.withq, nD e]
  exact { s := g S.rs (by simp) S.s
          d := ⟨h, t, n, Reg.set_self _ _ _⟩
          D := let ⟨o, e, r⟩ := S.D; ⟨o, g S.rD (by simp) e, r⟩
          inf := fun k hk => let ⟨t, u, e⟩ := S.inf k hk; ⟨t, u, g (S.rinf k hk) (by simp) e⟩
          emp := fun k hk => g (S.remp k hk) (by simp) (S.emp k hk)
          suc := fun k hk => let ⟨vs, n, e, r⟩ := S.suc k hk; ⟨vs, n, g (S.rsuc k hk) (by simp) e, r⟩
          q := fun l' hl => by
            (have q_ := oSS hl; clear hl; subst q_)
            refine ⟨ys, m, ?_, hys⟩
            show ((M.set D (lstObj ys m)).set Z.d _) D = _
            rw [Reg.set_ne _ _ (nD ed).symm, Reg.set_self]
          rs := (rr S.s).trans S.rs
          rd := (rr ed).trans S.rd
          rD := let ⟨o, e, r⟩ := S.D; (rr e).trans S.rD
          rq := fun _ => by simp [Srt.withq]
          rinf := fun k hk => let ⟨t, u, e⟩ := S.inf k hk; (rr e).trans (S.rinf k hk)
          remp := fun k hk => (rr (S.emp k hk)).trans (S.remp k hk)
          rsuc := fun k hk => let ⟨vs, n, e, r⟩ := S.suc k hk; (rr e).trans (S.rsuc k hk)
          nod := S.nod
          sm := S.sm
          len := S.len }
theorem ev_join1 {C : Cx} {n : Nat} {sc : Scope} {Δ : Vars} {e : Expr} {p : Pos} {d : Dat} (h : Ev C n sc Δ e d) : Ev C n sc Δ (.JoinedStr [e] p) d := fun A env s R rm ro eo => PyProof.Rows.JoinedStr_one (h A env s R rm ro eo)
theorem ns_of {K : Frag} {h : Heap} {N : Addr} {c : Value} {d : Option Addr} {es : Array DictEntry} {ep : Nat} {sl : Array (Option Value)} (X : K.In h) (q : K.lookup N = some ⟨c, d, .dict es ep, sl⟩) (hs : es.toList.all (fun e => match e.key with | .str .. => true | _ => false) = true) : h.Ns N (nsFind es) := by
  refine ⟨_, es, ep, X _ _ q, rfl, fun e he => ?_, fun _ => rfl⟩
  have := List.all_eq_true.mp hs e (by simpa using he)
  cases hk : e.key <;> rw [hk] at this <;> first | exact ⟨_, _, rfl⟩ | cases this
section
variable {C : Cx} (B : Base C (K3 C)) {Z : Srt} {σ : Sd}
include B
theorem cycle_cls : ∃ nm qn Ns bs hdct sn sub ab col dd k0 k1 k2 k3 k5 mN, C.h₀.get? 55 = some (excClassObj nm qn 55 Ns bs [.type "ValueError", .type "Exception", .type "BaseException", .type "object"] hdct sn sub ab col dd k0 k1 k2 k3 k5 "ValueError.__new__") ∧ C.h₀.Ns Ns mN ∧ mN "__init__" = none := by
  refine ⟨_, _, 54, _, _, _, _, _, _, _, _, _, _, _, _, _, B.K 55 _ rfl, ns_of B.K (N := 54) rfl (by kernel_rfl!), by kernel_rfl!⟩
theorem prep_spec (hrd : σ.rd = none) (hsu : ∀ k ∈ σ.ks, ∀ j ∈ σ.su k, j ∈ σ.ks) : XFCall C aT aN 3 aPrep [] Z σ (.ref 55)
    (fun Z' σ' d => σ' = { σ with rd := some (σ.ks.filter fun k => decide (σ.np k = 0)) } ∧ d = .none ∧ ∃ r : Nat → Nat, ∀ k ∈ σ.ks, ∀ j ∈ σ.su k, r k < r j)
    (fun Z' σ' => σ' = { σ with rd := some (σ.ks.filter fun k => decide (σ.np k = 0)) } ∧ ∃ S : List Nat, S ≠ [] ∧ (∀ k ∈ S, k ∈ σ.ks) ∧ ∀ k ∈ S, ∃ a ∈ S, k ∈ σ.su a) := by
  refine xfcall_fn (xs := [Str.ofString "self"]) (es := [.val (.ref Z.s)]) (fnC B rfl (by kernel_rfl!) rfl (by kernel_rfl!)) rfl (fun R s vs ro _ hr => by (have q_ := RdAll.nilE hr; clear hr; subst q_); exact bnd_plain ro (by kernel_rfl!) (.cons (.val _) .nil)) ?_
  intro A Out env W s₀ s R R₁ Mu hsc hf hfr Lv up dis rm F S
  clear hsc
  dsimp only at F
  refine cps fun Q hQ => ?_
  obtain ⟨h, t, n, hd⟩ := S.d
  have hrv : rdV Z σ.rd = .none := by rw [hrd]; rfl
  rw [hrv] at hd
  refine st_if F rm (evT_cmp (ev_own B.at (k_rdy _) (ev_name rfl) S.s hd look_rdy) ev_none op_isnot_none) fun s₁ R₂ l₁ F₁ => ?_
  refine st_nil ?_
  obtain ⟨od, hD, hdo⟩ := S.D
  have hcast : (nodePairs σ.ks Z.inf).map (fun kv => Dat.val kv.2) = σ.ks.map fun (k : Nat) => Dat.val (.ref (Z.inf k)) := by simp [nodePairs]
  refine wpAny_execs_cons (plainObj_wpAny_Assign_Attribute (F₁.lcM (L := σ.ks) (enc := fun k => Dat.val (.ref (Z.inf k))) (tds := fun k => [Dat.val (.ref (Z.inf k))]) (p := fun k => decide (σ.np k = 0)) (f := fun k => Dat.int (k : Int)) [Str.ofString "i"] rm
    (hcast ▸ evIt_values (ev_own B.at (k_n2i _) (ev_name rfl) S.s hd look_n2i) hD hdo S.sm) rfl (fun _ _ => ⟨rfl, rfl⟩) (fun k hk => ?_) (fun k hk _ => ?_) (by rw [sizeLine_val]; have := S.len; omega) fun s₂ R₃ D ys m l₂ hD0 hys F₂ => ?_) rfl)
  · obtain ⟨t', u', hin⟩ := S.inf k hk
    exact (show (σ.np k == 0) = decide (σ.np k = 0) from rfl) ▸ evT_cmp (Ev.asInt (ev_slot B.at (k_np _) (ev_name rfl) hin (S.emp k hk) rfl)) ev_int op_eq_int
  · obtain ⟨t', u', hin⟩ := S.inf k hk
    exact Ev.asInt (ev_slot B.at (k_node _) (ev_name rfl) hin (S.emp k hk) rfl)
  · have mD := F₁.noMu hD0
    have nD : ∀ {a : Addr} {o : Obj}, Mu a = some o → a ≠ D := fun {a o} e q => by rw [q, mD] at e; (have q_ := oNS e; clear e; exact q_.elim)
    have hx₂ : (Mu.set D (lstObj ys m)) Z.s = some (insObj aT Z.d #[]) := by rw [Reg.set_ne _ _ (nD S.s)]; exact S.s
    have hd₂ : (Mu.set D (lstObj ys m)) Z.d = some (dictOf (sEnts Z .none σ.po σ.nf h t) n) := by rw [Reg.set_ne _ _ (nD hd)]; exact hd
    refine F₂.ev rm (d := .val (.ref Z.s)) (ev_name rfl) fun ov s₃ R₄ l₃ k₃ hov F₃ => ?_
    (have q_ := Rd.valE hov; clear hov; subst q_)
    have r₃ := F₃.rom
    have O := k_rdy C
    refine setA_own (B.ins r₃.hle0) (r₃.mu _ _ hx₂) (r₃.mu _ _ hd₂) O.set O.over O.take O.dict (by rw [getL_rdy]; rfl) rfl (by rw [put_rdy, sEnts_len]; omega) fun h' hsb hg => ?_
    have F₄ := F₃.mut (tk := s₃.toks + 2) hd₂ (fun _ q => nomatch q) hsb hg
    rw [put_rdy] at F₄
    have S₄ := S.newq (m := m) (n := (putN (Str.ofString "_ready_nodes") (sEnts Z .none σ.po σ.nf h t) n)) (h := h) (t := t) hrd mD (RdAll.ofNats (R' := noM) hys)
    obtain ⟨h₄, t₄, n₄, hd₄⟩ := S₄.d
    generalize hM₄ : ((Mu.set D (lstObj ys m)).set Z.d (dictOf (sEnts Z (.ref D) σ.po σ.nf h t) (putN (Str.ofString "_ready_nodes") (sEnts Z .none σ.po σ.nf h t) n)) : Reg) = M₄ at F₄ S₄ hd₄
    change Reg at M₄
    have offM : ∀ b, b ≠ D → b ≠ Z.d → M₄ b = Mu b := fun b h1 h2 => by rw [← hM₄, Reg.set_ne _ _ h2, Reg.set_ne _ _ h1]
    have frd : ∀ b ∈ frs Out, b ≠ D ∧ b ≠ Z.d := fun b hb => by
      obtain ⟨o, e, _⟩ := Lv.obj hb
      exact ⟨nD e, fun q => dis b hb (q ▸ Srt.mem_all.mpr (.inr (.inl rfl)))⟩
    have U₄ : UpTo (frs Out) Mu M₄ := .of fun b hb o e => by rw [offM b (frd b hb).1 (frd b hb).2]; exact e
    have memZ : ∀ a, a ∈ (Z.withq D).all { σ with rd := some (σ.ks.filter fun k => decide (σ.np k = 0)) } → a ∈ Z.all σ ∨ a = D := fun a ha => by
      rcases Srt.mem_all.mp ha with h | h | h | ⟨_, h⟩ | h
      · exact .inl (Srt.mem_all.mpr (.inl h))
      · exact .inl (Srt.mem_all.mpr (.inr (.inl h)))
      · exact .inl (Srt.mem_all.mpr (.inr (.inr (.inl h))))
      · exact .inr h
      · exact .inl (Srt.mem_all.mpr (.inr (.inr (.inr (.inr h)))))
    have memZ' : ∀ a, a ∈ Z.all σ → a ∈ (Z.withq D).all { σ with rd := some (σ.ks.filter fun k => decide (σ.np k = 0)) } := fun a ha => by
      rcases Srt.mem_all.mp ha with h | h | h | ⟨q, h⟩ | h
      · exact Srt.mem_all.mpr (.inl h)
      · exact Srt.mem_all.mpr (.inr (.inl h))
      · exact Srt.mem_all.mpr (.inr (.inr (.inl h)))
      · exact absurd hrd q
      · exact Srt.mem_all.mpr (.inr (.inr (.inr (.inr h))))
    show wpAny C.M A (execs _ env) _ _ _
    refine st_set F₄ (F₄.fmeth0 (Z := Z.withq D) rm B (k_cyc C) hfr hf (Lv.up U₄) (fun b hb hz => ?_) S₄ hd₄ look_cyc (ev_name rfl) (find_spec B hsu) fun v s' R' Mu' Z' σ' d hP hs l hv F' S' hn ho hoff hup => ?_)
    · rcases memZ b hz with q | q
      · exact dis b hb q
      · exact (frd b hb).1 q
    · obtain ⟨rfl, rfl, hfv⟩ := hP
      refine ⟨R', Mu', _, F', hv, fun s₆ F₆ => ?_⟩
      have hnew : ∀ b ∈ (Z.withq D).all { σ with rd := some (σ.ks.filter fun k => decide (σ.np k = 0)) }, b ∈ Z.all σ ∨ s₀.heap.get? b = none := fun b hb => by
        rcases memZ b hb with q | q
        · exact .inl q
        · exact .inr (q ▸ F₁.dead hD0)
      rcases hfv with ⟨rfl, hrank⟩ | ⟨ds, rfl, hne, hlen, hring⟩
      · refine st_if F₆ rm (evT_plain (b := false) (ev_name rfl) fun A s R v rm ro hv => ?_) fun s₇ R₇ l₇ F₇ => ?_
        · (have q_ := Rd.noneE hv; clear hv; subst q_)
          exact PyProof.Rows.truthy_none ⟨Keeps.rfl' _, rfl⟩
        · exact st_nil (st_nil (hQ _ _ ⟨R₇, Mu', _, _, _, .none, F₇, U₄.trans hup, S', ⟨rfl, rfl, hrank⟩, rfl, hnew, memZ', .none⟩))
      · refine st_if F₆ rm (b := true) (evT_plain (b := true) (ev_name rfl) fun A s R v rm ro hv => ?_) fun s₇ R₇ l₇ F₇ => ?_
        · obtain ⟨l, rfl⟩ := hv.lst_ref
          obtain ⟨vs, hl, hr⟩ := hv.isList ro.on
          refine wpAny_truthy_list hl (by have := hr.length; simp; omega) ⟨Keeps.toks _ _, ?_⟩
          cases vs with
          | nil => cases hr; exact absurd rfl hne
          | cons _ _ => simp
        · obtain ⟨nm, qn, Ns, bs, hdct, sn, sub, ab, col, dd, k0, k1, k2, k3, k5, mN, hC, hN, hni⟩ := cycle_cls B
          refine st_raise2 F₇ rm PySem.F.excBase_ValueError (ev_glob (g_cycle B.at) rfl) hC hN hni (ev_join1 ev_str) (ev_name rfl) fun s₈ R₈ h' e F₈ hk he hex => ?_
          have hlk : ∀ a o, (Mu'.minus (frs Out)) a = some o → s₈.heap.get? a = some o := fun a o q => (F₈.mu a o (Reg.minus_le a o q)).1
          have hnone : ∀ K : Reg, (∀ a o, K a = some o → s₈.heap.get? a = some o) → K e = none := fun K hK => by
            cases q : K e with
            | none => rfl
            | some o => rw [hK e o q] at he; (have q_ := oSN he; clear he; exact q_.elim)
          refine ⟨Z.withq D, _, Mu'.minus (frs Out), ⟨rfl, hring⟩, rfl, S'.on fun b o hb eb => Reg.minus_some (fun hf' => ?_) eb, hnew, memZ', e, .none, rfl, F₈.dead he, hnone _ hlk, F₈.keep.tr ⟨h', _, rfl, fun b o _ eb => hk b o eb⟩, fun a ha o ea => ?_, (F₈.live hf (Lv.up (U₄.trans hup))).up (.of fun a _ o ea => hk a o ea), fun a o ea => hk a o (hlk a o ea), fun a ha => ?_, hex⟩
          · rcases memZ b hb with q | q
            · exact dis b hf' q
            · exact (frd b hf').1 q
          · obtain ⟨sl, q⟩ := (up.trans (U₄.trans hup)) a ha o ea
            exact ⟨sl, hk _ _ (F₈.mu _ _ q).1⟩
          · rw [frs_cons hf] at ha
            cases q : (Mu'.minus (frs Out)) a with
            | none => rfl
            | some o =>
              rcases List.mem_cons.mp ha with ha | ha
              · exact absurd (ha ▸ F₈.ew.locW) (F₈.mu a o (Reg.minus_le a o q)).2.2.1
              · simp only [Reg.minus, ha, if_true] at q; (have q_ := oNS q; clear q; exact q_.elim)
end
end Mine
end
noncomputable section
open PySem PySem.W PyProof.Rows PySem.SeqAt PySem.MeetsSeq
set_option Elab.async false
set_option autoImplicit false
set_option maxRecDepth 100000
namespace Mine
section
variable {C : Cx} (B : Base C (K3 C)) {Z : Srt} {σ : Sd}
include B
theorem done_spec {l : List Nat} {k : Nat} (hrd : σ.rd = some l) (hk : k ∈ σ.ks) (hnp : σ.np k = -1) (hsu : ∀ j ∈ σ.su k, j ∈ σ.ks ∧ j ≠ k) (hz : l.length + (σ.su k).length ≤ 1000) :
    SCall C aT aN 2 aDone [.int (k : Int)] Z σ (fun Z' σ' d => Z' = Z ∧ σ' = { σ with np := (doneS σ l k).1, rd := some (doneS σ l k).2, nf := σ.nf + 1 } ∧ d = .none) := by
  refine scall_fn (xs := [Str.ofString "self", Str.ofString "nodes"]) (es := [.val (.ref Z.s), .tup [.int (k : Int)]]) (fnC B rfl (by kernel_rfl!) rfl (by kernel_rfl!)) rfl (fun R s vs ro _ hr => by
    have q_ := RdAll.consE hr
    clear hr
    obtain ⟨_, _, rfl, h, r⟩ := q_
    next =>
      (have q_ := RdAll.nilE r; clear r; subst q_)
      exact bnd_star (vs := [.ref Z.s]) (us := [_]) (ds := [.val (.ref Z.s)]) ro (by kernel_rfl!) (.cons (.val _) .nil) (.cons h .nil) (by rw [sizeLine_val]; simp)) ?_
  intro A env W s₀ s R R₁ Mu hsc rm F S
  refine cps fun Q hQ => ?_
  obtain ⟨h, t, n, hd⟩ := S.d
  have hrv : rdV Z σ.rd = .ref Z.q := by rw [hrd]; rfl
  rw [hrv] at hd
  refine st_if F rm (evT_cmp (ev_own B.at (k_rdy _) (ev_name rfl) S.s hd look_rdy) ev_none op_is_none) fun s₁ R₂ l₁ F₁ => ?_
  refine st_nil ?_
  refine st_assign F₁ rm (ev_own B.at (k_n2i _) (ev_name rfl) S.s hd look_n2i) fun s₂ R₃ l₂ F₂ => ?_
  obtain ⟨tk, gout⟩ := g_out B
  obtain ⟨tk', gdone⟩ := g_ndone B
  refine st_for (L := [k]) (enc := fun k => Dat.int (k : Int)) (tds := fun k => [.int (k : Int)]) [Str.ofString "node"] (Z.all σ) (fun _ => ofL [(Str.ofString "self", .val (.ref Z.s)), (Str.ofString "n2i", .val (.ref Z.D))])
    (fun i _ M => SAt C aT aN M Z (if i = 0 then σ else { σ with np := (doneS σ l k).1, rd := some (doneS σ l k).2, nf := σ.nf + 1 })) F₂ rm (evIt_tup (ev_name rfl)) (AllIn.le ⟨rfl, rfl, trivial⟩) (fun a ha => let ⟨o, e, _⟩ := S.obj ha; ⟨o, e⟩) (by decide +kernel) (fun a _ => ⟨rfl, rfl⟩)
    (fun i R R' M M' hJ _ he => hJ.on fun a o ha e => (he a (by
      split at ha
      · exact ha
      · rwa [Srt.all_same (σ := σ) (by rfl) (by rw [hrd]; rfl)] at ha)).trans e) (S.to (by simp)) ?_ ?_
  · intro i k' s₃ R₄ M₃ hi l₃ hk₃ F₃ hJ
    refine cps fun Qf hQf => ?_
    have hi0 : i = 0 ∧ k' = k := by
      rcases i with _ | i
      · simp at hi; exact ⟨rfl, hi.symm⟩
      · simp at hi
    obtain ⟨rfl, rfl⟩ := hi0
    simp only [if_true] at hJ
    obtain ⟨od, hD, hdo⟩ := hJ.D
    obtain ⟨t', u', hin⟩ := hJ.inf k' hk
    refine st_if_walrus F₃ rm (Ev.cast (d' := .val (.ref (Z.inf k'))) (ev_dget (ev_name rfl) (ev_name rfl) hD hdo hJ.sm) (by rw [hJ.node hk]; rfl)) fun s₄ R₅ l₄ F₄ => ?_
    refine st_nil ?_
    refine st_assign F₄ rm (Ev.cast (d' := .int (-1)) (Ev.asInt (ev_slot B.at (k_np _) (ev_name rfl) hin (hJ.emp k' hk) rfl)) (by rw [hnp])) fun s₅ R₆ l₅ F₅ => ?_
    refine st_if F₅ rm (evT_cmp (ev_name rfl) (Ev.asInt (ev_glob (C := C.at M₃) gout rfl)) op_ne_int) fun s₆ R₇ l₆ F₆ => ?_
    refine st_nil ?_
    refine st_slot B (k_np _) F₆ rm (ev_name rfl) (ev_glob (C := C.at M₃) gdone rfl) hin (hJ.emp k' hk) fun s₇ R₈ v l₇ hv F₇ => ?_
    (have q_ := Rd.valE hv; clear hv; subst q_)
    have S₇ := hJ.setnp hk (t := t') (u := tk') (x := -2)
    generalize hM : M₃.set (Z.inf k') (nodeObj aN (Z.emp k') k' t' (-2) tk' (Z.suc k')) = M₇ at S₇
    change Fra C s₀ R (Z.all σ) _ env W s₇ R₈ (M₃.set (Z.inf k') (nodeObj aN (Z.emp k') k' t' (-2) tk' (Z.suc k'))) _ at F₇
    rw [hM] at F₇
    have hm : ∀ {a x}, a ∈ Z.all σ → Z.role a = x → x ≠ .inf k' → x ≠ .emp k' → x ≠ .suc k' → a ∈ (Z.all σ).filter fun a => decide (a ≠ Z.inf k' ∧ a ≠ Z.emp k' ∧ a ≠ Z.suc k') := fun {a x} ha hr h1 h2 h3 => List.mem_filter.mpr ⟨ha, decide_eq_true ⟨role_ne hr (S.rinf k' hk) h1, role_ne hr (S.remp k' hk) h2, role_ne hr (S.rsuc k' hk) h3⟩⟩
    generalize hT : ((Z.all σ).filter fun a => decide (a ≠ Z.inf k' ∧ a ≠ Z.emp k' ∧ a ≠ Z.suc k')) = T at hm
    have hTs : ∀ a ∈ T, a ∈ Z.all σ := fun a ha => by rw [← hT] at ha; exact (List.mem_filter.mp ha).1
    have hoff : ∀ a, (a = Z.inf k' ∨ a = Z.emp k' ∨ a = Z.suc k') → a ∉ T := fun a h ha => by
      rw [← hT] at ha
      have := of_decide_eq_true (List.mem_filter.mp ha).2
      rcases h with h | h | h
      · exact this.1 h
      · exact this.2.1 h
      · exact this.2.2 h
    obtain ⟨t₇, u₇, hin₇⟩ := S₇.inf k' hk
    obtain ⟨vs₇, m₇, hs₇, hr₇⟩ := S₇.suc k' hk
    have hall : ∀ a ∈ Z.all σ, ∃ o, M₇ a = some o := fun a ha => let ⟨o, e, _⟩ := S₇.obj ha; ⟨o, e⟩
    generalize hst : (fun i : Nat => ((σ.su k').take i).foldl relaxStep (fun i => if i = k' then -2 else σ.np i, l)) = st
    have st0 : st 0 = (fun i => if i = k' then -2 else σ.np i, l) := by rw [← hst]; rfl
    have stl : ∀ i, (st i).2.length ≤ l.length + (σ.su k').length := fun i => by
      rw [← hst]
      refine Nat.le_trans (relax_len _ _) ?_
      simp; omega
    have stS : ∀ i j, (σ.su k')[i]? = some j → st (i + 1) = relaxStep (st i) j := fun i j hi => by
      rw [← hst]
      have htk : (σ.su k').take (i + 1) = (σ.su k').take i ++ [j] := by rw [List.take_add_one, hi]; rfl
      simp only [htk, List.foldl_append, List.foldl_cons, List.foldl_nil]
    have stE : st (σ.su k').length = doneS σ l k' := by rw [← hst]; simp only [List.take_length]; rfl
    refine st_for (L := σ.su k') (enc := fun k => Dat.int (k : Int)) (tds := fun k => [.int (k : Int)]) [Str.ofString "successor"] T (fun _ => ofL [(Str.ofString "self", .val (.ref Z.s)), (Str.ofString "n2i", .val (.ref Z.D))])
      (fun i _ M => SAt C aT aN (patch T M₇ M) Z { σ with np := (st i).1, rd := some (st i).2 }) F₇ rm (evIt_mul (ev_slot B.at (k_suc _) (ev_name rfl) (Reg.minus_some (hoff _ (.inl rfl)) hin₇) (Reg.minus_some (hoff _ (.inr (.inl rfl))) (S₇.emp k' hk)) rfl) (Reg.minus_some (hoff _ (.inr (.inr rfl))) hs₇) hr₇)
      (AllIn.le ⟨rfl, rfl, trivial⟩) (fun a ha => hall a (hTs a ha)) (by decide +kernel) (fun a _ => ⟨rfl, rfl⟩)
      (fun i R R' M M' hJ' _ he => by rw [patch_same he]; exact hJ') (patch_from keepsOff_refl (fun a ha => hall a (by rwa [Srt.all_same (σ := σ) (by rfl) (by rw [hrd]; rfl)] at ha)) (S₇.to (by rw [st0, ← hrd]))) ?_ ?_
    · intro i j s₈ R₉ M₈ hij l₈ hk₈ F₈ hJ₈
      refine cps fun Qg hQg => ?_
      have hjs := hsu j (List.mem_of_getElem? hij)
      have S₈ := patch_to hk₈ hJ₈
      obtain ⟨od₈, hD₈, hdo₈⟩ := S₈.D
      obtain ⟨t₈, u₈, hin₈⟩ := S₈.inf j hjs.1
      refine st_assign F₈ rm (ev_sub (ev_name rfl) (ev_name rfl) (op_ditem hD₈ hdo₈ (S₈.node hjs.1))) fun s₉ R₁₀ l₉ F₉ => ?_
      refine st_slotAug B (k_np _) F₉ rm (ev_name rfl) ev_int hin₈ (S₈.emp j hjs.1) rfl rfl (fun _ => .int _ _) op_isub fun s₁₀ R₁₁ v l₁₀ hv F₁₀ => ?_
      (have q_ := Rd.intE hv; clear hv; obtain ⟨_, rfl⟩ := q_)
      rename_i tv
      change Fra C s₀ R (Z.all σ) _ env W s₁₀ R₁₁ (M₈.set (Z.inf j) (nodeObj aN (Z.emp j) j t₈ ((st i).1 j - 1) tv (Z.suc j))) _ at F₁₀
      have S₁₀ := S₈.setnp hjs.1 (t := t₈) (u := tv) (x := (st i).1 j - 1)
      have hin₁₀ : (M₈.set (Z.inf j) (nodeObj aN (Z.emp j) j t₈ ((st i).1 j - 1) tv (Z.suc j))) (Z.inf j) = _ := Reg.set_self _ _ _
      have hTj : Z.inf j ∈ T := hm (Srt.mem_all.mpr (.inr (.inr (.inr (.inr ⟨j, hjs.1, .inl rfl⟩))))) (S.rinf j hjs.1) (by simpa using hjs.2) (by simp) (by simp)
      have hTq : Z.q ∈ T := hm (Srt.mem_all.mpr (.inr (.inr (.inr (.inl ⟨by rw [hrd]; simp, rfl⟩))))) (S.rq (by rw [hrd]; simp)) (by simp) (by simp) (by simp)
      have hoff₁₀ : Reg.keepsOff T M₈ _ := keepsOff_set (M := M₈) (o := nodeObj aN (Z.emp j) j t₈ ((st i).1 j - 1) tv (Z.suc j)) hTj
      generalize M₈.set (Z.inf j) (nodeObj aN (Z.emp j) j t₈ ((st i).1 j - 1) tv (Z.suc j)) = M₁₀ at F₁₀ S₁₀ hin₁₀ hoff₁₀
      refine st_if F₁₀ rm (evT_cmp (Ev.asInt (ev_slot B.at (k_np _) (ev_name rfl) hin₁₀ (S₁₀.emp j hjs.1) rfl)) ev_int op_eq_int) fun s₁₁ R₁₂ l₁₁ F₁₁ => ?_
      have hfrom : ∀ {M' : Reg} {σ' : Sd}, Reg.keepsOff T M₇ M' → σ'.ks = σ.ks → σ'.rd.isSome = true → SAt C aT aN M' Z σ' → SAt C aT aN (patch T M₇ M') Z σ' := fun hko h1 h2 S' => patch_from hko (fun a ha => hall a (by rwa [Srt.all_same (σ := σ) h1 (by rw [h2, hrd]; rfl)] at ha)) S'
      by_cases hb : (st i).1 j - 1 = 0
      · rw [show ((st i).1 j - 1 == 0) = true from by simp [hb]]
        obtain ⟨h₁₁, t₁₁, n₁₁, hd₁₁⟩ := S₁₀.d
        obtain ⟨vs₁₁, m₁₁, hq₁₁, hr₁₁⟩ := S₁₀.q _ rfl
        refine st_expr (mlist_append F₁₁ rm (ev_own B.at (k_rdy _) (ev_name rfl) S₁₀.s hd₁₁ look_rdy) (ev_name rfl) hq₁₁ (by have := stl i; rw [sizeLine_val, encN_len hr₁₁]; omega) fun s₁₂ R₁₃ v m' l₁₂ hv F₁₂ => ?_) F₁₁.quiet
        (have q_ := Rd.intE hv; clear hv; obtain ⟨_, rfl⟩ := q_)
        rename_i tv'
        have S₁₂ := S₁₀.setrd (by simp) (vs := vs₁₁ ++ [.int (j : Int) tv']) (n := m') (l := (st i).2 ++ [j]) (by rw [encN, List.map_append]; exact hr₁₁.append (.cons (.int _ _) .nil))
        have hko := keepsOff_trans (keepsOff_trans hk₈ hoff₁₀) (keepsOff_set (M := M₁₀) (o := lstObj (vs₁₁ ++ [.int (j : Int) tv']) m') hTq)
        refine st_nil (st_nil (hQg _ _ ⟨R₁₃, _, l₉.trans (l₁₀.trans (l₁₁.trans l₁₂)), keepsOff_trans hoff₁₀ (keepsOff_set hTq), F₁₂.toL _ ⟨rfl, rfl, trivial⟩, hfrom hko rfl rfl (S₁₂.to ?_)⟩))
        rw [stS i j hij]
        simp only [relaxStep, hb, if_true]
      · rw [show ((st i).1 j - 1 == 0) = false from by simp [hb]]
        refine st_nil (st_nil (hQg _ _ ⟨R₁₂, _, l₉.trans (l₁₀.trans l₁₁), hoff₁₀, F₁₁.toL _ ⟨rfl, rfl, trivial⟩, hfrom (keepsOff_trans hk₈ hoff₁₀) rfl rfl (S₁₀.to ?_)⟩))
        rw [stS i j hij]
        simp only [relaxStep, hb, if_false]
    · intro s₈ R₉ M₈ l₈ hk₈ F₈ hJ₈
      rw [stE] at hJ₈
      have S₈ := patch_to hk₈ hJ₈
      obtain ⟨h₈, t₈, n₈, hd₈⟩ := S₈.d
      refine st_ownAug B (k_nf _) F₈ rm (ev_name rfl) ev_int S₈.s hd₈ getL_nf rfl (fun _ => .int _ _) op_iadd (by rw [sEnts_len]; omega) fun s₉ R₁₀ v u l₉ hv F₉ => ?_
      (have q_ := Rd.intE hv; clear hv; obtain ⟨_, rfl⟩ := q_)
      rw [put_nf] at F₉
      refine st_nil (hQf _ _ ⟨R₁₀, _, l₄.trans (l₅.trans (l₆.trans (l₇.trans (l₈.trans l₉)))), ?_, F₉.toL _ ⟨rfl, rfl, trivial⟩, (S₈.setd (rd := some (doneS σ l k').2) rfl).to (by simp)⟩)
      refine keepsOff_trans (keepsOff_trans ?_ (keepsOff_sub hTs hk₈)) (keepsOff_set (Srt.mem_all.mpr (.inr (.inl rfl))))
      rw [← hM]
      exact keepsOff_set (Srt.mem_all.mpr (.inr (.inr (.inr (.inr ⟨k', hk, .inl rfl⟩)))))
  · intro s₃ R₄ M₃ l₃ hk₃ F₃ hJ
    refine st_nil ?_
    exact hQ _ _ ⟨R₄, M₃, _, Z, _, _, F₃, hJ, ⟨rfl, rfl, rfl⟩, rfl, fun a ha => .inl (by rwa [if_neg (by simp), Srt.all_same (σ := σ) (by rfl) (by rw [hrd]; rfl)] at ha), fun a ha => by rwa [if_neg (by simp), Srt.all_same (σ := σ) (by rfl) (by rw [hrd]; rfl)], .none⟩
end
end Mine
end
noncomputable section
open PySem PySem.W PyProof.Rows PySem.SeqAt PySem.MeetsSeq
set_option Elab.async false
set_option autoImplicit false
set_option maxRecDepth 100000
namespace Mine
section
variable {C : Cx} (B : Base C (K3 C)) {Z : Srt} {σ : Sd}
include B
theorem make_node {k : Nat} (A : Around) (s : Shared) (R : Reg) (v : Value) (rm : Room 2 A) (ro : Rok (C.at noM) R s.heap) (hv : Rd R v (.int (k : Int))) :
    wpAny C.M A (call (.ref aN) [v]) (fun w s' => ∃ x e l t u, w = .ref x ∧ Keeps s s' ∧ (s.heap.get? x = none ∧ s.heap.get? e = none ∧ s.heap.get? l = none) ∧ (x ≠ e ∧ x ≠ l ∧ e ≠ l) ∧
      s'.heap.get? x = some (nodeObj aN e k t 0 u l) ∧ s'.heap.get? e = some emptyDict ∧ s'.heap.get? l = some (lstObj [] 0)) NoE s := by
  have X := B.ins ro.hle0
  obtain ⟨hh, g, d, tk, os⟩ := s
  dsimp only at ro X
  refine wpAny_call (make_core (makes_of X (by kernel_rfl!)) (looks_findIn X (show findIn (K3 C) (.ref aN) "__init__" = some (some (.ref aNi)) from by kernel_rfl!)) (fun self => bind_fn X self (by kernel_rfl!)) (.inl rfl) ?_)
  have kp : hle hh ((hh.push emptyDict).push (instObj aN hh.objs.size)) := fun b o e => Heap.get?_push_of_some _ (Heap.get?_push_of_some _ e)
  have ro' : Rok (C.at noM) R ((hh.push emptyDict).push (instObj aN hh.objs.size)) := ⟨ro.base, ro.on.hle kp, fun _ _ e => nomatch e⟩
  have hsz : (hh.push emptyDict).objs.size = hh.objs.size + 1 := Heap.size_push ..
  have hx : ((hh.push emptyDict).push (instObj aN hh.objs.size)).get? (hh.objs.size + 1) = some (insObj aN hh.objs.size #[]) := by rw [← hsz]; exact Heap.get?_push_size _ rfl
  have hd : ((hh.push emptyDict).push (instObj aN hh.objs.size)).get? hh.objs.size = some emptyDict := Heap.get?_push_of_some _ (Heap.get?_push_size _ rfl)
  have no : ∀ a, hh.objs.size ≤ a → hh.get? a = none := fun a ha => by
    cases e : hh.get? a with
    | none => rfl
    | some o' => exact absurd (Heap.lt_size e) (Nat.not_lt.mpr ha)
  refine fn_callB (s := ⟨(hh.push emptyDict).push (instObj aN hh.objs.size), g, d, tk, os⟩) (xs := [Str.ofString "self", Str.ofString "node"]) (ds := [.val (.ref (hh.objs.size + 1)), .int (k : Int)]) (fnC B rfl (by kernel_rfl!) rfl (by kernel_rfl!)) rm.made ro' (bnd_plain ro'.on (by kernel_rfl!) (.cons (.val _) (.cons hv .nil))) rfl fun env W s' R' hsc rm' F => ?_
  have hRn : ∀ a, hh.get? a = none → R a = none := fun a ha => by
    cases q : R a with
    | none => rfl
    | some o => have := ro.on a o q; rw [ha] at this; (have q_ := oNS this; clear this; exact q_.elim)
  have hge : ∀ a ∈ [hh.objs.size + 1, hh.objs.size], hh.objs.size ≤ a := fun a ha => by
    rcases List.mem_cons.mp ha with h | h
    · rw [h]; exact Nat.le_succ _
    · rw [List.mem_singleton.mp h]; exact Nat.le_refl _
  have F' := F.lent (V := [hh.objs.size + 1, hh.objs.size]) (fun a ha => by
    cases q : R' a with
    | none => rfl
    | some o =>
      rcases F.sub a o q with h | h
      · rw [hRn a (no a (hge a ha))] at h; (have q_ := oNS h; clear h; exact q_.elim)
      · simp at ha
        rcases ha with rfl | rfl
        · rw [hx] at h; (have q_ := oSN h; clear h; exact q_.elim)
        · rw [hd] at h; (have q_ := oSN h; clear h; exact q_.elim)) (fun a ha => by
      simp at ha
      rcases ha with rfl | rfl
      · exact ⟨_, hx⟩
      · exact ⟨_, hd⟩)
  have hne : hh.objs.size + 1 ≠ hh.objs.size := by omega
  generalize hMu : ((fun a => if a ∈ [hh.objs.size + 1, hh.objs.size] then ((hh.push emptyDict).push (instObj aN hh.objs.size)).get? a else none) : Reg) = M₀ at F'
  change Reg at M₀
  have hx₀ : M₀ (hh.objs.size + 1) = some (insObj aN hh.objs.size #[]) := by rw [← hMu]; simpa using hx
  have hd₀ : M₀ hh.objs.size = some emptyDict := by rw [← hMu]; simpa using hd
  refine st_slot B (k_node C) F' rm' (ev_name rfl) (ev_name rfl) hx₀ hd₀ fun s₁ R₁ v₁ l₁ hv₁ F₁ => ?_
  (have q_ := Rd.intE hv₁; clear hv₁; obtain ⟨_, rfl⟩ := q_)
  rename_i t₁
  have hx₁ : (M₀.set (hh.objs.size + 1) (insObj aN hh.objs.size #[some (.int (k : Int) t₁)])) (hh.objs.size + 1) = some (insObj aN hh.objs.size #[some (.int (k : Int) t₁)]) := Reg.set_self _ _ _
  have hd₁ : (M₀.set (hh.objs.size + 1) (insObj aN hh.objs.size #[some (.int (k : Int) t₁)])) hh.objs.size = some emptyDict := by rw [Reg.set_ne _ _ (Ne.symm hne)]; exact hd₀
  refine st_slot B (k_np C) F₁ rm' (ev_name rfl) ev_int hx₁ hd₁ fun s₂ R₂ v₂ l₂ hv₂ F₂ => ?_
  (have q_ := Rd.intE hv₂; clear hv₂; obtain ⟨_, rfl⟩ := q_)
  rename_i t₂
  change Fra C _ R _ _ env W s₂ R₂ ((M₀.set (hh.objs.size + 1) (insObj aN hh.objs.size #[some (.int (k : Int) t₁)])).set (hh.objs.size + 1) (insObj aN hh.objs.size #[some (.int (k : Int) t₁), some (.int 0 t₂)])) _ at F₂
  have hx₂ : ((M₀.set (hh.objs.size + 1) (insObj aN hh.objs.size #[some (.int (k : Int) t₁)])).set (hh.objs.size + 1) (insObj aN hh.objs.size #[some (.int (k : Int) t₁), some (.int 0 t₂)])) (hh.objs.size + 1) = some (insObj aN hh.objs.size #[some (.int (k : Int) t₁), some (.int 0 t₂)]) := Reg.set_self _ _ _
  have hd₂ : ((M₀.set (hh.objs.size + 1) (insObj aN hh.objs.size #[some (.int (k : Int) t₁)])).set (hh.objs.size + 1) (insObj aN hh.objs.size #[some (.int (k : Int) t₁), some (.int 0 t₂)])) hh.objs.size = some emptyDict := by rw [Reg.set_ne _ _ (Ne.symm hne)]; exact hd₁
  refine st_slot_new B (k_suc C) F₂ rm' (fun _ => ev_name rfl) hx₂ hd₂ fun s₃ R₃ l l₃ hl F₃ => ?_
  refine st_nil ⟨rfl, ?_⟩
  have hl0 : ((hh.push emptyDict).push (instObj aN hh.objs.size)).get? l = none := by
    cases q : ((hh.push emptyDict).push (instObj aN hh.objs.size)).get? l with
    | none => rfl
    | some o =>
      by_cases hv : l ∈ [hh.objs.size + 1, hh.objs.size]
      · obtain ⟨o', e'⟩ := F₂.vnew l hv; rw [hl] at e'; (have q_ := oNS e'; clear e'; exact q_.elim)
      · have := F₂.keep.get hv q; rw [hl] at this; (have q_ := oNS this; clear this; exact q_.elim)
  have hl1 : l ≠ hh.objs.size + 1 := fun h => by rw [h, hx] at hl0; (have q_ := oSN hl0; clear hl0; exact q_.elim)
  have hl2 : l ≠ hh.objs.size := fun h => by rw [h, hd] at hl0; (have q_ := oSN hl0; clear hl0; exact q_.elim)
  have hlh : hh.get? l = none := by
    cases q : hh.get? l with
    | none => rfl
    | some o => rw [kp _ _ q] at hl0; (have q_ := oSN hl0; clear hl0; exact q_.elim)
  refine ⟨hh.objs.size + 1, hh.objs.size, l, t₁, t₂, rfl, ?_, ⟨no _ (by omega), no _ (Nat.le_refl _), hlh⟩, ⟨hne, Ne.symm hl1, Ne.symm hl2⟩, ?_, ?_, ?_⟩
  · obtain ⟨h', tk', rfl, e⟩ := F₃.keep
    refine ⟨h', tk', rfl, fun b o q => e b o (fun hb => ?_) (kp b o q)⟩
    rw [no b (hge b hb)] at q; (have q_ := oNS q; clear q; exact q_.elim)
  · exact (F₃.mu _ _ (Reg.set_self _ _ _)).1
  · exact (F₃.mu hh.objs.size emptyDict (by rw [Reg.set_ne _ _ (Ne.symm hne), Reg.set_ne _ _ (Ne.symm hl2)]; exact hd₂)).1
  · exact (F₃.mu l (lstObj [] 0) (by rw [Reg.set_ne _ _ hl1, Reg.set_self])).1
end
end Mine
end
noncomputable section
open PySem PySem.W PyProof.Rows PySem.SeqAt PySem.MeetsSeq
set_option Elab.async false
set_option autoImplicit false
set_option maxRecDepth 100000
namespace Mine
section
variable {C : Cx} (B : Base C (K3 C)) {Z : Srt} {σ : Sd}
include B
theorem info_old {k : Nat} (hk : k ∈ σ.ks) : SCall C aT aN 1 aGet [.int (k : Int)] Z σ (fun Z' σ' d => Z' = Z ∧ σ' = σ ∧ d = .val (.ref (Z.inf k))) := by
  refine scall_fn (xs := [Str.ofString "self", Str.ofString "node"]) (es := [.val (.ref Z.s), .int (k : Int)]) (fnC B rfl (by kernel_rfl!) rfl (by kernel_rfl!)) rfl (fun R s vs ro _ hr => by
    cases hr with
    | cons h r => (have q_ := RdAll.nilE r; clear r; subst q_); exact bnd_plain ro (by kernel_rfl!) (.cons (.val _) (.cons h .nil))) ?_
  intro A env W s₀ s R R₁ Mu hsc rm F S
  refine cps fun Q hQ => ?_
  obtain ⟨h, t, n, hd⟩ := S.d
  obtain ⟨od, hD, hdo⟩ := S.D
  refine st_if_walrus F rm (Ev.cast (d' := .val (.ref (Z.inf k))) (ev_dget (ev_own B.at (k_n2i _) (ev_name rfl) S.s hd look_n2i) (ev_name rfl) hD hdo S.sm) (by rw [S.node hk]; rfl)) fun s₁ R₂ l₁ F₁ => ?_
  refine st_nil ?_
  refine st_ret F₁ rm (ev_name rfl) fun s₂ R₃ v l₂ F₂ hv => ?_
  exact hQ _ _ ⟨R₃, Mu, _, Z, σ, _, F₂, S, ⟨rfl, rfl, rfl⟩, rfl, fun a ha => .inl ha, fun a ha => ha, hv⟩
theorem info_new {k : Nat} (hk : k ∉ σ.ks) (hlen : σ.ks.length < 7) : SCall C aT aN 3 aGet [.int (k : Int)] Z σ (fun Z' σ' d => ∃ x e l, Z' = Z.grow k x e l ∧ σ' = σ.grow k ∧ d = .val (.ref x)) := by
  refine scall_fn (n := 2) (xs := [Str.ofString "self", Str.ofString "node"]) (es := [.val (.ref Z.s), .int (k : Int)]) (fnC B rfl (by kernel_rfl!) rfl (by kernel_rfl!)) rfl (fun R s vs ro _ hr => by
    cases hr with
    | cons h r => (have q_ := RdAll.nilE r; clear r; subst q_); exact bnd_plain ro (by kernel_rfl!) (.cons (.val _) (.cons h .nil))) ?_
  intro A env W s₀ s R R₁ Mu hsc rm F S
  refine cps fun Q hQ => ?_
  obtain ⟨h, t, n, hd⟩ := S.d
  obtain ⟨od, hD, hdo⟩ := S.D
  refine st_if_walrus F rm (Ev.cast (d' := .val .none) (ev_dget (ev_own B.at (k_n2i _) (ev_name rfl) S.s hd look_n2i) (ev_name rfl) hD hdo S.sm) (by rw [SAt.nonode σ Z hk]; rfl)) fun s₁ R₂ l₁ F₁ => ?_
  refine wpAny_execs_cons (wpAny_Assign_two (Call_ (F₁.ev rm (ev_glob (g_nodeinfo B.at) rfl) fun f s₂ Ra la ka hf F₂ => ?_)))
  (have q_ := Rd.valE hf; clear hf; subst q_)
  refine callWith_K (K := K3 C) (B.ins F₂.ro.hle0) (by kernel_rfl!) (F₂.evAll rm (evAll_cons (ev_name rfl) evAll_nil) fun vs s₃ Rb lb kb hvs F₃ => ?_)
  refine ⟨B.ins F₃.ro.hle0, ?_⟩
  have q_ := RdAll.consE hvs
  clear hvs
  obtain ⟨_, _, rfl, hv, hr⟩ := q_
  next =>
    (have q_ := RdAll.nilE hr; clear hr; subst q_)
    rename_i v
    refine noE (make_node B A s₃ _ v rm F₃.ro hv) fun w s₄ h₄ => ?_
    obtain ⟨x, e, l, t₄, u₄, rfl, k₄, hn, h3, hx, he, hl⟩ := h₄
    have F₄ := F₃.begin (X := [x, e, l]) k₄ (fun a ha => by
      simp only [List.mem_cons, List.not_mem_nil, or_false] at ha
      rcases ha with rfl | rfl | rfl
      · exact hn.1
      · exact hn.2.1
      · exact hn.2.2)
    have hoff : ∀ {a oa}, Mu a = some oa → a ∉ [x, e, l] := fun {a oa} h ha => by
      have := (F₃.mu a oa h).1
      simp only [List.mem_cons, List.not_mem_nil, or_false] at ha
      rcases ha with rfl | rfl | rfl
      · rw [hn.1] at this; (have q_ := oNS this; clear this; exact q_.elim)
      · rw [hn.2.1] at this; (have q_ := oNS this; clear this; exact q_.elim)
      · rw [hn.2.2] at this; (have q_ := oNS this; clear this; exact q_.elim)
    have le₄ : R₂.le ((Rb.ext s₃.heap s₄.heap).minus [x, e, l]) := fun a oa q => by
      have q3 := lb a oa (la a oa q)
      refine Reg.minus_some (fun ha => ?_) (Reg.ext_le F₃.ro.on a oa q3)
      have := F₃.ro.on a oa q3
      simp only [List.mem_cons, List.not_mem_nil, or_false] at ha
      rcases ha with rfl | rfl | rfl
      · rw [hn.1] at this; (have q_ := oNS this; clear this; exact q_.elim)
      · rw [hn.2.1] at this; (have q_ := oNS this; clear this; exact q_.elim)
      · rw [hn.2.2] at this; (have q_ := oNS this; clear this; exact q_.elim)
    generalize ((Rb.ext s₃.heap s₄.heap).minus [x, e, l]) = R₄ at F₄ le₄
    generalize hM : ((fun a => if a ∈ [x, e, l] then s₄.heap.get? a else Mu a) : Reg) = M₄ at F₄
    change Reg at M₄
    have hM₄ : ∀ {a oa}, Mu a = some oa → M₄ a = some oa := fun {a oa} q => by
      rw [← hM]; simp only [hoff q, if_false]; exact q
    have hx₄ : M₄ x = some (nodeObj aN e k t₄ 0 u₄ l) := by rw [← hM]; simpa using hx
    have he₄ : M₄ e = some emptyDict := by rw [← hM]; simpa using he
    have hl₄ : M₄ l = some (lstObj [] 0) := by rw [← hM]; simpa using hl
    have hMn : Mu x = none ∧ Mu e = none ∧ Mu l = none := by
      refine ⟨?_, ?_, ?_⟩
      · cases q : Mu x with | none => rfl | some o => exact absurd (by simp) (hoff q)
      · cases q : Mu e with | none => rfl | some o => exact absurd (by simp) (hoff q)
      · cases q : Mu l with | none => rfl | some o => exact absurd (by simp) (hoff q)
    rw [assign_Subscript]
    refine wpAny_bind (wpAny_holding (F₄.ev rm (ev_own B.at (k_n2i _) (ev_name rfl) (hM₄ S.s) (hM₄ hd) look_n2i) fun ov s₅ Rc lc kc h5 F₅ => ?_))
    (have q_ := Rd.valE h5; clear h5; subst q_)
    refine wpAny_bind (wpAny_holding (F₅.ev rm (d := .int (k : Int)) (ev_name rfl) fun iv s₆ Rd' ld kd h6 F₆ => ?_))
    (have q_ := Rd.intE h6; clear h6; obtain ⟨_, rfl⟩ := q_)
    refine wpAny_bind (wpAny_standAt (wpAny_bind (wpAny_holding ?_)))
    refine wpAny_setItem_pairs (knd := iK C) (intKind_is _ _ _ _) (dictAt_of (C := C) (F₆.rom.mu _ _ (hM₄ hD)) hdo) (fun h' hdict hsb => ?_) (by rw [sizeLine_val]; simp [nodePairs]; omega)
    obtain ⟨od', hD', hdo'⟩ := Heap.dictOf_iff.mp hdict
    have F₇ := F₆.mut (tk := s₆.toks + 1) (hM₄ hD) (fun v q => by obtain ⟨es, ep, _, hde, _⟩ := hdo; rw [hde] at q; cases q) hsb hD'
    refine wpAny_release (wpAny_assign_Name (F₇.store (.val (.ref x)) (fun s₈ _ F₈ => ?_) (Or.inl rfl)))
    rw [stored_new (SAt.nonode σ Z hk), ← nodePairs_grow (x := x) (e := e) (l := l) hk] at hdo'
    have hDx : x ≠ Z.D ∧ e ≠ Z.D ∧ l ≠ Z.D := by
      refine ⟨?_, ?_, ?_⟩
      · intro q; rw [q, hD] at hMn; cases hMn.1
      · intro q; rw [q, hD] at hMn; cases hMn.2.1
      · intro q; rw [q, hD] at hMn; cases hMn.2.2
    have S₈ : SAt C aT aN (M₄.set Z.D od') (Z.grow k x e l) (σ.grow k) := S.grow hk hlen h3 hMn (by rw [Reg.set_ne _ _ hDx.1]; exact hx₄) (by rw [Reg.set_ne _ _ hDx.2.1]; exact he₄) (by rw [Reg.set_ne _ _ hDx.2.2]; exact hl₄) (Reg.set_self _ _ _) hdo'
      (fun a oa ha q => by rw [Reg.set_ne _ _ ha]; exact hM₄ q)
    refine st_nil ?_
    refine st_ret F₈ rm (ev_name rfl) fun s₉ R₉ v l₉ F₉ hv => ?_
    have dead : ∀ a, s₃.heap.get? a = none → s₀.heap.get? a = none := fun a q => by
      cases z : s₀.heap.get? a with
      | none => rfl
      | some o =>
        exfalso
        by_cases hv : a ∈ Z.all σ
        · obtain ⟨o', e'⟩ := F₃.vnew a hv; rw [q] at e'; (have q_ := oNS e'; clear e'; exact q_.elim)
        · rw [F₃.keep.get hv z] at q; (have q_ := oSN q; clear q; exact q_.elim)
    refine hQ _ _ ⟨R₉, _, _, Z.grow k x e l, σ.grow k, _, F₉, S₈, ⟨x, e, l, rfl, rfl, rfl⟩, rfl, fun a ha => ?_, fun a ha => (Srt.mem_grow hk).mpr (.inl ha), hv⟩
    rcases (Srt.mem_grow hk).mp ha with q | rfl | rfl | rfl
    · exact .inl q
    · exact .inr (dead _ hn.1)
    · exact .inr (dead _ hn.2.1)
    · exact .inr (dead _ hn.2.2)
end
end Mine
end
noncomputable section
open PySem PySem.W PyProof.Rows PySem.SeqAt PySem.MeetsSeq
set_option Elab.async false
set_option autoImplicit false
set_option maxRecDepth 100000
namespace Mine
section
variable {C : Cx} (B : Base C (K3 C)) {Z : Srt} {σ : Sd}
include B
theorem add_new {k : Nat} (hk : k ∉ σ.ks) (hlen : σ.ks.length < 7) (hrd : σ.rd = none) : SCall C aT aN 4 aAdd [.int (k : Int)] Z σ (fun Z' σ' d => ∃ x e l, Z' = Z.grow k x e l ∧ σ' = σ.grow k ∧ d = .none) := by
  refine scall_fn (n := 3) (xs := [Str.ofString "self", Str.ofString "node", Str.ofString "predecessors"]) (es := [.val (.ref Z.s), .int (k : Int), .tup []]) (fnC B rfl (by kernel_rfl!) rfl (by kernel_rfl!)) rfl (fun R s vs ro _ hr => by
    have q_ := RdAll.consE hr
    clear hr
    obtain ⟨_, _, rfl, h, r⟩ := q_
    next =>
      (have q_ := RdAll.nilE r; clear r; subst q_)
      rename_i v
      exact bnd_star (vs := [.ref Z.s, v]) (us := []) (ds := [.val (.ref Z.s), .int (k : Int)]) ro (by kernel_rfl!) (.cons (.val _) (.cons h .nil)) .nil (by rw [sizeLine_val]; simp)) ?_
  intro A env W s₀ s R R₁ Mu hsc rm F S
  refine cps fun Q hQ => ?_
  obtain ⟨h, t, n, hd⟩ := S.d
  have hrv : rdV Z σ.rd = .none := by rw [hrd]; rfl
  rw [hrv] at hd
  refine st_if F rm (evT_cmp (ev_own B.at (k_rdy _) (ev_name rfl) S.s hd look_rdy) ev_none op_isnot_none) fun s₁ R₂ l₁ F₁ => ?_
  refine st_nil ?_
  refine st_set F₁ (F₁.smeth rm B (k_get C) S hd look_get (ev_name rfl) (evAll_cons (ev_name rfl) evAll_nil) (info_new B hk hlen) fun v s₂ R₃ M₂ Z₂ σ₂ d hP hs l₂ hv F₂ S₂ hn ho hoff => ?_)
  obtain ⟨x, e, l, rfl, rfl, rfl⟩ := hP
  refine ⟨R₃, M₂, _, F₂, hv, fun s₃ F₃ => ?_⟩
  have hkm : k ∈ (σ.grow k).ks := by simp [Sd.grow]
  obtain ⟨t₃, u₃, hin⟩ := S₂.inf k hkm
  have hix : (Z.grow k x e l).inf k = x := by simp [Srt.grow]
  rw [hix] at hin
  refine st_slotAug B (k_np _) F₃ rm (ev_name rfl) (ev_callb (ev_glob (g_len B.at) rfl) (evAll_cons (ev_name rfl) evAll_nil) (call_lent (by rw [sizeLine_val]; simp))) hin (S₂.emp k hkm) rfl rfl (fun _ => .int _ _) op_iadd fun s₄ R₄ v l₃ hv F₄ => ?_
  (have q_ := Rd.intE hv; clear hv; obtain ⟨_, rfl⟩ := q_)
  rename_i tv
  have S₄ := S₂.setnp hkm (t := t₃) (u := tv) (x := (σ.grow k).np k + (([] : List Dat).length : Nat))
  rw [hix] at S₄
  refine st_for (L := ([] : List Nat)) (enc := fun k => Dat.int (k : Int)) (tds := fun k => [.int (k : Int)]) [Str.ofString "pred"] [] (fun _ => ofL []) (fun _ _ _ => True) F₄ rm (evIt_tup (ev_name rfl)) (AllIn.le trivial) (by simp) (by decide +kernel) (fun a ha => nomatch ha) (fun _ _ _ _ _ _ _ _ => trivial) trivial ?_ ?_
  · intro i a s' R' M' hi
    simp at hi
  · intro s₅ R₅ M₅ l₅ hk₅ F₅ _
    refine st_nil ?_
    refine hQ _ _ ⟨R₅, M₅, _, Z.grow k x e l, σ.grow k, .none, F₅, (S₄.on fun a o _ q => hk₅ a o (by simp) q).to ?_, ⟨x, e, l, rfl, rfl, rfl⟩, rfl, fun a ha => ?_, ho, .none⟩
    · simp only [Sd.grow]
      congr 1
      funext j
      by_cases hj : j = k <;> simp [hj]
    · rcases hn a ha with q | q
      · exact .inl q
      · exact .inr (F₁.dead q)
theorem add_old {a b : Nat} (ha : a ∈ σ.ks) (hb : b ∈ σ.ks) (hrd : σ.rd = none) (hz : (σ.su a).length ≤ 1000) :
    SCall C aT aN 3 aAdd [.int (b : Int), .int (a : Int)] Z σ (fun Z' σ' d => Z' = Z ∧ σ' = { σ with np := fun j => if j = b then σ.np b + 1 else σ.np j, su := fun j => if j = a then σ.su a ++ [b] else σ.su j } ∧ d = .none) := by
  refine scall_fn (n := 2) (xs := [Str.ofString "self", Str.ofString "node", Str.ofString "predecessors"]) (es := [.val (.ref Z.s), .int (b : Int), .tup [.int (a : Int)]]) (fnC B rfl (by kernel_rfl!) rfl (by kernel_rfl!)) rfl (fun R s vs ro _ hr => by
    have q_ := RdAll.consE hr
    clear hr
    obtain ⟨_, _, rfl, h, r⟩ := q_
    next =>
      have q_ := RdAll.consE r
      clear r
      obtain ⟨_, _, rfl, h', r⟩ := q_
      next =>
        (have q_ := RdAll.nilE r; clear r; subst q_)
        rename_i v v'
        exact bnd_star (vs := [.ref Z.s, v]) (us := [v']) (ds := [.val (.ref Z.s), .int (b : Int)]) ro (by kernel_rfl!) (.cons (.val _) (.cons h .nil)) (.cons h' .nil) (by rw [sizeLine_val]; simp)) ?_
  intro A env W s₀ s R R₁ Mu hsc rm F S
  refine cps fun Q hQ => ?_
  obtain ⟨h, t, n, hd⟩ := S.d
  have hrv : rdV Z σ.rd = .none := by rw [hrd]; rfl
  rw [hrv] at hd
  refine st_if F rm (evT_cmp (ev_own B.at (k_rdy _) (ev_name rfl) S.s hd look_rdy) ev_none op_isnot_none) fun s₁ R₂ l₁ F₁ => ?_
  refine st_nil ?_
  refine st_set F₁ (F₁.smeth rm B (k_get C) S hd look_get (ev_name rfl) (evAll_cons (ev_name rfl) evAll_nil) ((info_old B hb).le (by omega)) fun v s₂ R₃ M₂ Z₂ σ₂ d hP hs l₂ hv F₂ S₂ hn ho hoff => ?_)
  obtain ⟨rfl, rfl, rfl⟩ := hP
  refine ⟨R₃, M₂, _, F₂, hv, fun s₃ F₃ => ?_⟩
  obtain ⟨t₃, u₃, hin⟩ := S₂.inf b hb
  refine st_slotAug B (k_np _) F₃ rm (ev_name rfl) (ev_callb (ev_glob (g_len B.at) rfl) (evAll_cons (ev_name rfl) evAll_nil) (call_lent (by rw [sizeLine_val]; simp))) hin (S₂.emp b hb) rfl rfl (fun _ => .int _ _) op_iadd fun s₄ R₄ v l₃ hv F₄ => ?_
  (have q_ := Rd.intE hv; clear hv; obtain ⟨_, rfl⟩ := q_)
  rename_i tv
  have S₄ := S₂.setnp hb (t := t₃) (u := tv) (x := σ₂.np b + (([Dat.int (a : Int)] : List Dat).length : Nat))
  generalize hσ : ({ σ₂ with np := fun j => if j = b then σ₂.np b + (([Dat.int (a : Int)] : List Dat).length : Nat) else σ₂.np j } : Sd) = σ₄ at S₄
  have hks : σ₄.ks = σ₂.ks := by rw [← hσ]
  have hrd₄ : σ₄.rd = none := by rw [← hσ]; exact hrd
  have hsu₄ : σ₄.su = σ₂.su := by rw [← hσ]
  have hall : ∀ {σ' : Sd}, σ'.ks = σ₂.ks → σ'.rd = none → Z₂.all σ' = Z₂.all σ₂ := fun h1 h2 => Srt.all_same h1 (by rw [h2, hrd])
  refine st_for (L := [a]) (enc := fun k => Dat.int (k : Int)) (tds := fun k => [.int (k : Int)]) [Str.ofString "pred"] (Z₂.all σ₂) (fun _ => ofL [(Str.ofString "self", .val (.ref Z₂.s)), (Str.ofString "node", .int (b : Int))])
    (fun i _ M => SAt C aT aN M Z₂ (if i = 0 then σ₄ else { σ₄ with su := fun j => if j = a then σ₄.su a ++ [b] else σ₄.su j })) F₄ rm (evIt_tup (ev_name rfl)) (AllIn.le ⟨rfl, rfl, trivial⟩) (fun c hc => let ⟨o, e, _⟩ := S₄.obj (by rw [hall hks hrd₄]; exact hc); ⟨o, e⟩) (by decide +kernel) (fun _ _ => ⟨rfl, rfl⟩)
    (fun i R R' M M' hJ _ he => hJ.on fun c o hc e => (he c (by
      split at hc
      · rwa [hall hks hrd₄] at hc
      · change c ∈ Z₂.all σ₄ at hc; rwa [hall hks hrd₄] at hc)).trans e) (S₄.to (by simp)) ?_ ?_
  · intro i a' s₅ R₅ M₅ hi l₅ hk₅ F₅ hJ
    refine cps fun Qf hQf => ?_
    have hi0 : i = 0 ∧ a' = a := by
      rcases i with _ | i
      · simp at hi; exact ⟨rfl, hi.symm⟩
      · simp at hi
    obtain ⟨rfl, rfl⟩ := hi0
    simp only [if_true] at hJ
    obtain ⟨h₅, t₅, n₅, hd₅⟩ := hJ.d
    have ha₄ : a' ∈ σ₄.ks := by rw [hks]; exact ha
    refine st_set F₅ (F₅.smeth rm B (k_get C) hJ hd₅ look_get (ev_name rfl) (evAll_cons (ev_name rfl) evAll_nil) ((info_old B ha₄).le (by omega)) fun v s₆ R₆ M₆ Z₆ σ₆ d hP hs₆ l₆ hv F₆ S₆ hn₆ ho₆ hoff₆ => ?_)
    obtain ⟨rfl, rfl, rfl⟩ := hP
    refine ⟨R₆, M₆, _, F₆, hv, fun s₇ F₇ => ?_⟩
    obtain ⟨t₇, u₇, hin₇⟩ := S₆.inf a' ha₄
    obtain ⟨vs, m, hsuc, hr⟩ := S₆.suc a' ha₄
    refine st_expr (mlist_append F₇ rm (ev_slot B.at (k_suc _) (ev_name rfl) hin₇ (S₆.emp a' ha₄) rfl) (ev_name rfl) hsuc (by rw [sizeLine_val, encN_len hr, hsu₄]; omega) fun s₈ R₈ v m' l₈ hv F₈ => ?_) F₇.quiet
    (have q_ := Rd.intE hv; clear hv; obtain ⟨_, rfl⟩ := q_)
    rename_i tv'
    have S₈ := S₆.setsu ha₄ (vs := vs ++ [.int (b : Int) tv']) (n := m') (l := σ₆.su a' ++ [b]) (by rw [encN, List.map_append]; exact hr.append (.cons (.int _ _) .nil))
    refine st_nil (hQf _ _ ⟨R₈, _, l₆.trans l₈, keepsOff_trans (keepsOff_sub (fun c hc => by rwa [hall hks hrd₄] at hc) hoff₆) (keepsOff_set (by rw [← hall hks hrd₄]; exact Srt.mem_all.mpr (.inr (.inr (.inr (.inr ⟨a', ha₄, .inr (.inr rfl)⟩)))))), F₈.toL _ ⟨rfl, rfl, trivial⟩, S₈.to (by simp)⟩)
  · intro s₅ R₅ M₅ l₅ hk₅ F₅ hJ
    refine st_nil ?_
    have hal : Z₂.all (if ([a] : List Nat).length = 0 then σ₄ else { σ₄ with su := fun j => if j = a then σ₄.su a ++ [b] else σ₄.su j }) = Z₂.all σ₂ := by rw [if_neg (by simp)]; exact hall hks hrd₄
    refine hQ _ _ ⟨R₅, M₅, _, Z₂, _, .none, F₅, hJ, ⟨rfl, ?_, rfl⟩, rfl, fun c hc => .inl (by rwa [hal] at hc), fun c hc => by rwa [hal], .none⟩
    rw [if_neg (by simp), ← hσ]
    simp
end
end Mine
end
noncomputable section
open PySem PySem.W PyProof.Rows PySem.SeqAt PySem.MeetsSeq
set_option Elab.async false
set_option autoImplicit false
set_option maxRecDepth 100000
namespace Mine
noncomputable def Sd.start : Sd := ⟨[], fun _ => 0, fun _ => [], none, 0, 0⟩
section
variable {C : Cx} (B : Base C (K3 C)) {Z : Srt} {σ : Sd}
include B
theorem make_sorter (A : Around) (s : Shared) (R : Reg) (rm : Room 2 A) (ro : Rok (C.at noM) R s.heap) :
    wpAny C.M A (call (.ref aT) []) (fun w s' => ∃ Z : Srt, w = .ref Z.s ∧ Keeps s s' ∧ SAt C aT aN s'.heap.get? Z Sd.start ∧ ∀ a ∈ Z.all Sd.start, s.heap.get? a = none) NoE s := by
  have X := B.ins ro.hle0
  obtain ⟨hh, g, d, tk, os⟩ := s
  dsimp only at ro X
  refine wpAny_call (make_core (makes_of X (by kernel_rfl!)) (looks_findIn X (show findIn (K3 C) (.ref aT) "__init__" = some (some (.ref aTi)) from by kernel_rfl!)) (fun self => bind_fn X self (by kernel_rfl!)) (.inl rfl) ?_)
  have kp : hle hh ((hh.push emptyDict).push (instObj aT hh.objs.size)) := fun b o e => Heap.get?_push_of_some _ (Heap.get?_push_of_some _ e)
  have ro' : Rok (C.at noM) R ((hh.push emptyDict).push (instObj aT hh.objs.size)) := ⟨ro.base, ro.on.hle kp, fun _ _ e => nomatch e⟩
  have hsz : (hh.push emptyDict).objs.size = hh.objs.size + 1 := Heap.size_push ..
  have hx : ((hh.push emptyDict).push (instObj aT hh.objs.size)).get? (hh.objs.size + 1) = some (insObj aT hh.objs.size #[]) := by rw [← hsz]; exact Heap.get?_push_size _ rfl
  have hd : ((hh.push emptyDict).push (instObj aT hh.objs.size)).get? hh.objs.size = some emptyDict := Heap.get?_push_of_some _ (Heap.get?_push_size _ rfl)
  have no : ∀ a, hh.objs.size ≤ a → hh.get? a = none := fun a ha => by
    cases e : hh.get? a with
    | none => rfl
    | some o' => exact absurd (Heap.lt_size e) (Nat.not_lt.mpr ha)
  refine fn_callB (s := ⟨(hh.push emptyDict).push (instObj aT hh.objs.size), g, d, tk, os⟩) (xs := [Str.ofString "self", Str.ofString "graph"]) (ds := [.val (.ref (hh.objs.size + 1)), .val .none]) (fnC B rfl (by kernel_rfl!) rfl (by kernel_rfl!)) rm.made ro'
    (bnd_dflt (ds := [.val (.ref (hh.objs.size + 1))]) (w := .none) ro'.on rfl (ro'.hle0 _ _ (B.K _ _ rfl)) rfl rfl (by kernel_rfl!) (.cons (.val _) .nil) (.val _)) rfl fun env W s' R' hsc rm' F => ?_
  have hRn : ∀ a, hh.get? a = none → R a = none := fun a ha => by
    cases q : R a with
    | none => rfl
    | some o => have := ro.on a o q; rw [ha] at this; (have q_ := oNS this; clear this; exact q_.elim)
  have hge : ∀ a ∈ [hh.objs.size + 1, hh.objs.size], hh.objs.size ≤ a := fun a ha => by
    rcases List.mem_cons.mp ha with h | h
    · rw [h]; exact Nat.le_succ _
    · rw [List.mem_singleton.mp h]; exact Nat.le_refl _
  have F' := F.lent (V := [hh.objs.size + 1, hh.objs.size]) (fun a ha => by
    cases q : R' a with
    | none => rfl
    | some o =>
      rcases F.sub a o q with h | h
      · rw [hRn a (no a (hge a ha))] at h; (have q_ := oNS h; clear h; exact q_.elim)
      · simp at ha
        rcases ha with rfl | rfl
        · rw [hx] at h; (have q_ := oSN h; clear h; exact q_.elim)
        · rw [hd] at h; (have q_ := oSN h; clear h; exact q_.elim)) (fun a ha => by
      simp at ha
      rcases ha with rfl | rfl
      · exact ⟨_, hx⟩
      · exact ⟨_, hd⟩)
  have hne : hh.objs.size + 1 ≠ hh.objs.size := by omega
  generalize hMu : ((fun a => if a ∈ [hh.objs.size + 1, hh.objs.size] then ((hh.push emptyDict).push (instObj aT hh.objs.size)).get? a else none) : Reg) = M₀ at F'
  change Reg at M₀
  have hx₀ : M₀ (hh.objs.size + 1) = some (insObj aT hh.objs.size #[]) := by rw [← hMu]; simpa using hx
  have hd₀ : M₀ hh.objs.size = some (dictOf [] 0) := by rw [← hMu]; simpa using hd
  refine st_own_new B (k_n2i C) F' rm' (fun _ => ev_name rfl) hx₀ hd₀ rfl (by simp) fun s₁ R₁ D t₀ l₁ hDn hDs F₁ => ?_
  have hD1 : D ≠ hh.objs.size + 1 := fun h => by have := (F'.mu _ _ hx₀).1; rw [← h, hDn] at this; (have q_ := oNS this; clear this; exact q_.elim)
  have hD2 : D ≠ hh.objs.size := fun h => by have := (F'.mu _ _ hd₀).1; rw [← h, hDn] at this; (have q_ := oNS this; clear this; exact q_.elim)
  generalize hM₁ : ((M₀.set D emptyDict).set hh.objs.size (dictOf (putL (Str.ofString "_node2info") (PyData.keyHash C.w.params (Str.ofString "_node2info")) (.str (Str.ofString "_node2info") t₀) (.ref D) []) (putN (Str.ofString "_node2info") [] 0))) = M₁ at F₁
  have hx₁ : M₁ (hh.objs.size + 1) = some (insObj aT hh.objs.size #[]) := by rw [← hM₁, Reg.set_ne _ _ hne, Reg.set_ne _ _ (Ne.symm hD1)]; exact hx₀
  have hE₁ : M₁ D = some emptyDict := by rw [← hM₁, Reg.set_ne _ _ hD2, Reg.set_self]
  have hd₁ : M₁ hh.objs.size = some (dictOf [⟨PyData.keyHash C.w.params (Str.ofString "_node2info"), .str (Str.ofString "_node2info") t₀, .ref D⟩] (putN (Str.ofString "_node2info") [] 0)) := by rw [← hM₁, Reg.set_self]; rfl
  refine st_own B (k_rdy C) F₁ rm' (ev_name rfl) ev_none hx₁ hd₁ rfl (by simp) fun s₂ R₂ v₂ t₁ l₂ hv₂ F₂ => ?_
  (have q_ := Rd.noneE hv₂; clear hv₂; subst q_)
  have hx₂ := (Reg.set_ne M₁ (dictOf (putL (Str.ofString "_ready_nodes") (PyData.keyHash C.w.params (Str.ofString "_ready_nodes")) (.str (Str.ofString "_ready_nodes") t₁) .none [⟨PyData.keyHash C.w.params (Str.ofString "_node2info"), .str (Str.ofString "_node2info") t₀, .ref D⟩]) (putN (Str.ofString "_ready_nodes") [⟨PyData.keyHash C.w.params (Str.ofString "_node2info"), .str (Str.ofString "_node2info") t₀, .ref D⟩] (putN (Str.ofString "_node2info") [] 0))) hne).trans hx₁
  have hE₂ := (Reg.set_ne M₁ (dictOf (putL (Str.ofString "_ready_nodes") (PyData.keyHash C.w.params (Str.ofString "_ready_nodes")) (.str (Str.ofString "_ready_nodes") t₁) .none [⟨PyData.keyHash C.w.params (Str.ofString "_node2info"), .str (Str.ofString "_node2info") t₀, .ref D⟩]) (putN (Str.ofString "_ready_nodes") [⟨PyData.keyHash C.w.params (Str.ofString "_node2info"), .str (Str.ofString "_node2info") t₀, .ref D⟩] (putN (Str.ofString "_node2info") [] 0))) hD2).trans hE₁
  refine st_own B (k_po C) F₂ rm' (ev_name rfl) ev_int hx₂ (Reg.set_self _ _ _) rfl (by show (2 : Nat) < 1000; decide) fun s₃ R₃ v₃ t₂ l₃ hv₃ F₃ => ?_
  (have q_ := Rd.intE hv₃; clear hv₃; obtain ⟨_, rfl⟩ := q_)
  rename_i u₃
  refine st_own B (k_nf C) F₃ rm' (ev_name rfl) ev_int ((Reg.set_ne _ _ hne).trans hx₂) (Reg.set_self _ _ _) rfl (by show (3 : Nat) < 1000; decide) fun s₄ R₄ v₄ t₃ l₄ hv₄ F₄ => ?_
  (have q_ := Rd.intE hv₄; clear hv₄; obtain ⟨_, rfl⟩ := q_)
  rename_i u₄
  refine st_if F₄ rm' (evT_cmp (ev_name rfl) ev_none op_isnot_none) fun s₅ R₅ l₅ F₅ => ?_
  refine st_nil (st_nil ⟨rfl, ?_⟩)
  have hDh : hh.get? D = none := by
    cases q : hh.get? D with
    | none => rfl
    | some o =>
      have := F'.dead hDn
      rw [kp _ _ q] at this; (have q_ := oSN this; clear this; exact q_.elim)
  have hDb : (D == sysModules) = false := by
    refine beq_eq_false_iff_ne.mpr (Nat.ne_of_gt (Nat.lt_of_lt_of_le ?_ hDs))
    exact Nat.lt_of_lt_of_le (modules_low (B.nolimit.keeps F'.ro.hle0)) (Nat.le_refl _)
  refine ⟨⟨hh.objs.size + 1, hh.objs.size, D, 0, fun _ => 0, fun _ => 0, fun _ => 0, fun a => if a = hh.objs.size + 1 then .s else if a = hh.objs.size then .d else if a = D then .D else .no⟩, rfl, ?_, ?_, ?_⟩
  · obtain ⟨h', tk', rfl, e⟩ := F₅.keep
    refine ⟨h', tk', rfl, fun b o q => e b o (fun hb => ?_) (kp b o q)⟩
    rw [no b (hge b hb)] at q; (have q_ := oNS q; clear q; exact q_.elim)
  · refine ⟨?_, ⟨fun i => if i = 0 then PyData.keyHash C.w.params (Str.ofString "_node2info") else if i = 1 then PyData.keyHash C.w.params (Str.ofString "_ready_nodes") else if i = 2 then PyData.keyHash C.w.params (Str.ofString "_npassedout") else PyData.keyHash C.w.params (Str.ofString "_nfinished"),
        fun i => if i = 0 then t₀ else if i = 1 then t₁ else if i = 2 then t₂ else if i = 3 then t₃ else if i = 4 then u₃ else u₄, _, (F₅.mu _ _ (Reg.set_self _ _ _)).1⟩, ⟨emptyDict, ?_, #[], 0, ⟨rfl, rfl, rfl⟩, rfl, fun e he => by simp at he, .nil, List.nodup_nil⟩,
      fun k hk => (nomatch hk), fun k hk => (nomatch hk), fun k hk => (nomatch hk), fun l hl => (nomatch hl), by simp, by simp, by simp [hD1, hD2], fun h => absurd rfl h, fun k hk => (nomatch hk), fun k hk => (nomatch hk), fun k hk => (nomatch hk), List.nodup_nil, hDb, by simp [Sd.start]⟩
    · exact (F₅.mu _ _ ((Reg.set_ne _ _ hne).trans ((Reg.set_ne _ _ hne).trans hx₂))).1
    · exact (F₅.mu D emptyDict ((Reg.set_ne _ _ hD2).trans ((Reg.set_ne _ _ hD2).trans hE₂))).1
  · intro a ha
    rcases Srt.mem_all.mp ha with rfl | rfl | rfl | ⟨h, _⟩ | ⟨k, hk, _⟩
    · exact no _ (by dsimp only; omega)
    · exact no _ (Nat.le_refl _)
    · exact hDh
    · exact absurd rfl h
    · cases hk
end
end Mine
end
noncomputable section
open PySem PySem.W PyProof.Rows PySem.SeqAt PySem.MeetsSeq
set_option Elab.async false
set_option autoImplicit false
set_option maxRecDepth 100000
namespace Mine
noncomputable def Sd.told (ks : List Nat) (E : List (Nat × Nat)) : Sd := ⟨ks, fun j => (cnt E [] j : Int), fun k => sucs E k, none, 0, 0⟩
theorem Sd.told_grow (ks : List Nat) (k : Nat) : (Sd.told ks []).grow k = Sd.told (ks ++ [k]) [] := by
  unfold Sd.told Sd.grow
  congr 1
  · funext j; by_cases h : j = k <;> simp [h, cnt]
  · funext j; by_cases h : j = k <;> simp [h, sucs]
theorem Sd.told_add (ks : List Nat) (E : List (Nat × Nat)) (a b : Nat) : ({ Sd.told ks E with np := fun j => if j = b then (Sd.told ks E).np b + 1 else (Sd.told ks E).np j, su := fun j => if j = a then (Sd.told ks E).su a ++ [b] else (Sd.told ks E).su j } : Sd) = Sd.told ks (E ++ [(a, b)]) := by
  unfold Sd.told
  simp only [Sd.mk.injEq, true_and, and_true]
  constructor
  · funext j
    rw [cnt_add]
    by_cases h : j = b
    · subst h; simp
    · simp [h]
  · funext j
    rw [sucs_add]
    by_cases h : j = a
    · subst h; simp
    · simp [h]
theorem upd_same {Δ : Vars} {x : Str} {d : Dat} : upd Δ x d x = some d := by simp [upd]
theorem upd_ne {Δ : Vars} {x y : Str} {d : Dat} (h : y ≠ x) : upd Δ x d y = Δ y := by simp [upd, h]
section
variable {C : Cx} (B : Base C (K3 C)) {s₀ : Shared} {R₀ : Reg} {V : List Addr} {sc : Scope} {env : Env} {W : List Addr} {s s' : Shared} {R R' Mu Mu' : Reg} {Δ Δ' : Vars} {n : Nat} {A : Around} {E : Value → Shared → Prop} {Q : Flow → Shared → Prop}
include B
theorem st_sorter {x : Str} {xp fp cp q : Pos} {rest : List Stmt} (F : Fra C s₀ R₀ V sc env W s R Mu Δ) (rm : Room n A) (hn : 2 ≤ n) (hk0 : sc.names.lookup (Str.ofString "TopologicalSorter") = some .globalImplicit)
    (k : ∀ s' R' Mu' Z, R.le R' → (∀ a o, Mu a = some o → Mu' a = some o) → SAt C aT aN Mu' Z Sd.start → (∀ a ∈ Z.all Sd.start, s.heap.get? a = none) → Fra C s₀ R₀ V sc env W s' R' Mu' (upd Δ x (.val (.ref Z.s))) → wpAny C.M A (execs rest env) Q E s')
    (hs : swapsWith (.Call (.Name (Str.ofString "TopologicalSorter") fp) [] [] cp) (some (.Name x xp)) q.line env = pure false := by rfl)
    (hx : sc.names.lookup x = some .local ∨ sc.names.lookup x = some .cell := by first | exact Or.inl rfl | exact Or.inr rfl) :
    wpAny C.M A (execs (.Assign [.Name x xp] (.Call (.Name (Str.ofString "TopologicalSorter") fp) [] [] cp) q :: rest) env) Q E s := by
  refine wpAny_execs_cons (wpAny_Assign_Name (Call_ (F.ev rm (ev_glob (g_sorter B.at) hk0) fun f s₁ R₁ l₁ k₁ hf F₁ => ?_)) hs)
  (have q_ := Rd.valE hf; clear hf; subst q_)
  refine callWith_K0 (K := K3 C) (B.ins F₁.ro.hle0) (by kernel_rfl!) ?_
  refine noE (make_sorter B A s₁ _ (rm.le hn) F₁.ro) fun w s₂ h₂ => ?_
  obtain ⟨Z, rfl, k₂, S, hnew⟩ := h₂
  have F₂ := F₁.begin (X := Z.all Sd.start) k₂ hnew
  have off : ∀ {a o}, Mu a = some o → a ∉ Z.all Sd.start := fun {a o} e h => by
    have := (F₁.mu a o e).1; rw [hnew a h] at this; (have q_ := oNS this; clear this; exact q_.elim)
  have le₂ : R₁.le ((R₁.ext s₁.heap s₂.heap).minus (Z.all Sd.start)) := fun a o e => Reg.minus_some (fun h => by
    have := F₁.ro.on a o e; rw [hnew a h] at this; (have q_ := oNS this; clear this; exact q_.elim)) (Reg.ext_le F₁.ro.on a o e)
  refine F₂.store (.val _) (fun s₃ _ F₃ => k s₃ _ _ Z (l₁.trans le₂) (fun a o e => by simp only [off e, if_false]; exact e) (S.on fun a o ha e => by simp only [ha, if_true]; exact e) (fun a ha => ?_) F₃) hx
  cases z : s.heap.get? a with
  | none => rfl
  | some o => have := Keeps.hle k₁ _ _ z; rw [hnew a ha] at this; (have q_ := oNS this; clear this; exact q_.elim)
theorem st_addall {x so : Str} {xp xq sp ap cp ep p : Pos} {iter : Expr} {rest : List Stmt} {Z₀ : Srt} (L : List Nat) (hL : L.Nodup) (h7 : L.length ≤ 7) (Δ' : Vars)
    (F : Fra C s₀ R₀ V sc env W s R Mu Δ) (rm : Room n A) (hn : 4 ≤ n) (S : SAt C aT aN Mu Z₀ Sd.start) (hit : EvIt (C.at (Mu.minus (Z₀.all Sd.start))) n sc Δ iter (L.map fun (k : Nat) => Dat.int (k : Int)))
    (hΔ : ∀ y d, Δ' y = some d → Δ y = some d) (hso : Δ' so = some (.val (.ref Z₀.s))) (hx0 : Δ' x = none)
    (k : ∀ s' R' Mu' Z, R.le R' → SAt C aT aN Mu' Z (Sd.told L []) → Z.s = Z₀.s → (∀ a ∈ Z.all (Sd.told L []), a ∈ Z₀.all Sd.start ∨ Mu a = none) → Reg.keepsOff (Z₀.all Sd.start) Mu Mu' → Fra C s₀ R₀ V sc env W s' R' Mu' Δ' → wpAny C.M A (execs rest env) Q E s')
    (hx : sc.names.lookup x = some .local ∨ sc.names.lookup x = some .cell)
    (hxn : ((x == ("__debug__" : Str)) || (x == ("__classdict__" : Str))) = false := by decide +kernel) (hsn : ((so == ("__debug__" : Str)) || (so == ("__classdict__" : Str))) = false := by decide +kernel)
    {pl : Sem Bool} (hev : eval (.Call (.Attribute (.Name so sp) (Str.ofString "add") ap) [.Name x xq] [] cp) env = (do
      let ov ← eval (.Name so sp) env
      standAt ap.atName
      let (f, first) ← holding [ov] (getMethod ov (Str.ofString "add") pl)
      callWith cp f first (backTo cp (starEach [.Name x xq] env)) (backToKw cp (keywordEach [] env))) := by rfl)
    (hs : ∀ x, foldedSetIterable iter env x = pure x := by intro _; rfl) :
    wpAny C.M A (execs (.For (.Name x xp) iter [.Expr (.Call (.Attribute (.Name so sp) (Str.ofString "add") ap) [.Name x xq] [] cp) ep] [] p :: rest) env) Q E s := by
  have hne : so ≠ x := fun h => by rw [h, hx0] at hso; (have q_ := oNS hso; clear hso; exact q_.elim)
  refine st_forX (L := L) (enc := fun (k : Nat) => Dat.int (k : Int)) (tds := fun (k : Nat) => [.int (k : Int)]) [x] (Z₀.all Sd.start) (fun _ => Δ')
    (fun i _ M X => ∃ Z : Srt, Z.s = Z₀.s ∧ X = Z.all (Sd.told (L.take i) []) ∧ SAt C aT aN M Z (Sd.told (L.take i) [])) F rm hit hΔ (fun a ha => let ⟨o, e, _⟩ := S.obj ha; ⟨o, e⟩) (fun y hy => List.mem_singleton.mp hy ▸ hx) (fun a _ => ⟨rfl, rfl⟩)
    ?_ ⟨Z₀, rfl, rfl, S⟩ ?_ ?_ hs
  · rintro i R R' M M' X ⟨Z, h1, rfl, S⟩ _ he
    exact ⟨Z, h1, rfl, S.on fun a o ha e => (he a ha).trans e⟩
  · rintro i a s₁ R₁ M₁ X hi l₁ hk hX F₁ ⟨Z, h1, rfl, S₁⟩
    have hlt : i < L.length := (List.getElem?_eq_some_iff.mp hi).1
    have htk : L.take (i + 1) = L.take i ++ [a] := by rw [List.take_add_one, hi]; rfl
    have hna : a ∉ (Sd.told (L.take i) []).ks := by
      show a ∉ L.take i
      intro h
      have hh := hL.sublist (List.take_sublist (i + 1) L)
      rw [htk, List.nodup_append] at hh
      exact hh.2.2 a h a (by simp) rfl
    obtain ⟨h, t, m, hd⟩ := S₁.d
    have hF : Fra C s₀ R₀ V sc env W s₁ R₁ M₁ (upd Δ' x (.int (a : Int))) := F₁
    refine st_expr (hF.smeth rm B (k_add C) S₁ hd look_add (ev_name (by rw [upd_ne hne, hso, h1]) hsn) (evAll_cons (ev_name upd_same hxn) evAll_nil) ((add_new B hna (by show (L.take i).length < 7; rw [List.length_take]; omega) rfl).le hn) (fun v s₂ R₂ M₂ Z₂ σ₂ d hP hz l₂ hv F₂ S₂ hnew hold hoff => ?_) (hm := hev)) F.quiet
    obtain ⟨x₁, e₁, l₁', rfl, rfl, rfl⟩ := hP
    rw [Sd.told_grow, ← htk] at S₂ hnew hold
    refine st_nil ⟨R₂, M₂, _, l₂, hoff, hnew, F₂.weak fun y d e => ?_, _, hz.trans h1, rfl, S₂⟩
    by_cases hy : y = x
    · subst hy; rw [hx0] at e; (have q_ := oNS e; clear e; exact q_.elim)
    · rw [upd_ne hy]; exact e
  · rintro s₁ R₁ M₁ X l₁ hk hX F₁ ⟨Z, h1, rfl, S₁⟩
    rw [List.take_length] at S₁ hX
    exact k s₁ R₁ M₁ Z l₁ S₁ h1 hX hk F₁
end
end Mine
end
noncomputable section
open PySem PySem.W PyProof.Rows PySem.SeqAt PySem.MeetsSeq
set_option Elab.async false
set_option autoImplicit false
namespace Mine
theorem items_nils {C : Cx} {A : Around} {env : Env} : ∀ (ps : List Pos) (s : Shared) (p : Pos), wpAny C.M A (spliced (backTo p (starEach (ps.map fun q => Expr.List [] q) env)))
    (fun vs s' => Keeps s s' ∧ ∃ rows : List Addr, vs = rows.map Value.ref ∧ rows.length = ps.length ∧ rows.Nodup ∧ ∀ c ∈ rows, s.heap.get? c = none ∧ s'.heap.get? c = some (lstObj [] 0)) NoE s
  | [], s, p => wpAny_items_nil ⟨Keeps.rfl' _, [], rfl, rfl, List.nodup_nil, fun c h => nomatch h⟩
  | q :: ps, s, p => by
    refine wpAny_items_cons (e := .List [] q) (wpAny_List (wpAny_items_nil ⟨by rw [sizeLine_val]; simp, ?_⟩)) rfl
    have kp := Keeps.push s (lstObj [] 0)
    have fr : s.heap.get? s.heap.objs.size = none := fresh_none
    have at' : (s.heap.push (lstObj [] 0)).get? s.heap.objs.size = some (lstObj [] 0) := Heap.get?_push_size _ rfl
    refine noE (items_nils ps _ p) fun vs s₂ h => ?_
    obtain ⟨k, rows, rfl, hl, hn, hr⟩ := h
    refine ⟨Keeps.tr kp k, s.heap.objs.size :: rows, rfl, by simp [hl], List.nodup_cons.mpr ⟨fun h => ?_, hn⟩, fun c hc => ?_⟩
    · have := (hr _ h).1
      rw [show Heap.get? _ _ = _ from at'] at this; (have q_ := oSN this; clear this; exact q_.elim)
    · rcases List.mem_cons.mp hc with rfl | hc
      · exact ⟨fr, Keeps.hle k _ _ at'⟩
      · exact ⟨none_of_fresh kp (hr c hc).1, (hr c hc).2⟩
section
variable {C : Cx} {n : Nat} {s₀ : Shared} {R₀ : Reg} {V : List Addr} {sc : Scope} {env : Env} {W : List Addr} {s : Shared} {R Mu : Reg} {Δ : Vars} {A : Around} {Q : Flow → Shared → Prop} {E : Value → Shared → Prop}
theorem st_dispNew {es : List Expr} {x : Str} {px q p : Pos} {rest : List Stmt} (ps : List Pos) (F : Fra C s₀ R₀ V sc env W s R Mu Δ) (hes : es = ps.map fun q => Expr.List [] q) (hlen : ps.length ≤ sizeLine)
    (k : ∀ (s' : Shared) (R' Mu' : Reg) (rows : List Addr), R.le R' → rows.Nodup → (∀ c ∈ rows, s.heap.get? c = none ∧ c ∉ V) → rows.length = ps.length →
      (∀ c ∈ rows, Mu' c = some (lstObj [] 0)) → (∀ a o, Mu a = some o → Mu' a = some o) →
      Fra C s₀ R₀ V sc env W s' R' Mu' (upd Δ x (.lst (rows.map fun c => .val (.ref c)))) → wpAny C.M A (execs rest env) Q E s')
    (hs : swapsWith (.List es p) (some (.Name x px)) q.line env = pure false := by rfl)
    (hx : sc.names.lookup x = some .local ∨ sc.names.lookup x = some .cell := by first | exact Or.inl rfl | exact Or.inr rfl) :
    wpAny C.M A (execs (.Assign [.Name x px] (.List es p) q :: rest) env) Q E s := by
  subst hes
  refine wpAny_execs_cons (wpAny_Assign_Name (wpAny_List (noE (items_nils ps s p) fun vs s₁ h => ?_)) hs)
  obtain ⟨k₁, rows, rfl, hl, hn, hr⟩ := h
  refine ⟨by simp [hl]; exact hlen, ?_⟩
  have kp := Keeps.push s₁ (lstObj (rows.map Value.ref) 0)
  have k₂ := Keeps.tr k₁ kp
  have hD₁ : s₁.heap.get? s₁.heap.objs.size = none := fresh_none
  have hDo : (s₁.heap.push (lstObj (rows.map Value.ref) 0)).get? s₁.heap.objs.size = some (lstObj (rows.map Value.ref) 0) := Heap.get?_push_size _ rfl
  have hDr : s₁.heap.objs.size ∉ rows := fun h => by have := (hr _ h).2; rw [hD₁] at this; (have q_ := oNS this; clear this; exact q_.elim)
  have hD := none_of_fresh k₁ hD₁
  generalize hs' : ({ s₁ with heap := s₁.heap.push { cls := .type "list", data := .seq (rows.map Value.ref).toArray } } : Shared) = s'
  have k₂' : Keeps s s' := by rw [← hs']; exact k₂
  have hrow : ∀ c ∈ rows, s'.heap.get? c = some (lstObj [] 0) := fun c hc => by rw [← hs']; exact Keeps.hle kp _ _ (hr c hc).2
  have hDo' : s'.heap.get? s₁.heap.objs.size = some (lstObj (rows.map Value.ref) 0) := by rw [← hs']; exact hDo
  generalize s₁.heap.objs.size = D at *
  have hnew : ∀ a ∈ D :: rows, s.heap.get? a = none := fun a ha => by
    rcases List.mem_cons.mp ha with rfl | ha
    · exact hD
    · exact (hr a ha).1
  have hvn : ∀ c, s.heap.get? c = none → c ∉ V := fun c h hv => by obtain ⟨o, e⟩ := F.vnew c hv; rw [h] at e; (have q_ := oNS e; clear e; exact q_.elim)
  have old : ∀ a o, Mu a = some o → a ∉ D :: rows := fun a o e h => by
    have e' := (F.mu a o e).1
    rw [hnew a h] at e'; (have q_ := oNS e'; clear e'; exact q_.elim)
  have l : R.le ((R.ext s.heap s'.heap).minus (D :: rows)) := fun a o e => Reg.minus_some (fun h => by have := F.ro.on a o e; rw [hnew a h] at this; (have q_ := oNS this; clear this; exact q_.elim)) (Reg.ext_le F.ro.on a o e)
  have F' := F.begin (X := D :: rows) k₂' hnew
  have hmD : (fun b => if b ∈ D :: rows then s'.heap.get? b else Mu b) D = some (lstObj (rows.map Value.ref) 0) := by simp only [List.mem_cons_self, if_true]; exact hDo'
  have F₂ := F'.freeze hmD (hvn D hD)
  refine F₂.store (.lst (ds := rows.map fun c => .val (.ref c)) (Reg.set_self _ _ _) ⟨rfl, rfl⟩ rfl ?_) (fun s'' _ F'' => k s'' _ _ rows (l.trans (F'.freeze_le hmD)) hn (fun c hc => ⟨(hr c hc).1, hvn c (hr c hc).1⟩) hl (fun c hc => ?_) (fun a o e => ?_) F'') hx
  · exact rdAll_refs _ rows
  · have hcD : c ≠ D := fun h => hDr (h ▸ hc)
    simp only [Reg.del, hcD, if_false, List.mem_cons, hc, or_true, if_true]; exact hrow c hc
  · have := old a o e
    have h1 : a ≠ D := fun h => this (h ▸ List.mem_cons_self)
    simp only [Reg.del, h1, if_false, this]; exact e
end
end Mine
end
noncomputable section
open PySem PySem.W PyProof.Rows PySem.SeqAt PySem.MeetsSeq
set_option Elab.async false
set_option autoImplicit false
set_option maxRecDepth 100000
namespace Mine
noncomputable abbrev rowsDN (rows : List (List Nat)) : Dat := .lst (rows.map fun r => .lst (encN r))
noncomputable abbrev rowsD (rows : List Addr) : Dat := .lst (rows.map fun c => .val (.ref c))
section
variable {C : Cx} {n : Nat} {sc : Scope} {Δ : Vars}
theorem evT_bool {e : Expr} {b : Bool} (he : Ev C n sc Δ e (.bool b)) (hs : ∀ env whole, isTrue e env whole = (do let v ← whole; standAt e.pos; holding [v] (truthy v)) := by intro _ _; rfl) : EvT C n sc Δ e b :=
  evT_plain he (fun A s R v rm ro hv => by (have q_ := Rd.boolE hv; clear hv; subst q_); exact wpAny_truthy_bool ⟨Keeps.rfl' _, rfl⟩) hs
end
section
variable {C : Cx} (B : Base C (K3 C))
include B
theorem rows_spec {cells : List Int} {o : Bool} (hl : cells.length ≤ 12) : CallOp C 6 (.ref 160) [encI cells, .bool o] (rowsDN (rowsL cells o)) := by
  have f := fnOk (xs := [Str.ofString "cells", Str.ofString "orderly"]) B (a := 160) rfl (by kernel_rfl!) rfl (by kernel_rfl!) (bind2 (fun _ _ => by kernel_rfl!))
  with_reducible refine callop_fn (n := 5) f (by simp) ?_
  intro A env W s₀ s R hsc rm F
  clear hsc
  dsimp only at F
  with_reducible refine cps fun Q hQ => ?_
  with_reducible refine st_dispNew [⟨141, 12, 141, 14⟩, ⟨141, 16, 141, 18⟩, ⟨141, 20, 141, 22⟩, ⟨141, 24, 141, 26⟩, ⟨141, 28, 141, 30⟩] F ?_ ?_ (fun s₁ R₁ M₁ rows l₁ hnd hnew hlen hrow hM₁ F₁ => ?_) ?_ ?_
  · rfl
  · rw [sizeLine_val]; decide
  rotate_left
  · rfl
  · exact Or.inl rfl
  have hlen' : rows.length = 5 := hlen
  have rowAt : ∀ i, i < 5 → ∃ c, rows[i]? = some c := fun i hi => ⟨rows[i]'(by omega), List.getElem?_eq_getElem _⟩
  have rowNe : ∀ {i j : Nat} {c : Addr}, rows[i]? = some c → rows[j]? = some c → i = j := fun {i j c} h1 h2 => by
    have hi : i < rows.length := (List.getElem?_eq_some_iff.mp h1).1
    exact (List.getElem?_inj hi hnd).mp (h1.trans h2.symm)
  have rowD : ∀ {k : Int} {c : Addr}, rows[k.toNat]? = some c → (rows.map fun c => Dat.val (.ref c))[k.toNat]? = some (.val (.ref c)) := fun {k c} h => by
    rw [List.getElem?_map, h]; rfl
  let Δl : Vars := ofL [(Str.ofString "cells", encI cells), (Str.ofString "orderly", .bool o), (Str.ofString "rows", rowsD rows)]
  refine st_for (L := cells) (enc := Dat.int) (tds := fun y => [.int y]) [Str.ofString "cell"] rows (fun _ => Δl)
    (fun i R M => ∀ (j : Nat) (c : Addr), rows[j]? = some c → ∃ vs n, M c = some (lstObj vs n) ∧ RdAll noM vs (encN (rowN (cells.take i) j))) F₁ rm (evIt_lst (ev_name rfl)) (AllIn.le ⟨rfl, rfl, rfl, trivial⟩) (fun a ha => ⟨_, hrow a ha⟩) (by decide +kernel) (fun _ _ => ⟨rfl, rfl⟩)
    (fun i R R' M M' hJ _ he j c hc => by obtain ⟨vs, n, e, q⟩ := hJ j c hc; exact ⟨vs, n, (he c (List.mem_of_getElem? hc)).trans e, q⟩) (fun j c hc => ⟨[], 0, hrow c (List.mem_of_getElem? hc), .nil⟩) ?_ ?_
  · intro i a s₂ R₂ M₂ hi l₂ off₂ F₂ hJ
    have h1 := Int.fmod_nonneg_of_pos a (show (0 : Int) < 5 by decide)
    have h2 := Int.fmod_lt_of_pos a (show (0 : Int) < 5 by decide)
    have h3 := Int.fmod_nonneg_of_pos (a.fdiv 5) (show (0 : Int) < 7 by decide)
    obtain ⟨c, hc⟩ := rowAt (a.fmod 5).toNat (by omega)
    obtain ⟨vs, m, e, q⟩ := hJ _ c hc
    have hz : vs.length ≤ sizeLine := by
      rw [q.length, List.length_map, sizeLine_val]
      have := rowN_len (cells.take i) (a.fmod 5).toNat
      rw [List.length_take] at this
      omega
    refine st_expr (mlist_append (d := .int ((a.fdiv 5).fmod 7)) F₂ rm (ev_sub (ev_name rfl) (ev_bin (ev_name rfl) ev_int (op_mod (by decide))) (op_item_lst (rowD hc) h1 (by rw [List.length_map, hlen', sizeLine_val]; decide))) (ev_bin (ev_bin (ev_name rfl) ev_int (op_div (by decide) (by decide))) ev_int (op_mod (by decide))) e hz fun s₅ R₅ w m' l₅ hw F₅ => ?_) F₂.quiet
    refine st_nil ⟨R₅, _, l₅, keepsOff_set (List.mem_of_getElem? hc), F₅.toL _ ⟨rfl, rfl, rfl, trivial⟩, fun j c' hc' => ?_⟩
    by_cases hj : c' = c
    · subst hj
      have := rowNe hc' hc
      subst this
      refine ⟨vs ++ [w], m', Reg.set_self _ _ _, ?_⟩
      rw [rowN_step cells i a hi, if_pos (by omega), encN, List.map_append]
      refine q.append ?_
      (have q_ := Rd.intE hw; clear hw; obtain ⟨_, rfl⟩ := q_)
      exact .cons (by show Rd noM _ (.int (((a.fdiv 5).fmod 7).toNat : Int)); rw [show (((a.fdiv 5).fmod 7).toNat : Int) = (a.fdiv 5).fmod 7 by omega]; exact .int _ _) .nil
    · obtain ⟨vs', n', e', q'⟩ := hJ j c' hc'
      refine ⟨vs', n', by rw [Reg.set_ne _ _ hj]; exact e', ?_⟩
      rw [rowN_step cells i a hi, if_neg (fun h => hj ?_), List.append_nil]
      · exact q'
      · have : j = (a.fmod 5).toNat := by omega
        rw [this, hc] at hc'; (have q_ := oSS hc'; clear hc'; subst q_); rfl
  · intro s₂ R₂ M₂ l₂ off₂ F₂ hJ
    rw [List.take_length] at hJ
    have hal : ∀ c ∈ rows, (∃ o, M₂ c = some o) ∧ c ∉ ([] : List Addr) := fun c hc => by
      refine ⟨?_, by simp⟩
      obtain ⟨i, hi, e⟩ := List.mem_iff_getElem.mp hc
      obtain ⟨vs, n, e, _⟩ := hJ i c (by rw [List.getElem?_eq_getElem hi, e])
      exact ⟨_, e⟩
    obtain ⟨R₃, M₃, l₃, hR₃, hM₃, F₃⟩ := F₂.freezeAll rows hal hnd
    have F₄ := F₃.reread2 (x := Str.ofString "rows") (d := rowsD rows) (d' := .lst ((List.range 5).map fun x => .lst (encN (rowN cells x)))) rfl (fun w hw => rd_refs hw (rdAll_of _ _ _ (by simp [hlen']) fun i w x hi hx => by
      rw [List.getElem?_map] at hi
      obtain ⟨c, hc, rfl⟩ := Option.map_eq_some_iff.mp hi
      have hi : i < 5 := by rw [← hlen']; exact (List.getElem?_eq_some_iff.mp hc).1
      rw [List.getElem?_range hi] at hx; (have q_ := oSS hx; clear hx; subst q_)
      obtain ⟨vs, n, e, q⟩ := hJ i c hc
      rw [encN_ints] at q
      exact .lst ((hR₃ c (List.mem_of_getElem? hc)).trans e) ⟨rfl, rfl⟩ rfl (by rw [encN_ints]; exact Rd.of_ints (Rd.ints q))))
    refine st_if F₄ rm (evT_bool (ev_name rfl)) fun s₅ R₅ l₅ F₅ => ?_
    cases o with
    | true =>
      refine st_ret (d := rowsDN (rowsL cells true)) F₅ rm (Ev.cast (ev_lc0 (L := (List.range 5).map (rowN cells)) (enc := fun r => .lst (encN r)) (tds := fun r => [.lst (encN r)]) (f := fun r => .lst (encN (ordN.filter fun k => r.contains k))) [Str.ofString "row"] (EvIt.cast (evIt_lst (ev_name rfl)) (by rw [List.map_map]; rfl)) (by kernel_rfl!) (fun _ _ => ⟨rfl, rfl⟩) (fun r _ => ?_) (by rw [sizeLine_val]; simp)) (by simp [rowsL, rowsDN, List.map_map, Function.comp_def])) fun s₆ R₆ w l₆ F₆ hw => hQ _ _ ⟨w, rfl, F₆.post hw⟩
      refine ev_lc (L := ordN) (enc := fun (k : Nat) => Dat.int (k : Int)) (tds := fun (k : Nat) => [.int (k : Int)]) (p := fun k => r.contains k) (f := fun (k : Nat) => Dat.int (k : Int)) [Str.ofString "name"] (evIt_tup (ev_lit 3 (by kernel_rfl!))) (by kernel_rfl!) (fun _ _ => ⟨rfl, rfl⟩) (fun k _ => evT_cmp (ev_name rfl) (ev_name rfl) op_in_N) (fun _ _ _ => ev_name rfl) (by rw [sizeLine_val]; decide)
    | false =>
      refine st_nil ?_
      exact st_ret (d := rowsDN (rowsL cells false)) F₅ rm (Ev.cast (ev_name rfl) (by simp [rowsL, rowsDN])) fun s₆ R₆ w l₆ F₆ hw => hQ _ _ ⟨w, rfl, F₆.post hw⟩
end
end Mine
end
noncomputable section
open PySem PySem.W PyProof.Rows PySem.SeqAt PySem.MeetsSeq
set_option Elab.async false
set_option autoImplicit false
set_option maxRecDepth 100000
namespace Mine
section
variable {C : Cx} {n : Nat} {s₀ : Shared} {R₀ : Reg} {V : List Addr} {sc : Scope} {env : Env} {W : List Addr} {s s' : Shared} {R R' Mu Mu' : Reg} {Δ Δ' : Vars} {A : Around} {E : Value → Shared → Prop} {Q : Flow → Shared → Prop}
theorem st_iterC {x f : Str} {xp fp cp q : Pos} {e : Expr} {ds : List Dat} {rest : List Stmt} (F : Fra C s₀ R₀ V sc env W s R Mu Δ) (rm : Room n A) (hf : Ev (C.at Mu) n sc Δ (.Name f fp) (.val (.builtin "iter"))) (he : Ev (C.at Mu) n sc Δ e (.lst ds))
    (k : ∀ s' R' I l vs, R.le R' → Iter (C.at noM) (.ref I) [I] ds R' (fun i h => h.IsListIter I l i ∧ h.IsList l (vs : List Value).toArray) → s'.heap.IsListIter I l 0 → s'.heap.IsList l vs.toArray → RdAll R' vs ds → (∃ o, R' l = some o) → (∃ o, s'.heap.get? I = some o ∧ ∀ v, o.data ≠ .cell v) → s.heap.get? I = none → Fra C s₀ R₀ V sc env W s' R' (fun a => if a ∈ [I] then s'.heap.get? a else Mu a) (upd Δ x (.val (.ref I))) → wpAny C.M A (execs rest env) Q E s')
    (hs : starEach [e] env = [(false, eval e env)] := by rfl)
    (hsw : swapsWith (.Call (.Name f fp) [e] [] cp) (some (.Name x xp)) q.line env = pure false := by rfl) (hx : sc.names.lookup x = some .local ∨ sc.names.lookup x = some .cell := by first | exact Or.inl rfl | exact Or.inr rfl) :
    wpAny C.M A (execs (.Assign [.Name x xp] (.Call (.Name f fp) [e] [] cp) q :: rest) env) Q E s := by
  refine wpAny_execs_cons (wpAny_Assign_Name (Call_ (F.ev rm hf fun fv s₁ R₁ l₁ k₁ hfv F₁ => ?_)) hsw)
  (have q_ := Rd.valE hfv; clear hfv; subst q_)
  refine callWith_method1 (first := []) (wpAny_items_cons (F₁.ev rm he fun v s₂ R₂ l₂ k₂ hv F₂ => wpAny_items_nil ?_) hs) hs rfl
  obtain ⟨l, rfl⟩ := hv.lst_ref
  obtain ⟨vs, hL, hr⟩ := hv.isList F₂.ro.on
  refine Calls.call_function_entry (by decide +kernel) (by decide +kernel) kdk_entry_iter (kdk_args_iter _) ?_
  unfold Builtin.«iter»
  refine wpAny_bind (m := someArgs "iter" 1 2 _) (wpAny_of_eq (a := [Value.ref l]) (by first | rfl | kernel_rfl!) ?_)
  show wpAny _ _ (pyIter (.ref l) >>= _) _ _ _
  refine wpAny_bind (wpAny_pyIter_list hL (wpAny_pure ⟨_, rfl, ?_⟩))
  have kI := Keeps.push s₂ { cls := .type "list_iterator", data := .fields #[.ref l, .int 0 0] }
  have hI0 : s₂.heap.get? s₂.heap.objs.size = none := fresh_none
  have F₃ := F₂.begin (X := [s₂.heap.objs.size]) kI (fun a ha => by rw [List.mem_singleton.mp ha]; exact hI0)
  have up₃ := new_up (o := { cls := .type "list_iterator", data := .fields #[.ref l, .int 0 0] }) F₂.ro.on
  have hget := Heap.get?_push_size (o := { cls := .type "list_iterator", data := .fields #[.ref l, .int 0 0] }) s₂.heap rfl
  generalize hR₃ : (R₂.ext s₂.heap (s₂.heap.push { cls := .type "list_iterator", data := .fields #[.ref l, .int 0 0] })).minus [s₂.heap.objs.size] = R₃ at *
  refine F₃.store (.val _) (fun s₄ k₄ F₄ => ?_) hx
  have hnW : s₂.heap.objs.size ∉ W := fun h => by obtain ⟨o, z⟩ := F₂.ew.isW h; rw [hI0] at z; (have q_ := oNS z; clear z; exact q_.elim)
  have hget₄ := k₄.get hnW hget
  cases hv with
  | lst e1 e2 e3 e4 =>
    have hvs := hL
    obtain ⟨o', ho', hc', n', hd'⟩ := hL
    have h5 := F₂.ro.on _ _ e1
    rw [h5] at ho'; (have q_ := oSS ho'; clear ho'; subst q_)
    refine k s₄ R₃ s₂.heap.objs.size l vs (l₁.trans (l₂.trans up₃)) (iter_list (up₃ _ _ e1) hc' hd' (hr.mono up₃) ?_) ⟨_, hget₄, rfl, rfl⟩ ⟨_, F₄.ro.on _ _ (up₃ _ _ e1), hc', n', hd'⟩ (hr.mono up₃) ⟨_, up₃ _ _ e1⟩ ⟨_, hget₄, fun _ q => nomatch q⟩ ?_ ?_
    · rw [← hR₃]; exact Reg.minus_off (by simp)
    · cases z : s.heap.get? s₂.heap.objs.size with
      | none => rfl
      | some o => have := Keeps.hle (Keeps.tr k₁ k₂) _ _ z; rw [fresh_none] at this; (have q_ := oNS this; clear this; exact q_.elim)
    · refine F₄.fewer fun a o e => ?_
      simp only at e ⊢
      split at e
      · rename_i h
        rw [List.mem_singleton.mp h] at e ⊢
        rw [hget₄] at e; (have q_ := oSS e; clear e; subst q_)
        rw [if_pos (by simp)]; exact hget
      · rename_i h; rw [if_neg h]; exact e
end
end Mine
end
noncomputable section
open PySem PySem.W PyProof.Rows PySem.SeqAt PySem.MeetsSeq
set_option Elab.async false
set_option autoImplicit false
set_option maxRecDepth 100000
namespace Mine
section
variable {C : Cx} (B : Base C (K3 C))
include B
theorem g_missing : GlobIs C (Str.ofString "_initial_missing") (.ref 142) := glob_own B (by kernel_rfl!)
theorem g_next : GlobIs C (Str.ofString "next") (.builtin "next") := glob_bui B (by kernel_rfl!) (by decide +kernel) (by decide +kernel)
theorem g_stopE : GlobIs C (Str.ofString "StopIteration") (.type "StopIteration") := glob_bui B (by kernel_rfl!) (by decide +kernel) (by decide +kernel)
theorem g_typeE : GlobIs C (Str.ofString "TypeError") (.type "TypeError") := glob_bui B (by kernel_rfl!) (by decide +kernel) (by decide +kernel)
theorem reduce_empty {f : Addr} : XCall C 3 150 [.val (.ref f), .lst []] (.type "TypeError") := by
  refine xcall_fn (n := 2) (xs := [Str.ofString "function", Str.ofString "sequence", Str.ofString "initial"]) (es := [.val (.ref f), .lst [], .val (.ref 142)]) (fnC B rfl (by kernel_rfl!) rfl (by kernel_rfl!)) rfl (fun R s vs ro hr => bnd_all2 hr fun _ _ hr => bnd_dflt (w := .ref 142) ro.on rfl (ro.hle0 _ _ (B.K _ _ rfl)) rfl rfl (by kernel_rfl!) hr (.val _)) ?_
  intro A Out env W s₀ s R R₁ Mu hsc hf hfr Lv up hb1 hb2 rm F
  refine st_iterC F rm (ev_glob (g_iter B.at) rfl) (ev_name rfl) fun s₁ R₂ I l vs l₁ It hI hL hr hRl hIo hI0 F₁ => ?_
  refine st_if F₁ rm (evT_cmp (ev_name rfl) (ev_glob (g_missing B.at) rfl) op_is_self) fun s₂ R₃ l₂ F₂ => ?_
  have hv0 : vs = [] := by (have q_ := RdAll.nilE hr; clear hr; subst q_); rfl
  subst hv0
  have U₁ : UpTo (frs Out) Mu (fun a => if a ∈ [I] then s₁.heap.get? a else Mu a) := .of fun a ha o e => by
    have hne : a ∉ [I] := fun h => by
      have := (F.mu a o e).1
      rw [List.mem_singleton.mp h, hI0] at this; (have q_ := oNS this; clear this; exact q_.elim)
    simp only [hne, if_false]; exact e
  obtain ⟨hI₂, hL₂⟩ : s₂.heap.IsListIter I l 0 ∧ s₂.heap.IsList l ([] : List Value).toArray := It.frame 0 _ _ ⟨hI, hL⟩ (fun b hb ob eb => by
    have hb' := List.mem_singleton.mp hb
    subst hb'
    exact (F₂.mu _ _ (by simp only [List.mem_singleton, if_true]; exact eb)).1) (F₂.ro.on.le l₂) (fun _ _ e => nomatch e)
  have hs0 : s₀.heap.get? I = none := by
    cases q : s₀.heap.get? I with
    | none => rfl
    | some o =>
      by_cases hb : I ∈ frs Out
      · obtain ⟨sl, e1⟩ := up I hb o q
        rw [(F.mu _ _ e1).1] at hI0; (have q_ := oSN hI0; clear hI0; exact q_.elim)
      · rw [F.keep.get hb q] at hI0; (have q_ := oSN hI0; clear hI0; exact q_.elim)
  exact st_try_end F₂ rm hfr hf (Lv.up U₁) (up.trans U₁) hb1 hb2 (ev_glob (g_next B.at) rfl) (ev_name rfl) hI₂ hL₂ (by simp) hs0 (g_stopE B.at) rfl (g_typeE B.at) rfl
end
end Mine
end
noncomputable section
open PySem PySem.W PyProof.Rows PySem.SeqAt PySem.MeetsSeq
set_option Elab.async false
set_option autoImplicit false
set_option maxRecDepth 100000
namespace Mine
noncomputable abbrev fnL (name qual : Str) (params : Arguments) (body : List Stmt) (scope : Scope) (cl : List (Str × Addr)) (doc pm : Value) (cv ct : Value) : FuncData := fnX name qual params body scope cl .none .none doc pm none cv ct
section
variable {C : Cx} {s₀ : Shared} {R₀ : Reg} {V : List Addr} {sc : Scope} {env : Env} {W : List Addr} {s s' : Shared} {R R' Mu Mu' : Reg} {Δ Δ' : Vars} {n : Nat} {A : Around} {E : Value → Shared → Prop} {Q : Flow → Shared → Prop}
theorem st_def {c P : Addr} {l : List Value} {name : Str} {params : Arguments} {body rest : List Stmt} {scope : Scope} {pos : Pos} (F : Fra C s₀ R₀ V sc env W s R Mu Δ) (T : TabBase C c P) (hc : env.code = .ref c)
    (hP : Mu P = some (tabObj l.toArray)) (ht : TriplesOk l) (hnf : codeAmong pos l = none) (hB : freeB sc scope Δ = true)
    (k : ∀ s' R' f c' doc pm ctv, R.le R' → LamAt R' f (fnL name (qualnameIn env name name) params body scope (clFrom env scope.names []) doc pm (.ref c') ctv) →
      Fra C s₀ R₀ V sc env W s' R' (Mu.set P (tabObj (l ++ [rawInt pos.line, rawInt pos.col, .ref c']).toArray)) (upd Δ name (.val (.ref f))) → wpAny C.M A (execs rest env) Q E s')
    (hd0 : params.defaults = [] := by rfl) (hk0 : params.kw_defaults = [] := by rfl) (ha : annTrees params none env = [] := by rfl)
    (hx : sc.names.lookup name = some .local ∨ sc.names.lookup name = some .cell := by first | exact Or.inl rfl | exact Or.inr rfl) :
    wpAny C.M A (execs (.FunctionDef name params body [] none [] scope none name pos :: rest) env) Q E s := by
  obtain ⟨mg, hg, hb, hC, hgP⟩ := T
  have k0 := F.ro.hle0
  have hP' := (F.mu _ _ hP).1
  have hPR := (F.mu _ _ hP).2.1
  refine wpAny_execs_cons (nestDef_K hd0 hk0 ha ?_)
  refine makeFunction_K (mg := mg) (closure_eq (F.freeCells hB)) F.eo.gl (hg.keeps k0) hc (hC.keeps k0) hP' (by simpa using ht) (by simpa using hnf) hgP (builtinsAt_keeps hb k0) fun c' ctv doc h' tk hx' hge hlt hrec htb => ?_
  generalize hfo : (fnMade name (qualnameIn env name name) params body scope (clFrom env scope.names []) doc ((mg "__name__").getD .none) c' ctv) = fo
  have hsz : s.heap.objs.size ≤ h'.objs.size := Nat.le_trans hge (Nat.le_of_lt hlt)
  have kb : KeepsBut [P] s { s with heap := h'.push fo, toks := tk } := ⟨_, tk, rfl, fun b ob hb e => Heap.get?_push_of_some _ (hx' b ob (fun h => hb (h ▸ List.mem_singleton_self _)) e)⟩
  have hPs : (h'.push fo).get? P = some (tabObj (l ++ [rawInt pos.line, rawInt pos.col, .ref c']).toArray) := Heap.get?_push_of_some _ (by rw [htb]; simp)
  have fr : ∀ a oa, s.heap.get? a = none → (h'.push fo).get? a = some oa → R.ext s.heap (h'.push fo) a = some oa := fun a oa e e' => by simp only [Reg.ext, e]; exact e'
  have dead : ∀ a, s.heap.objs.size ≤ a → s.heap.get? a = none := fun a ha => by
    cases e : s.heap.get? a with
    | none => rfl
    | some o' => exact absurd (Heap.lt_size e) (Nat.not_lt.mpr ha)
  have hL : LamAt (R.ext s.heap (h'.push fo)) h'.objs.size (fnL name (qualnameIn env name name) params body scope (clFrom env scope.names []) doc ((mg "__name__").getD .none) (.ref c') ctv) := by
    refine ⟨⟨fo, fr _ _ (dead _ hsz) (Heap.get?_push_size _ (by rw [← hfo]; rfl)), by rw [← hfo]⟩, ?_⟩
    obtain ⟨c₂, oc, vs, t, e2, hoc, hd, hv⟩ := hrec
    (have q_ := vRR e2; clear e2; subst q_)
    exact ⟨c', oc, vs, t, rfl, fr _ _ (dead _ hge) (Heap.get?_push_of_some _ hoc), hd, hv⟩
  have F₁ : Fra C s₀ R₀ V sc env W { s with heap := h'.push fo, toks := tk } (R.ext s.heap (h'.push fo)) (Mu.set P (tabObj (l ++ [rawInt pos.line, rawInt pos.col, .ref c']).toArray)) Δ := by
    refine F.stepG (X := [P]) kb (fun a ha => ?_) (fun a ha => ?_) (Reg.ext_le F.ro.on) (Reg.le.refl _) fun a o e => ?_
    · rw [List.mem_singleton.mp ha]; exact ⟨_, hP, fun v e => nomatch e⟩
    · rw [List.mem_singleton.mp ha]; exact ⟨_, hPs⟩
    · by_cases ha : a = P
      · subst ha
        rw [Reg.set_self] at e; (have q_ := oSS e; clear e; subst q_)
        exact ⟨hPs, ext_off hP' hPR, .inl ⟨_, hP⟩⟩
      · rw [Reg.set_ne _ _ ha] at e
        obtain ⟨h1, h2, h3, h4⟩ := F.mu a o e
        exact ⟨kb.get (by simpa using ha) h1, ext_off h1 h2, .inl ⟨o, e⟩⟩
  exact F₁.store (.val _) (fun s₂ _ F₂ => k s₂ _ _ c' doc _ ctv (Reg.ext_le F.ro.on) hL F₂) hx
end
structure DefFd (fd : FuncData) (xs : List Str) (body : List Stmt) : Prop where
  co : fd.scope.isCoroutine = false
  gen : fd.scope.isGenerator = false
  body' : fd.body = .stmts body
  glob : fd.globals = mainGlobals
  bui : fd.builtins = builtinsNs
  kind : fd.scope.kind = .function
  uniq : (fd.scope.names.map (·.1)).Nodup
  par : ∀ x ∈ xs, fd.scope.names.lookup x = some .local ∨ fd.scope.names.lookup x = some .cell
  bind : ∀ vs : List Value, vs.length = xs.length → bindArgs fd ⟨vs, []⟩ = pure (xs.zip vs)
theorem defFd {name qual : Str} {params : Arguments} {body : List Stmt} {scope : Scope} {cl : List (Str × Addr)} {doc pm cdv ct : Value} {xs : List Str} (hB : (!scope.isCoroutine && !scope.isGenerator && scope.kind == .function && decide (scope.names.map (·.1)).Nodup && xs.all (fun x => scope.names.lookup x == some .local || scope.names.lookup x == some .cell)) = true)
    (h5 : ∀ vs : List Value, vs.length = xs.length → bindArgs (fnL name qual params body scope cl doc pm cdv ct) ⟨vs, []⟩ = pure (xs.zip vs)) : DefFd (fnL name qual params body scope cl doc pm cdv ct) xs body := by
  simp only [Bool.and_eq_true, Bool.not_eq_true', beq_iff_eq, decide_eq_true_eq, List.all_eq_true, Bool.or_eq_true] at hB
  obtain ⟨⟨⟨⟨a, b⟩, c⟩, d⟩, e⟩ := hB
  exact ⟨a, b, rfl, rfl, rfl, c, d, e, h5⟩
noncomputable def CloP (f : Addr) (fd : FuncData) (Δc : Vars) (s : Shared) (R : Reg) : Prop := LamAt R f fd ∧ CloOk fd.scope fd.closure s.heap R Δc
section
variable {C : Cx} {n : Nat} {A : Around} {s : Shared} {R : Reg}
theorem def_call {f : Addr} {fd : FuncData} {xs : List Str} {body : List Stmt} {Δc : Vars} {vs : List Value} {ds : List Dat} {Rs : Result → Shared → Prop} (L : DefFd fd xs body) (hl : xs.length = ds.length) (nl : C.h₀.NoLimit) (rm : Room (n + 1) A) (ro : Rok (C.at noM) R s.heap) (hp : CloP f fd Δc s R) (hr : RdAll R vs ds)
    (h : ∀ env W s', env.scope = fd.scope → Room n (A.deeper env) → Fra C s R [] fd.scope env W s' R noM (updAll Δc xs ds) → wpAny C.M (A.deeper env) (execs body env) (fun fl s₂ => Rs (.ok (.ret (match fl with | .ret v => v | _ => .none))) s₂)
      (fun e s' => wpAny C.M (A.deeper env) (leaving env e) (fun _ s'' => Rs (.error e) s'') (fun e' s'' => Rs (.error e') s'') s') s') :
    codeAny C.M A (.call (.ref f) ⟨vs, []⟩) Rs s := by
  obtain ⟨⟨⟨o, ho, hd⟩, hcd⟩, hclo⟩ := hp
  refine codeAny_call_function rm.lt (ro.on _ _ ho) hd L.co L.gen L.body' (hcd.on ro.on) ?_
  rw [L.bind vs (by rw [hr.length, hl]), L.glob, L.bui]
  refine wpAny_pure (fn_frame ro L.kind L.uniq hclo hr hl L.par fun env W s' e1 e2 e3 e4 _ F => ⟨nl.keeps F.ro.hle0, ?_⟩)
  exact codeAny_func (h env W s' e1 rm.deeper F)
theorem callh_def {f : Addr} {fd : FuncData} {xs : List Str} {body : List Stmt} {Δc : Vars} {M : Reg} {ds : List Dat} {d : Dat} (L : DefFd fd xs body) (hl : xs.length = ds.length) (nl : C.h₀.NoLimit)
    (h : ∀ A env W s₀ s R, env.scope = fd.scope → Room n A → Fra C s₀ R [] fd.scope env W s R noM (updAll Δc xs ds) → wpAny C.M A (execs body env) (fun fl s₂ => ∃ v, fl = .ret v ∧ Post s₀ R d v s₂) NoE s) :
    CallH C (n + 1) (LamP f fd Δc M) (.ref f) ds d := by
  intro A s R vs rm ro hp hr
  refine wpAny_call (def_call L hl nl rm ro ⟨hp.1, hp.2.1⟩ hr fun env W s' e rm' F => ?_)
  refine noE (h _ env W s s' R e rm' F) fun fl s₂ p => ?_
  obtain ⟨v, rfl, p⟩ := p
  exact p
noncomputable def TCall (C : Cx) (cT cN : Addr) (n : Nat) (g f : Addr) (fd : FuncData) (Δc : Vars) (ds : List Dat) (Z : Srt) (σ σ' : Sd) (d : Dat) : Prop :=
  ∀ A s R vs, Room n A → Rok (C.at noM) R s.heap → CloP f fd Δc s R → RdAll R vs ds → SAt C cT cN s.heap.get? Z σ → (∀ a ∈ Z.all σ, R a = none) →
    wpAny C.M A (call (.ref g) vs) (fun v s' => SPost C cT cN s R Z σ v s' Z σ' d) NoE s
theorem TCall.le {cT cN : Addr} {k : Nat} {g f : Addr} {fd : FuncData} {Δc : Vars} {ds : List Dat} {Z : Srt} {σ σ' : Sd} {d : Dat} (h : TCall C cT cN k g f fd Δc ds Z σ σ' d) (hk : k ≤ n) : TCall C cT cN n g f fd Δc ds Z σ σ' d := fun A s R vs r => h A s R vs (r.le hk)
variable {cT cN : Addr} {Z : Srt} {σ σ' : Sd} {f : Addr} {fd : FuncData} {Δc : Vars} {xs : List Str} {body : List Stmt} {ds es : List Dat} {d : Dat}
noncomputable abbrev TBody (C : Cx) (cT cN : Addr) (n : Nat) (f : Addr) (fd' : FuncData) (Δc : Vars) (fd : FuncData) (body : List Stmt) (Δ₀ : Vars) (Z : Srt) (σ σ' : Sd) (d : Dat) : Prop :=
  ∀ A env W s₀ s R R₁ Mu, env.scope = fd.scope → Room n A → CloP f fd' Δc s₀ R → (∀ a ∈ Z.all σ, ∃ o, s₀.heap.get? a = some o ∧ ∀ v, o.data ≠ .cell v) → Fra C s₀ R (Z.all σ) fd.scope env W s R₁ Mu Δ₀ → SAt C cT cN Mu Z σ →
      wpAny C.M A (execs body env) (fun fl s₂ => ∃ R₂ Mu₂ Δ₂ v, fl = .ret v ∧ Fra C s₀ R (Z.all σ) fd.scope env W s₂ R₂ Mu₂ Δ₂ ∧ SAt C cT cN Mu₂ Z σ' ∧ (∀ a ∈ Z.all σ', a ∈ Z.all σ ∨ s₀.heap.get? a = none) ∧ (∀ a ∈ Z.all σ, a ∈ Z.all σ') ∧ Rd R₂ v d) NoE s
theorem tpost {s₂ : Shared} {env : Env} {W : List Addr} {sc : Scope} {R₂ Mu₂ : Reg} {Δ₂ : Vars} {v : Value} (ro : Rok (C.at noM) R s.heap) (F₂ : Fra C s R (Z.all σ) sc env W s₂ R₂ Mu₂ Δ₂) (S₂ : SAt C cT cN Mu₂ Z σ') (hn : ∀ a ∈ Z.all σ', a ∈ Z.all σ ∨ s.heap.get? a = none) (ho : ∀ a ∈ Z.all σ, a ∈ Z.all σ') (hv : Rd R₂ v d) : SPost C cT cN s R Z σ v s₂ Z σ' d := by
  refine ⟨rfl, F₂.keep, S₂.on fun a o _ e => (F₂.mu a o e).1, hn, ho, hv.mono fun b ob e => ?_⟩
  refine Reg.minus_some (fun hb => ?_) ?_
  · obtain ⟨o', e', _⟩ := S₂.obj hb
    rw [(F₂.mu b o' e').2.1] at e; (have q_ := oNS e; clear e; exact q_.elim)
  · have on := F₂.ro.on b ob e
    rcases F₂.sub b ob e with q | q
    · simp only [Reg.ext, ro.on b ob q]; exact q
    · simp only [Reg.ext, q]; exact on
theorem tlent {env : Env} {W : List Addr} {sc : Scope} {s' : Shared} {R' : Reg} {Δ₀ : Vars} (F : Fra C s R [] sc env W s' R' noM Δ₀) (S : SAt C cT cN s.heap.get? Z σ) (hR : ∀ a ∈ Z.all σ, R a = none) : Fra C s R (Z.all σ) sc env W s' R' (fun a => if a ∈ Z.all σ then s.heap.get? a else none) Δ₀ ∧ SAt C cT cN (fun a => if a ∈ Z.all σ then s.heap.get? a else none) Z σ :=
  ⟨F.lent (fun a ha => by
    cases q : R' a with
    | none => rfl
    | some o =>
      rcases F.sub a o q with h | h
      · rw [hR a ha] at h; (have q_ := oNS h; clear h; exact q_.elim)
      · obtain ⟨o', e', _⟩ := S.obj ha; rw [e'] at h; (have q_ := oSN h; clear h; exact q_.elim)) (fun a ha => let ⟨o, e, _⟩ := S.obj ha; ⟨o, e⟩), S.on fun a o ha e => by simp only [ha, if_true]; exact e⟩
theorem tcall_def (L : DefFd fd xs body) (hl : xs.length = ds.length) (nl : C.h₀.NoLimit) (h : TBody C cT cN n f fd Δc fd body (updAll Δc xs ds) Z σ σ' d) : TCall C cT cN (n + 1) f f fd Δc ds Z σ σ' d := by
  intro A s R vs rm ro hp hr S hR
  refine wpAny_call (def_call L hl nl rm ro hp hr fun env W s' e rm' F => ?_)
  obtain ⟨F', S'⟩ := tlent F S hR
  refine noE (h _ env W s s' R R _ e rm' hp (fun a ha => S.obj ha) F' S') fun fl s₂ p => ?_
  obtain ⟨R₂, Mu₂, Δ₂, v, rfl, F₂, S₂, hn, ho, hv⟩ := p
  exact tpost ro F₂ S₂ hn ho hv
theorem tcall_fn {a : Addr} {fd' : FuncData} (k : FnC C a fd xs body) (hl : xs.length = es.length)
    (hb : ∀ R s vs, Rok (C.at noM) R s.heap → RdAll R vs ds → Bnd C fd vs xs es R s) (h : TBody C cT cN n f fd' Δc fd body (updAll noV xs es) Z σ σ' d) : TCall C cT cN (n + 1) a f fd' Δc ds Z σ σ' d := by
  intro A s R vs rm ro hp hr S hR
  refine wpAny_call (fn_callB k rm ro (hb R s vs ro hr) hl fun env W s' R' e rm' F => ?_)
  obtain ⟨F', S'⟩ := tlent F S hR
  refine noE (h _ env W s s' R R' _ e rm' hp (fun a ha => S.obj ha) F' S') fun fl s₂ p => ?_
  obtain ⟨R₂, Mu₂, Δ₂, v, rfl, F₂, S₂, hn, ho, hv⟩ := p
  exact tpost ro F₂ S₂ hn ho hv
end
section
variable {C : Cx} {cT cN : Addr} {s₀ : Shared} {R₀ : Reg} {V : List Addr} {sc : Scope} {env : Env} {W : List Addr} {s s' : Shared} {R R' Mu Mu' : Reg} {Δ Δ' : Vars} {n : Nat} {A : Around} {E : Value → Shared → Prop} {Z : Srt} {σ σ' : Sd} {f : Addr} {fd : FuncData} {Δc : Vars} {ds : List Dat} {d : Dat}
theorem CloOk.but {X : List Addr} {scope : Scope} {clo : List (Str × Addr)} {h h' : Heap} (x : CloOk scope clo h R Δc) (k : ∀ b o, b ∉ X → h.get? b = some o → h'.get? b = some o) (hX : ∀ a ∈ X, ∃ o, h.get? a = some o ∧ ∀ v, o.data ≠ .cell v) (l : R.le R') : CloOk scope clo h' R' Δc := by
  have cell : ∀ c v, h.IsCell c v → h'.IsCell c v := fun c v ⟨o, a, b⟩ => by
    refine ⟨o, k c o (fun hc => ?_) a, b⟩
    obtain ⟨o', a', b'⟩ := hX c hc
    rw [a] at a'; (have q_ := oSS a'; clear a'; subst q_)
    exact b' _ b
  exact ⟨fun y d e => let ⟨a, c, v, p, q, r⟩ := x.vars y d e; ⟨a, c, v, p, cell _ _ q, r.mono l⟩, fun y c e => let ⟨v, p⟩ := x.alive y c e; ⟨v, cell _ _ p⟩⟩
theorem Fra.tcall {fe e : Expr} {es : List Expr} {p : Pos} {g : Addr} {o : Obj} {fg : FuncData} {Qv : Value → Shared → Prop} (F : Fra C s₀ R₀ V sc env W s R Mu Δ) (rm : Room n A) (hf : Ev (C.at Mu) n sc Δ fe (.val (.ref g))) (hfo : R g = some o) (hdat : o.data = .func fg)
    (ha : EvAll (C.at Mu) n sc Δ (e :: es) ds) (S : SAt C cT cN Mu Z σ) (hP : CloP f fd Δc s R) (hc : TCall C cT cN n g f fd Δc ds Z σ σ' d)
    (h : ∀ v s' R' Mu', R.le R' → Rd R' v d → Fra C s₀ R₀ V sc env W s' R' Mu' Δ → SAt C cT cN Mu' Z σ' → KeepsBut (Z.all σ) s s' → (∀ a ∈ Z.all σ', a ∈ Z.all σ ∨ s.heap.get? a = none) → Reg.keepsOff (Z.all σ) Mu Mu' → (∀ a, a ∉ Z.all σ' → Mu' a = Mu a) → Qv v s')
    (he : starEach (e :: es) env = (false, eval e env) :: starEach es env := by rfl)
    (hev : ∀ {M : Model} {E : Value → Shared → Prop} {Q : Value → Shared → Prop} {s : Shared}, wpAny M A (eval fe env) (fun v s' => wpAny M A (callWith p v [] (backTo p (starEach (e :: es) env)) []) Q E s') E s → wpAny M A (eval (.Call fe (e :: es) [] p) env) Q E s := by intro _ _ _ _ h; exact Call_ h) :
    wpAny C.M A (eval (.Call fe (e :: es) [] p) env) Qv E s := by
  refine hev (F.ev rm hf fun fv s₁ R₁ l₁ k₁ hfv F₁ => ?_)
  (have q_ := Rd.valE hfv; clear hfv; subst q_)
  refine callWith_def hdat (F₁.evAll rm ha fun vs s₂ R₂ l₂ k₂ hvs F₂ => ?_) he
  refine ⟨F₂.ro.on _ _ (l₂ _ _ (l₁ _ _ hfo)), ?_⟩
  have k12 := Keeps.tr k₁ k₂
  refine noE (hc A s₂ R₂ vs rm F₂.ro ⟨hP.1.mono (l₁.trans l₂), hP.2.mono (Keeps.hle k12) (l₁.trans l₂)⟩ hvs (S.on fun a o _ e => (F₂.mu a o e).1) (fun a ha => let ⟨o, e, _⟩ := S.obj ha; (F₂.mu a o e).2.1)) fun v s₃ p₃ => ?_
  obtain ⟨F', S'⟩ := p₃.fra F₂ S
  have hn : ∀ a ∈ Z.all σ', a ∈ Z.all σ ∨ s.heap.get? a = none := fun a ha => (p₃.new a ha).imp id fun q => by
    cases z : s.heap.get? a with
    | none => rfl
    | some o => rw [Keeps.hle k12 _ _ z] at q; (have q_ := oSN q; clear q; exact q_.elim)
  refine h v s₃ _ _ (l₁.trans (l₂.trans (p₃.region F₂ S))) p₃.val F' S' ((KeepsBut.of k12).tr p₃.keep) hn (fun a o ha e => ?_) (fun a ha => by simp only [ha, if_false])
  have hz : a ∉ Z.all σ' := fun hh => by
    rcases hn a hh with q | q
    · exact ha q
    · have := (F.mu a o e).1; rw [q] at this; (have q_ := oNS this; clear this; exact q_.elim)
  simp only [hz, if_false]; exact e
end
end Mine
end
noncomputable section
open PySem PySem.W PyProof.Rows PySem.SeqAt PySem.MeetsSeq
set_option Elab.async false
set_option autoImplicit false
set_option maxRecDepth 100000
namespace Mine
section
variable {C : Cx} {n : Nat} {s₀ : Shared} {R₀ : Reg} {V : List Addr} {sc : Scope} {env : Env} {W : List Addr} {s s' : Shared} {R R' Mu Mu' : Reg} {Δ Δ' : Vars} {A : Around} {E : Value → Shared → Prop} {Q : Flow → Shared → Prop}
theorem st_try_item {x it nf : Str} {xp np ip cp qp tp : Pos} {I l : Addr} {i : Nat} {vs : List Value} {v : Value} {d : Dat} {hs : ExceptHandler} {hss : List ExceptHandler} {oI : Obj} {rest : List Stmt}
    (F : Fra C s₀ R₀ V sc env W s R Mu Δ) (rm : Room n A) (hn : Ev (C.at Mu) n sc Δ (.Name nf np) (.val (.builtin "next"))) (hit : Ev (C.at Mu) n sc Δ (.Name it ip) (.val (.ref I))) (hI : s.heap.IsListIter I l i) (hL : s.heap.IsList l vs.toArray) (hv : vs[i]? = some v) (hd : Rd R v d) (hM : Mu I = some oI)
    (k : ∀ s' R' oI', R.le R' → s'.heap.IsListIter I l (i + 1) → s'.heap.get? I = some oI' → Fra C s₀ R₀ V sc env W s' R' (Mu.set I oI') (upd Δ x d) → wpAny C.M A (execs rest env) Q E s')
    (hsw : swapsWith (.Call (.Name nf np) [.Name it ip] [] cp) (some (.Name x xp)) qp.line env = pure false := by rfl) (hx : sc.names.lookup x = some .local ∨ sc.names.lookup x = some .cell := by first | exact Or.inl rfl | exact Or.inr rfl) :
    wpAny C.M A (execs (.Try [.Assign [.Name x xp] (.Call (.Name nf np) [.Name it ip] [] cp) qp] (hs :: hss) [] [] tp :: rest) env) Q E s := by
  refine wpAny_execs_cons (wpAny_Try_except (wpAny_execs_cons (wpAny_Assign_Name (Call_ (F.ev rm hn fun fv s₁ R₁ l₁ k₁ hfv F₁ => ?_)) hsw)))
  (have q_ := Rd.valE hfv; clear hfv; subst q_)
  refine callWith_method1 (first := []) (wpAny_items_cons (F₁.ev rm hit fun w s₂ R₂ l₂ k₂ hw F₂ => wpAny_items_nil ?_) rfl) rfl rfl
  (have q_ := Rd.valE hw; clear hw; subst q_)
  have k12 := Keeps.hle (Keeps.tr k₁ k₂)
  have hI₂ : s₂.heap.IsListIter I l i := let ⟨o, a, r⟩ := hI; ⟨o, k12 _ _ a, r⟩
  have hL₂ : s₂.heap.IsList l vs.toArray := let ⟨o, a, r⟩ := hL; ⟨o, k12 _ _ a, r⟩
  refine call_next_item hI₂ hL₂ (x := v) (by simpa using hv) fun h' hit' hsb => ?_
  obtain ⟨oI', hI', hc', hd'⟩ := id hit'
  have hoc : ∀ v, oI.data ≠ .cell v := fun v q => by
    obtain ⟨o, a, _, b⟩ := hI
    rw [(F.mu _ _ hM).1] at a; (have q_ := oSS a; clear a; subst q_); rw [b] at q; cases q
  have F₃ := F₂.mut (tk := s₂.toks) hM hoc hsb hI'
  refine F₃.store (hd.mono (l₁.trans l₂)) (fun s₄ k₄ F₄ => ?_) hx
  have h4 := (F₄.mu _ _ (Reg.set_self _ _ _)).1
  refine wpAny_execs_nil (wpAny_execs_nil (k s₄ R₂ oI' (l₁.trans l₂) ⟨oI', h4, hc', hd'⟩ h4 F₄))
end
section
variable {C : Cx} (B : Base C (K3 C)) {n : Nat}
include B
theorem reduce_tell {f : Addr} {fd : FuncData} {Δc : Vars} {Z : Srt} {x₀ : Dat} {ds : List Dat} (σs : Nat → Sd) (e : Nat → Dat) (h0 : e 1 = x₀) (hZ : ∀ i, Z.all (σs i) = Z.all (σs 0))
    (hstep : ∀ i d, (x₀ :: ds)[i]? = some d → 1 ≤ i → TCall C aT aN n f f fd Δc [e i, d] Z (σs (i - 1)) (σs i) (e (i + 1))) :
    TCall C aT aN (n + 1) 150 f fd Δc [.val (.ref f), .lst (x₀ :: ds)] Z (σs 0) (σs ds.length) (e (ds.length + 1)) := by
  subst h0
  refine tcall_fn (xs := [Str.ofString "function", Str.ofString "sequence", Str.ofString "initial"]) (es := [.val (.ref f), .lst (e 1 :: ds), .val (.ref 142)]) (fnC B rfl (by kernel_rfl!) rfl (by kernel_rfl!)) rfl (fun R s vs ro hr => bnd_all2 hr fun _ _ hr => bnd_dflt (w := .ref 142) ro.on rfl (ro.hle0 _ _ (B.K _ _ rfl)) rfl rfl (by kernel_rfl!) hr (.val _)) ?_
  intro A env W s₀ s R R₁ Mu hsc rm hP hZc F S
  refine cps fun Q hQ => ?_
  refine st_iterC F rm (ev_glob (g_iter B.at) rfl) (ev_name rfl) fun s₁ R₂ I l vs l₁ It hI hL hr ⟨ol, hRl⟩ hIo hI0 F₁ => ?_
  have hcI : ∀ y c, env.cells.lookup y = some c → c ≠ I := fun y c h q => by
    obtain ⟨_, o, z, _⟩ := F.ew.calive y c h; rw [q, hI0] at z; (have q_ := oNS z; clear z; exact q_.elim)
  refine st_if F₁ rm (evT_cmp (ev_name rfl) (ev_glob (g_missing B.at) rfl) op_is_self) fun s₂ R₃ l₂ F₂ => ?_
  rw [if_pos rfl]
  have hIs : ∃ o, (fun a => if a ∈ [I] then s₁.heap.get? a else Mu a) I = some o := by
    obtain ⟨o, ho, _⟩ := hIo; exact ⟨o, by simp only [List.mem_singleton, if_true]; exact ho⟩
  obtain ⟨oI, hMI⟩ := hIs
  have hI1 : s₁.heap.get? I = some oI := by simpa using hMI
  obtain ⟨hI₂, hL₂⟩ : s₂.heap.IsListIter I l 0 ∧ s₂.heap.IsList l vs.toArray := It.frame 0 _ _ ⟨hI, hL⟩ (fun b hb ob eb => by
    have hb' := List.mem_singleton.mp hb
    subst hb'
    exact (F₂.mu _ _ (by simp only [List.mem_singleton, if_true]; exact eb)).1) (F₂.ro.on.le l₂) (fun _ _ e => nomatch e)
  obtain ⟨v0, hv0, hd0⟩ := hr.get (k := 0) (d := e 1) rfl
  refine st_try_item F₂ rm (ev_glob (g_next B.at) rfl) (ev_name rfl) hI₂ hL₂ hv0 (hd0.mono l₂) hMI fun s₃ R₄ oI' l₃ hI₃ hI3 F₃ => ?_
  refine st_nil ?_
  have hIZ : ∀ i, I ∉ Z.all (σs i) := fun i h => by
    rw [hZ i] at h
    obtain ⟨o, q, _⟩ := S.obj h
    rw [(F.mu _ _ q).1] at hI0; (have q_ := oSN hI0; clear hI0; exact q_.elim)
  have hS3 : SAt C aT aN (Reg.set (fun a => if a ∈ [I] then s₁.heap.get? a else Mu a) I oI') Z (σs 0) := S.on fun a o ha q => by
    have hne : a ≠ I := fun h => hIZ 0 (h ▸ ha)
    rw [Reg.set_ne _ _ hne]
    simp only [List.mem_singleton, hne, if_false]; exact q
  obtain ⟨fo, hfo, hfd⟩ := hP.1.1
  refine st_for_it 1 (fun i => ofL [(Str.ofString "function", .val (.ref f)), (Str.ofString "it", .val (.ref I)), (Str.ofString "value", e i)]) (fun i R M => 1 ≤ i ∧ SAt C aT aN M Z (σs (i - 1))) F₃ rm rfl (AllIn.le ⟨rfl, rfl, rfl, trivial⟩) It (l₂.trans l₃) ⟨hI₃, ?_⟩ (by simp)
    ⟨oI', Reg.set_self _ _ _⟩ (fun h => hIZ 0 h) hcI (fun i R R' M M' hJ _ he => ⟨hJ.1, hJ.2.on fun a o ha q => (he a (fun h => hIZ _ (h ▸ ha))).trans q⟩) ⟨Nat.le_refl _, hS3⟩ ?_ ?_
  · obtain ⟨o', ho', hcl, n', hdl⟩ := hL
    rw [F₁.ro.on _ _ hRl] at ho'; (have q_ := oSS ho'; clear ho'; subst q_)
    exact ⟨_, F₃.ro.on _ _ (l₃ _ _ (l₂ _ _ hRl)), hcl, n', hdl⟩
  · intro i d s₄ R₅ M₄ hd l₄ F₄ ⟨hi1, S₄⟩
    have hc4 : CloP f fd Δc s₄ R₅ := ⟨hP.1.mono F₄.le, hP.2.but (fun b o hb q => F₄.keep.get hb q) hZc F₄.le⟩
    refine st_set F₄ (F₄.tcall rm (fd := fd) (Δc := Δc) (ev_name rfl) (F₄.le _ _ hfo) hfd (evAll_cons (ev_name rfl) (evAll_cons (ev_name rfl) evAll_nil)) S₄ hc4 (hstep i d hd hi1) fun v s₅ R₆ M₅ l₅ hv F₅ S₅ kb hn hoff heq => ?_)
    refine ⟨R₆, M₅, _, F₅, hv, fun s₆ F₆ => st_nil ⟨R₆, M₅, l₅, heq I (hIZ _), F₆.toL _ ⟨rfl, rfl, rfl, trivial⟩, Nat.le_add_left _ _, ?_⟩⟩
    rw [Nat.add_sub_cancel]; exact S₅
  · intro s₄ R₅ M₄ l₄ F₄ ⟨_, S₄⟩
    refine st_ret F₄ rm (ev_name rfl) fun s₅ R₆ v l₅ F₅ hv => hQ _ _ ⟨R₆, M₄, _, v, rfl, F₅, ?_, fun a ha => .inl (by rw [← hZ]; exact ha), fun a ha => by rw [hZ]; exact ha, hv⟩
    simpa using S₄
end
end Mine
end
noncomputable section
open PySem PySem.W PyProof.Rows PySem.SeqAt PySem.MeetsSeq
set_option Elab.async false
set_option autoImplicit false
set_option maxRecDepth 100000
namespace Mine
section
variable {C : Cx} (B : Base C (K3 C))
include B
theorem reduce_h {n : Nat} {P : Shared → Reg → Prop} (hst : Stab P) {f : Addr} {fd : FuncData} {ds : List Dat} (e : Nat → Dat) (hf : ∀ s R, P s R → ∃ o, R f = some o ∧ o.data = .func fd)
    (hstep : ∀ i d, ds[i]? = some d → CallH C n P (.ref f) [e i, d] (e (i + 1))) (hi : ∀ mu, Op2 (C.at mu) n (compareOp .Is) (e 0) (.val (.ref 142)) (.bool false)) :
    CallH C (n + 1) P (.ref 150) [.val (.ref f), .lst ds, e 0] (e ds.length) := by
  refine callh_fnB (xs := [Str.ofString "function", Str.ofString "sequence", Str.ofString "initial"]) (es := [.val (.ref f), .lst ds, e 0]) (fnC B rfl (by kernel_rfl!) rfl (by kernel_rfl!)) rfl (fun R s vs ro hr => bnd_all3 hr fun _ _ _ hr => bnd_full (w := .ref 142) ro.on rfl (ro.hle0 _ _ (B.K _ _ rfl)) rfl rfl (by kernel_rfl!) hr) ?_
  intro A env W s₀ s R R₀ hsc rm hP F
  refine st_iter F rm (ev_glob (g_iter B.at) rfl) (ev_name rfl) fun s₁ R₁' I St l₁ It st0 hIo hI0 F₁ => ?_
  have hcI : ∀ y c, env.cells.lookup y = some c → c ≠ I := fun y c h q => by
    obtain ⟨_, o, z, _⟩ := F.ew.calive y c h; rw [q, hI0] at z; (have q_ := oNS z; clear z; exact q_.elim)
  refine st_if F₁ rm (evT_cmp (ev_name rfl) (ev_glob (g_missing B.at) rfl) (hi _)) fun s₂ R₂ l₂ F₂ => ?_
  refine st_assign F₂ rm (ev_name rfl) fun s₃ R₃ l₃ F₃ => st_nil ?_
  have st3 : St 0 s₃.heap := by
    obtain ⟨o, ho, _⟩ := hIo
    refine It.frame 0 _ _ st0 (fun b hb ob eb => ?_) (F₃.ro.on.le (l₂.trans l₃)) (fun _ _ e => nomatch e)
    have hb' := List.mem_singleton.mp hb
    subst hb'
    exact (F₃.mu _ _ (by simp only [List.mem_singleton, if_true]; exact eb)).1
  refine st_for_it 0 (fun i => ofL [(Str.ofString "function", .val (.ref f)), (Str.ofString "it", .val (.ref I)), (Str.ofString "value", e i)]) (fun _ _ _ => True) F₃ rm rfl (AllIn.le ⟨rfl, rfl, rfl, trivial⟩) It (l₂.trans l₃) st3 (Nat.zero_le _)
    (by obtain ⟨o, ho, _⟩ := hIo; exact ⟨o, by simp only [List.mem_singleton, if_true]; exact ho⟩) (by simp) hcI (fun _ _ _ _ _ _ _ _ => trivial) trivial ?_ ?_
  · intro i d s₄ R₄ Mu₄ hd l₄ F₄ _
    have hP₄ : P s₄ R₄ := hst _ _ _ _ hP F₄.keep.nil F₄.le
    obtain ⟨o, hfo, hdat⟩ := hf _ _ hP₄
    refine st_set F₄ (F₄.callH hst rm (f := f) (ev_name rfl) hfo hdat (evAll_cons (ev_name rfl) (evAll_cons (ev_name rfl) evAll_nil)) (hstep i d hd) hP₄ fun v s₅ R₅ l₅ k₅ hv F₅ => ?_)
    refine ⟨R₅, Mu₄, _, F₅, hv, fun s₆ F₆ => st_nil ⟨R₅, Mu₄, l₅, rfl, F₆.toL _ ⟨rfl, rfl, rfl, trivial⟩, trivial⟩⟩
  · intro s₄ R₄ Mu₄ l₄ F₄ _
    exact st_ret F₄ rm (ev_name rfl) fun s₅ R₅ v l₅ F₅ hv => ⟨v, rfl, F₅.post hv⟩
theorem reduce_lam {α : Type} {n : Nat} {f : Addr} {fd : FuncData} {Δc : Vars} {M : Reg} {L : List α} {enc : α → Dat} {d₀ d : Dat} (e : Nat → Dat) (h0 : e 0 = d₀) (h1 : e L.length = d)
    (hi : ∀ mu, Op2 (C.at mu) n (compareOp .Is) d₀ (.val (.ref 142)) (.bool false)) (hstep : ∀ i a, L[i]? = some a → CallH C n (LamP f fd Δc M) (.ref f) [e i, enc a] (e (i + 1))) :
    CallH C (n + 1) (LamP f fd Δc M) (.ref 150) [.val (.ref f), .lst (L.map enc), d₀] d := by
  subst h0
  have := reduce_h B (n := n) (lamP_stab (f := f) (fd := fd) (Δc := Δc) (M := M)) (f := f) (ds := L.map enc) e (fun s R p => p.1.1) (fun i d hd => ?_) hi
  · rw [List.length_map, h1] at this; exact this
  · rw [List.getElem?_map] at hd
    obtain ⟨a, he, rfl⟩ := Option.map_eq_some_iff.mp hd
    exact hstep i a he
end
end Mine
end
noncomputable section
open PySem PySem.W PyProof.Rows PySem.SeqAt PySem.MeetsSeq
set_option Elab.async false
set_option autoImplicit false
namespace Mine
theorem RdAll.ofN {R R' : Reg} : ∀ {vs : List Value} {l : List Nat}, RdAll R vs (encN l) → RdAll R' vs (encN l)
  | _, [], h => by (have q_ := RdAll.nilE h; clear h; subst q_); exact .nil
  | _, k :: l, h => by
    cases h with
    | cons h r => (have q_ := Rd.intE h; clear h; obtain ⟨_, rfl⟩ := q_); exact .cons (.int _ _) (RdAll.ofN r)
section
variable {C : Cx} {n : Nat} {sc : Scope} {Δ : Vars}
theorem evF_list {x : Str} {np p : Pos} {e : Expr} {d : Dat} {ds : List Dat} (hf : Ev C n sc Δ (.Name x np) (.val (.type "list"))) (he : Ev C n sc Δ e d) (hd : d = .lst ds ∨ d = .tup ds) (hl : ds.length ≤ sizeLine)
    (hs : ∀ env, starEach [e] env = [(false, eval e env)] := by intro _; rfl) : EvF C n sc Δ (.Call (.Name x np) [e] [] p) (.lst ds) true := by
  intro A env s R rm ro eo
  refine Call_ (noE (hf A env s R rm ro eo) fun f s₁ p₁ => ?_)
  have hf' := p₁.2
  (have q_ := Rd.valE hf'; clear hf'; subst q_)
  have k₁ := Keeps.hle p₁.1
  refine callWith_type1 (wpAny_items_cons (noE (he A env s₁ _ rm (ro.ext k₁) (eo.ext ro k₁)) fun v s₂ p₂ => wpAny_items_nil ?_) (hs env)) (hs env) rfl
  have k₂ := Keeps.hle p₂.1
  have ks := Keeps.tr p₁.1 p₂.1
  have ro₂ := ro.ext (Keeps.hle ks)
  have hv := p₂.2.mono (Reg.ext_ext k₁ k₂)
  have key : ∃ a o vs m T, v = .ref a ∧ s₂.heap.get? a = some o ∧ (T = "list" ∨ T = "tuple") ∧ o.cls = .type T ∧ o.data = .seq (vs : List Value).toArray m ∧ RdAll (R.ext s.heap s₂.heap) vs ds := by
    rcases hd with rfl | rfl
    · cases hv with
      | lst e c hd r => exact ⟨_, _, _, _, _, rfl, ro₂.on _ _ e, .inl rfl, c.1, hd, r⟩
    · cases hv with
      | tup e c hd r => exact ⟨_, _, _, _, _, rfl, ro₂.on _ _ e, .inr rfl, c, hd, r⟩
  obtain ⟨a, o, vs, m, T, rfl, ha, hT, hc, hda, hr⟩ := key
  refine call_list_seq a hT ha hc hda (fun h' c' hk hnew => ?_) (by rw [List.size_toArray, hr.length]; exact hl)
  have kn : Keeps s₂ { s₂ with heap := h' } := ⟨h', s₂.toks, rfl, hk⟩
  have kA := Keeps.tr ks kn
  have fr : s.heap.get? s₂.heap.objs.size = none := none_of_fresh ks fresh_none
  exact ⟨⟨kA, .lst (Reg.new_ext fr hnew) ⟨rfl, rfl⟩ rfl (hr.mono (Reg.ext_step (Keeps.hle ks) hk))⟩, fun _ => ⟨_, _, rfl, fr, hnew, vs, c', rfl⟩⟩
theorem ItemsOf.nats {acc : Array Value} {k : Nat} {R : Reg} (h : ItemsOf (fun (i : Nat) v => ∃ t, v = .int (0 + (i : Int) * 1) t) acc k) : RdAll R acc.toList (encN (List.range k)) := by
  refine rdAll_of _ _ _ (by rw [Array.length_toList, h.1, List.length_range]) fun i v x hi hx => ?_
  have hk : i < k := by have := (List.getElem?_eq_some_iff.mp hx).1; simpa using this
  rw [List.getElem?_range hk] at hx; (have q_ := oSS hx; clear hx; subst q_)
  obtain ⟨t, rfl⟩ := h.2 i v (by rw [← Array.getElem?_toList]; exact hi)
  rw [show (0 + (i : Int) * 1) = (i : Int) by omega]
  exact .int _ _
theorem ev_list_range {x y : Str} {np p yp q : Pos} {e : Expr} {b : Nat} (hf : Ev C n sc Δ (.Name x np) (.val (.type "list"))) (hg : Ev C n sc Δ (.Name y yp) (.val (.type "range"))) (he : Ev C n sc Δ e (.int (b : Int))) (hb : b ≤ 1000)
    (hs : ∀ env, starEach [e] env = [(false, eval e env)] := by intro _; rfl) : Ev C n sc Δ (.Call (.Name x np) [.Call (.Name y yp) [e] [] q] [] p) (.lst (encN (List.range b))) := by
  intro A env s R rm ro eo
  refine Call_ (noE (hf A env s R rm ro eo) fun f s₁ p₁ => ?_)
  have hf' := p₁.2
  (have q_ := Rd.valE hf'; clear hf'; subst q_)
  have k₁ := Keeps.hle p₁.1
  refine callWith_type1 (wpAny_items_cons (Call_ (noE (hg A env s₁ _ rm (ro.ext k₁) (eo.ext ro k₁)) fun g s₂ p₂ => ?_)) rfl) rfl rfl
  have hg' := p₂.2
  (have q_ := Rd.valE hg'; clear hg'; subst q_)
  have k₂ := Keeps.tr p₁.1 p₂.1
  refine callWith_type1 (wpAny_items_cons (noE (he A env s₂ _ rm (ro.ext (Keeps.hle k₂)) (eo.ext ro (Keeps.hle k₂))) fun v s₃ p₃ => wpAny_items_nil ?_) (hs env)) (hs env) rfl
  have k₃ := Keeps.tr k₂ p₃.1
  have hv := p₃.2
  (have q_ := Rd.intE hv; clear hv; obtain ⟨_, rfl⟩ := q_)
  rename_i t₂
  refine call_range_1 ?_
  have kp : Keeps s₃ { s₃ with heap := s₃.heap.push { cls := .type "range", data := .fields #[.int 0 s₃.toks, .int (b : Int) t₂, .int 1 (s₃.toks + 1)] }, toks := s₃.toks + 1 + 1 } := ⟨_, _, rfl, fun _ _ e => Heap.get?_push_of_some _ e⟩
  have k₄ := Keeps.tr k₃ kp
  refine wpAny_items_nil (call_list_range rm.handled (IsRange.new s₃.heap 0 (b : Int) 1 s₃.toks t₂ (s₃.toks + 1)) ?_ (n := b) ?_ (by omega) fun h' tk acc c' hk hnew hi => ?_)
  · exact small_one (by decide) (by decide) (by omega) (by omega)
  · rw [rangeSize_one]; split <;> omega
  have kn : Keeps { s₃ with heap := s₃.heap.push { cls := .type "range", data := .fields #[.int 0 s₃.toks, .int (b : Int) t₂, .int 1 (s₃.toks + 1)] }, toks := s₃.toks + 1 + 1 } { s₃ with heap := h', toks := tk } := ⟨h', tk, rfl, hk⟩
  have kA := Keeps.tr k₄ kn
  have fr := none_of_fresh k₄ fresh_none
  have hnew' : h'.get? (s₃.heap.push { cls := .type "range", data := .fields #[.int 0 s₃.toks, .int (b : Int) t₂, .int 1 (s₃.toks + 1)] }).objs.size = some { cls := .type "list", dict := none, data := .seq acc.toList.toArray c', slots := #[] } := by rw [Array.toArray_toList]; exact hnew
  exact ⟨kA, .lst (Reg.new_ext fr hnew') ⟨rfl, rfl⟩ rfl (ItemsOf.nats hi)⟩
end
section
variable {C : Cx} {n : Nat} {s₀ : Shared} {R₀ : Reg} {V : List Addr} {sc : Scope} {env : Env} {W : List Addr} {s : Shared} {R Mu : Reg} {Δ : Vars} {A : Around} {Q : Flow → Shared → Prop} {E : Value → Shared → Prop}
theorem st_newF {x : Str} {px q : Pos} {e : Expr} {l : List Nat} {rest : List Stmt} (F : Fra C s₀ R₀ V sc env W s R Mu Δ) (rm : Room n A) (he : EvF (C.at Mu) n sc Δ e (.lst (encN l)) true)
    (k : ∀ (s' : Shared) (R' : Reg) (D : Addr) (vs : List Value) (m : Nat), R.le R' → s.heap.get? D = none → D ∉ V → RdAll noM vs (encN l) → Fra C s₀ R₀ V sc env W s' R' (Mu.set D (lstObj vs m)) (upd Δ x (.val (.ref D))) → wpAny C.M A (execs rest env) Q E s')
    (hs : swapsWith e (some (.Name x px)) q.line env = pure false := by rfl)
    (hx : sc.names.lookup x = some .local ∨ sc.names.lookup x = some .cell := by first | exact Or.inl rfl | exact Or.inr rfl) :
    wpAny C.M A (execs (.Assign [.Name x px] e q :: rest) env) Q E s := by
  refine wpAny_execs_cons (wpAny_Assign_Name (noE (he A env s R rm F.rom F.eo) fun v s₁ p₁ => ?_) hs)
  obtain ⟨⟨k₁, hv⟩, hn⟩ := p₁
  obtain ⟨D, o, rfl, hD, ho, vs, m, rfl⟩ := hn rfl
  have hr : RdAll noM vs (encN l) := by
    cases hv with
    | lst e' c hd r =>
      simp only [Reg.ext, hD] at e'
      rw [ho] at e'
      (have q_ := oSS e'; clear e'; subst q_)
      cases hd
      exact RdAll.ofN r
  obtain ⟨lR, F₁⟩ := F.begin1 k₁ hD ho
  exact F₁.store (.val _) (fun s' _ F' => k s' _ D vs m lR hD (fun h => by obtain ⟨o, e⟩ := F.vnew D h; rw [hD] at e; (have q_ := oNS e; clear e; exact q_.elim)) hr F') hx
end
end Mine
end
noncomputable section
open PySem PySem.W PyProof.Rows PySem.SeqAt PySem.MeetsSeq
set_option Elab.async false
set_option autoImplicit false
set_option maxRecDepth 100000
namespace Mine
section
variable {C : Cx} (B : Base C (K3 C))
include B
theorem free_spec {rows : List (List Nat)} {gone : List Nat} (hl : rows.length = 5) (h12 : ∀ r ∈ rows, r.length ≤ 12) (hg : gone.length ≤ 7) : CallOp C 5 (.ref 170) [rowsDN rows, .lst (encN gone)] (.lst (encN (freeN rows gone))) := by
  have f := fnOk (xs := [Str.ofString "rows", Str.ofString "gone"]) B (a := 170) rfl (by kernel_rfl!) rfl (by kernel_rfl!) (bind2 (fun _ _ => by kernel_rfl!))
  with_reducible refine callop_fn (n := 4) f (by simp) ?_
  intro A env W s₀ s R hsc rm F
  clear hsc
  dsimp only at F
  with_reducible refine cps fun Q hQ => ?_
  have hb : ∀ i j, i ≤ 5 → j ≤ 12 → gone.length + 12 * i + j ≤ sizeLine := fun i j h1 h2 => by rw [sizeLine_val]; omega
  refine st_newF (l := gone) F rm (evF_list (ev_glob (g_list B.at) rfl) (ev_name rfl) (.inl rfl) (by rw [List.length_map]; have := hb 0 0 (by omega) (by omega); omega)) fun s₁ R₁ D vs₁ m₁ l₁ hD hDV hr₁ F₁ => ?_
  let Δl : Vars := ofL [(Str.ofString "rows", rowsDN rows), (Str.ofString "gone", .lst (encN gone)), (Str.ofString "stuck", .val (.ref D))]
  refine st_for (L := rows) (enc := fun r => .lst (encN r)) (tds := fun r => [.lst (encN r)]) [Str.ofString "row"] [D] (fun _ => Δl)
    (fun i R M => ∃ vs m, M D = some (lstObj vs m) ∧ RdAll noM vs (encN (gone ++ stRs gone (rows.take i)))) F₁ rm (evIt_lst (ev_name rfl)) (AllIn.le ⟨rfl, rfl, rfl, trivial⟩) (fun a ha => by rw [List.mem_singleton.mp ha]; exact ⟨_, Reg.set_self _ _ _⟩) (by decide +kernel) (fun _ _ => ⟨rfl, rfl⟩)
    (fun i R R' M M' hJ _ he => by obtain ⟨vs, m, e, q⟩ := hJ; exact ⟨vs, m, (he D (by simp)).trans e, q⟩) ⟨vs₁, m₁, Reg.set_self _ _ _, by simpa [stRs] using hr₁⟩ ?_ ?_
  · intro i row s₂ R₂ M₂ hi l₂ off₂ F₂ hJ
    have hrow : row.length ≤ 12 := h12 row (List.mem_of_getElem? hi)
    have hrl : row.length ≤ sizeLine := by have := hb 0 12 (by omega) (by omega); omega
    have hi5 : i < 5 := by have := (List.getElem?_eq_some_iff.mp hi).1; omega
    obtain ⟨vs₂, m₂, e₂, q₂⟩ := hJ
    with_reducible refine cps fun Qf hQf => ?_
    refine st_for (L := List.range row.length) (enc := fun (y : Nat) => Dat.int (y : Int)) (tds := fun (y : Nat) => [.int (y : Int)]) [Str.ofString "place"] [D] (fun _ => ofL [(Str.ofString "rows", rowsDN rows), (Str.ofString "gone", .lst (encN gone)), (Str.ofString "stuck", .val (.ref D)), (Str.ofString "row", .lst (encN row))])
      (fun j R M => ∃ vs m, M D = some (lstObj vs m) ∧ RdAll noM vs (encN (gone ++ stRs gone (rows.take i) ++ stR gone row j))) F₂ rm (EvIt.cast (evIt_range1 (ev_glob (g_range B.at) rfl) (ev_lenN (g_len B.at) hrl rfl rfl) (by omega)) (rangeN row.length)) (AllIn.le ⟨rfl, rfl, rfl, rfl, trivial⟩) (fun a ha => by rw [List.mem_singleton.mp ha]; exact ⟨_, e₂⟩) (by decide +kernel) (fun _ _ => ⟨rfl, rfl⟩)
      (fun i R R' M M' hJ _ he => by obtain ⟨vs, m, e, q⟩ := hJ; exact ⟨vs, m, (he D (by simp)).trans e, q⟩) ⟨vs₂, m₂, e₂, by simpa [stR] using q₂⟩ ?_ ?_
    · intro j p s₃ R₃ M₃ hj l₃ off₃ F₃ hJ₃
      have hjr : j < row.length := by have := (List.getElem?_eq_some_iff.mp hj).1; simpa using this
      rw [List.getElem?_range hjr] at hj; (have q_ := oSS hj; clear hj; subst q_)
      obtain ⟨vs₃, m₃, e₃, q₃⟩ := hJ₃
      have hz : vs₃.length ≤ sizeLine := by
        have h1 := stRs_len gone (rows.take i) fun r hr => h12 r (List.mem_of_mem_take hr)
        have h2 := stR_len gone row j
        have h3 := hb i j (by omega) (by omega)
        rw [List.length_take] at h1
        rw [q₃.length, List.length_map, List.length_append, List.length_append]; omega
      with_reducible refine cps fun Qg hQg => ?_
      refine st_if F₃ rm (b := ahd gone row j) (evT_cmp (ev_lc (L := row.take j) (enc := fun (c : Nat) => Dat.int (c : Int)) (tds := fun (c : Nat) => [.int (c : Int)]) (p := fun k => !gone.contains k) (f := fun (c : Nat) => Dat.int (c : Int)) [Str.ofString "name"] (evIt_lst (ev_upto (l := row) (g := fun (k : Nat) => Dat.int (k : Int)) (k := (j : Int)) (ev_name rfl) (ev_name rfl) (by omega) hrl)) (by kernel_rfl!) (fun _ _ => ⟨rfl, rfl⟩)
        (fun k _ => evT_cmp (ev_name rfl) (ev_name rfl) op_notin_N) (fun _ _ _ => ev_name rfl) (by rw [List.length_take]; omega)) (ev_list evAll_nil) (Op2.cast op_ne_nil (by simp [ahd]))) fun s₄ R₄ l₄ F₄ => ?_
      cases hb : ahd gone row j with
      | false =>
        exact st_nil (st_nil (hQg _ _ ⟨R₄, M₃, l₄, fun _ _ _ e => e, F₄.toL _ ⟨rfl, rfl, rfl, rfl, trivial⟩, vs₃, m₃, e₃, by rw [stR_step, hb]; simpa using q₃⟩))
      | true =>
        have hgd : row[((j : Nat) : Int).toNat]? = some (row.getD j 0) := by
          show row[j]? = _
          rw [List.getD_eq_getElem?_getD, List.getElem?_eq_getElem hjr]; rfl
        refine st_expr (mlist_append (d := .int ((row.getD j 0 : Nat) : Int)) F₄ rm (ev_name rfl) (ev_sub (ev_name rfl) (ev_name rfl) (op_itemm (l := row) (g := fun (k : Nat) => Dat.int (k : Int)) hgd (by omega) hrl)) e₃ hz fun s₅ R₅ w m' l₅ hw F₅ => ?_) F₄.quiet
        refine st_nil (st_nil (hQg _ _ ⟨R₅, _, l₄.trans l₅, keepsOff_set (by simp), F₅.toL _ ⟨rfl, rfl, rfl, rfl, trivial⟩, vs₃ ++ [w], m', Reg.set_self _ _ _, ?_⟩))
        rw [stR_step, hb, if_pos rfl, ← List.append_assoc, encN, List.map_append]
        refine q₃.append ?_
        (have q_ := Rd.intE hw; clear hw; obtain ⟨_, rfl⟩ := q_); exact .cons (.int _ _) .nil
    · intro s₃ R₃ M₃ l₃ off₃ F₃ hJ₃
      rw [List.length_range] at hJ₃
      obtain ⟨vs₃, m₃, e₃, q₃⟩ := hJ₃
      exact st_nil (hQf _ _ ⟨R₃, M₃, l₃, off₃, F₃.toL _ ⟨rfl, rfl, rfl, trivial⟩, vs₃, m₃, e₃, by rw [stRs_step gone rows i row hi, ← List.append_assoc]; exact q₃⟩)
  · intro s₂ R₂ M₂ l₂ off₂ F₂ hJ
    rw [List.take_length] at hJ
    obtain ⟨vs, m, e, q⟩ := hJ
    obtain ⟨R₃, M₃, l₃, hR₃, hM₃, F₃⟩ := F₂.freezeAll [D] (fun c hc => by cases List.mem_singleton.mp hc; exact ⟨⟨_, e⟩, by simp⟩) (by simp)
    have F₄ := F₃.reread2 (x := Str.ofString "stuck") (d := .val (.ref D)) (d' := .lst (encN (gone ++ stRs gone rows))) rfl (fun w hw => by
      (have q_ := Rd.valE hw; clear hw; subst q_)
      exact .lst ((hR₃ D (by simp)).trans e) ⟨rfl, rfl⟩ rfl q.ofN)
    refine st_ret (d := .lst (encN (freeN rows gone))) F₄ rm (ev_lc (L := List.range 7) (enc := fun (c : Nat) => Dat.int (c : Int)) (tds := fun (c : Nat) => [.int (c : Int)]) (p := fun k => !(gone ++ stRs gone rows).contains k) (f := fun (c : Nat) => Dat.int (c : Int)) [Str.ofString "name"] (EvIt.cast (evIt_range1 (ev_glob (g_range B.at) rfl) ev_int (by decide)) (rangeN 7)) (by kernel_rfl!) (fun _ _ => ⟨rfl, rfl⟩)
      (fun k _ => evT_cmp (ev_name rfl) (ev_name rfl) op_notin_N) (fun _ _ _ => ev_name rfl) (by rw [sizeLine_val]; decide)) fun s₅ R₅ w l₅ F₅ hw => hQ _ _ ⟨w, rfl, F₅.post hw⟩
end
end Mine
end
noncomputable section
open PySem PySem.W PyProof.Rows PySem.SeqAt PySem.MeetsSeq
set_option Elab.async false
set_option autoImplicit false
namespace Mine
section
variable {C : Cx} {n : Nat} {s₀ : Shared} {R₀ : Reg} {V : List Addr} {sc : Scope} {env : Env} {W : List Addr} {s : Shared} {R Mu : Reg} {Δ : Vars} {A : Around} {Q : Flow → Shared → Prop} {E : Value → Shared → Prop}
theorem st_lc2 {α β : Type} {scope : Scope} {L : List α} {enc : α → Dat} {tds : α → List Dat} {p : α → Bool} {L₂ : α → List β} {enc₂ : β → Dat} {tds₂ : β → List Dat} {p₂ : α → β → Bool} {f : α → β → Dat} {elt target iter target₂ iter₂ : Expr} {ifs ifs₂ : List Expr} {pos : Pos} {x : Str} {px q : Pos} {rest : List Stmt} (xs xs₂ : List Str)
    (F : Fra C s₀ R₀ V sc env W s R Mu Δ) (rm : Room n A)
    (hit : EvIt (C.at Mu) n sc Δ iter (L.map enc)) (hc : compOkB sc scope Δ (xs ++ xs₂) = true)
    (hT : ∀ a ∈ L, Tgt target (enc a) xs (tds a)) (ht : ∀ a ∈ L, EvTs (C.at Mu) n (relab scope sc) (updAll (inner scope Δ) xs (tds a)) ifs (p a))
    (hit₂ : ∀ a ∈ L, p a = true → EvIt (C.at Mu) n (relab scope sc) (updAll (inner scope Δ) xs (tds a)) iter₂ ((L₂ a).map enc₂))
    (hT₂ : ∀ a ∈ L, ∀ b ∈ L₂ a, Tgt target₂ (enc₂ b) xs₂ (tds₂ b)) (ht₂ : ∀ a ∈ L, ∀ b ∈ L₂ a, EvTs (C.at Mu) n (relab scope sc) (updAll (updAll (inner scope Δ) xs (tds a)) xs₂ (tds₂ b)) ifs₂ (p₂ a b))
    (he : ∀ a ∈ L, ∀ b ∈ L₂ a, p₂ a b = true → Ev (C.at Mu) n (relab scope sc) (updAll (updAll (inner scope Δ) xs (tds a)) xs₂ (tds₂ b)) elt (f a b))
    (hfr : ∀ x ∈ xs, inner scope Δ x = none) (hfr₂ : ∀ a ∈ L, ∀ x ∈ xs₂, updAll (inner scope Δ) xs (tds a) x = none)
    (hM : (L.flatMap fun a => (L₂ a)).length ≤ 1000)
    (k : ∀ s' R', R.le R' → Fra C s₀ R₀ V sc env W s' R' Mu (upd Δ x (.lst ((L.filter p).flatMap fun a => ((L₂ a).filter (p₂ a)).map (f a)))) → wpAny C.M A (execs rest env) Q E s')
    (hx : sc.names.lookup x = some .local ∨ sc.names.lookup x = some .cell := by first | exact Or.inl rfl | exact Or.inr rfl)
    (hs : ∀ env x, foldedSetIterable iter env x = pure x := by intro _ _; rfl) (hs₂ : ∀ env x, foldedSetIterable iter₂ env x = pure x := by intro _ _; rfl) :
    wpAny C.M A (execs (.Assign [.Name x px] (.ListComp elt [⟨target, iter, ifs, 0⟩, ⟨target₂, iter₂, ifs₂, 0⟩] scope pos) q :: rest) env) Q E s := by
  have sw := swaps_eq (elt := elt) (gens := [⟨target, iter, ifs, 0⟩, ⟨target₂, iter₂, ifs₂, 0⟩]) (scope := scope) (p := pos) (px := px) (x := x) (line := q.line) F.eo.hsc F.eo.fn
  cases hb : swapB sc scope x px pos with
  | false => rw [hb] at sw; exact st_assign F rm (ev_lc2 xs xs₂ hit hc hT ht hit₂ hT₂ ht₂ he hfr hfr₂ hM hs hs₂) k sw hx
  | true =>
  rw [hb] at sw
  refine wpAny_execs_cons ?_
  rw [exec_Assign_Name_used _ _ _ _ sw]
  refine wpAny_bind (wpAny_standAt (wpAny_bind ?_))
  show wpAny C.M A (do let _ ← comprehension (.ListComp elt [⟨target, iter, ifs, 0⟩, ⟨target₂, iter₂, ifs₂, 0⟩] scope pos) scope env _ (newList []) false (eval iter env) (some (assign (.Name x px) env))) _ _ s
  refine wpAny_bind (wpAny_mono (comp2_run (C := C.at Mu) (use := some (assign (.Name x px) env)) (Q := fun _ s' => ∃ R', R.le R' ∧ Fra C s₀ R₀ V sc env W s' R' Mu (upd Δ x (.lst ((L.filter p).flatMap fun a => ((L₂ a).filter (p₂ a)).map (f a))))) (E := E) xs xs₂ rm F.rom F.eo hit hc hT ht hit₂ hT₂ ht₂ he hfr hfr₂ hM (hs env) hs₂ ?_) (fun _ s' hq => wpAny_pure (wpAny_pure ?_)) fun _ _ e => e)
  · intro D C' s' kS hC hD hne hns hl
    obtain ⟨m, hm⟩ := hns
    obtain ⟨o, nn, ys, ho, hcl, hd, hr⟩ := hl
    have hCW : C' ∉ W := fun h => by obtain ⟨o, e⟩ := F.ew.isW h; rw [hC] at e; (have q_ := oNS e; clear e; exact q_.elim)
    have F' := F.ext kS
    have le' : R.le ((R.ext s.heap s'.heap).minus [C']) := fun a o e => Reg.minus_some (fun h => by
      have := F.ro.on a o e
      rw [List.mem_singleton.mp h, hC] at this; (have q_ := oNS this; clear this; exact q_.elim)) (Reg.ext_le F.ro.on a o e)
    have F₂ : Fra C s₀ R₀ V sc env W s' ((R.ext s.heap s'.heap).minus [C']) Mu Δ :=
      { F' with
        ro := ⟨F.ro.base.trans le', fun a o e => F'.ro.on a o (Reg.minus_le a o e), (fun _ _ e => nomatch e)⟩
        le := F.le.trans le'
        sub := fun a o e => F'.sub a o (Reg.minus_le a o e)
        ew := F.ew.keeps (Keeps.hle kS) le' (fun a ha => by
          cases x : (R.ext s.heap s'.heap).minus [C'] a with
          | none => rfl
          | some o => have := F'.ew.offR a ha; rw [Reg.minus_le a o x] at this; (have q_ := oSN this; clear this; exact q_.elim))
        mu := fun a o e => by
          obtain ⟨h1, h2, h3, h4⟩ := F'.mu a o e
          refine ⟨h1, ?_, h3, h4⟩
          cases x : (R.ext s.heap s'.heap).minus [C'] a with
          | none => rfl
          | some o => rw [Reg.minus_le a o x] at h2; cases h2 }
    have hv : Rd ((R.ext s.heap s'.heap).minus [C']) (.ref D) (.lst ((L.filter p).flatMap fun a => ((L₂ a).filter (p₂ a)).map (f a))) := by
      refine .lst (Reg.minus_some (by simpa using hne) (Reg.new_ext hD ho)) hcl (by rw [hd]) (hr.mono fun a o e => ?_)
      have hn : a ∉ [C', D] := fun h => by rw [Reg.minus_off h] at e; (have q_ := oNS e; clear e; exact q_.elim)
      exact Reg.minus_some (fun h => hn (by simp at h ⊢; exact .inl h)) (Reg.minus_le a o e)
    show wpAny C.M A (assign (.Name x px) env (.ref D)) _ _ _
    refine wpAny_assign_Name (F₂.store hv (fun s₃ kb₃ F₃ => ?_) hx)
    refine ⟨m, hm.at' fun o e => kb₃.get hCW e, fun h' hs' => ⟨_, le', ?_⟩⟩
    have kb : KeepsBut [C'] s₃ { s₃ with heap := h' } := ⟨h', s₃.toks, rfl, fun b o hb e => hs'.extBut b o (by simpa using hb) e⟩
    have offC : ∀ a ∈ [C'], ((R.ext s.heap s'.heap).minus [C']) a = none := fun a ha => Reg.minus_off ha
    refine { F₃ with
      keep := ?_
      vnew := fun a ha => let ⟨o, e⟩ := F₃.vnew a ha; ⟨o, kb.get (fun h => ?_) e⟩
      ro := ⟨F₃.ro.base, kb.reg F₃.ro.on offC, (fun _ _ e => nomatch e)⟩
      ew := ?_
      mu := fun a o e => ?_ }
    · obtain ⟨hh, tk, rfl, xx⟩ := F₃.keep
      refine ⟨h', tk, rfl, fun b o hb eb => hs'.extBut b o (fun h => ?_) (xx b o hb eb)⟩
      have := F.keep.get hb eb
      rw [h, hC] at this; (have q_ := oNS this; clear this; exact q_.elim)
    · obtain ⟨o, e⟩ := F.vnew a ha
      rw [List.mem_singleton.mp h, hC] at e; (have q_ := oNS e; clear e; exact q_.elim)
    · have e := F₃.ew
      have hCc : ∀ y c, env.cells.lookup y = some c → c ≠ C' := fun y c h h' => by
        obtain ⟨o, _, z, _⟩ := F.ew.calive y c h; rw [h', hC] at z; (have q_ := oNS z; clear z; exact q_.elim)
      refine ⟨⟨e.ok.hsc, e.ok.fn, e.ok.gl, e.ok.bl, fun y dy ey => ?_⟩, let ⟨m, x⟩ := e.ns; ⟨m, x.sameBut hs' fun h => hCW (h ▸ e.locW)⟩, e.locW, fun c hc hn => let ⟨v, x⟩ := e.alive c hc hn; ⟨v, x.sameBut hs' fun h => hCW (h ▸ hc)⟩, e.offR, e.inj, e.locne, fun y c h => let ⟨o, z⟩ := e.calive y c h; ⟨o, z.sameBut hs' (hCc y c h)⟩⟩
      obtain ⟨v, hv, hr⟩ := e.ok.vars y dy ey
      refine ⟨v, ?_, hr⟩
      rcases hv with ⟨a1, m1, a2, a3⟩ | ⟨a1, c1, a2, a3⟩ | ⟨a1, c1, a2, a3⟩
      · exact .inl ⟨a1, m1, a2.sameBut hs' fun h => hCW (h ▸ e.locW), a3⟩
      · exact .inr (.inl ⟨a1, c1, a2, a3.sameBut hs' (hCc _ _ a2)⟩)
      · exact .inr (.inr ⟨a1, c1, a2, a3.sameBut hs' (hCc _ _ a2)⟩)
    · obtain ⟨h1, h2, h3, h4⟩ := F₃.mu a o e
      refine ⟨kb.get (fun h => ?_) h1, h2, h3, h4⟩
      obtain ⟨g1, _⟩ := F.mu a o e
      rw [List.mem_singleton.mp h, hC] at g1; (have q_ := oNS g1; clear g1; exact q_.elim)
  · obtain ⟨R', hR, F'⟩ := hq
    exact k s' R' hR F'
end
end Mine
end
noncomputable section
open PySem PySem.W PyProof.Rows PySem.SeqAt PySem.MeetsSeq
set_option Elab.async false
set_option autoImplicit false
set_option maxRecDepth 100000
namespace Mine
noncomputable abbrev encE (e : Nat × Nat) : Dat := .tup [.int (e.1 : Int), .int (e.2 : Int)]
noncomputable def lastD (row : List Nat) : Dat := if row.isEmpty then .str (Str.ofString "refused") else .int ((row.getD (row.length - 1) 0 : Nat) : Int)
noncomputable def ringD (ends : List Nat) : Dat := if ends.isEmpty then .none else .str (Str.ofString "ring")
noncomputable def dueD (rows : List (List Nat)) (picks : List Int) : Dat :=
  .tup [.lst (rows.map lastD), ringD (endsN (stepsN rows) 7), rowsDN (waitsN rows picks), .lst (encN (courseN rows picks)), rowsDN (rows.map fun r => r.filter fun k => !(endsN (stepsN rows) 7).contains k)]
theorem stepsI_eq (row : List Nat) : (rangeI 1 (row.length : Int)).map (fun k => encE (row.getD (k - 1).toNat 0, row.getD k.toNat 0)) = (stepsR row).map encE := by
  unfold rangeI stepsR
  rw [List.map_map, List.map_map, show ((row.length : Int) - 1).toNat = row.length - 1 by omega]
  refine List.map_congr_left fun p _ => ?_
  simp only [Function.comp]
  rw [show (1 + (p : Int) - 1).toNat = p by omega, show (1 + (p : Int)).toNat = p + 1 by omega]
theorem one_none {Δ : Vars} {x : Str} (h : Δ x = none) : ∀ y ∈ [x], Δ y = none := fun y hy => by rw [List.mem_singleton.mp hy]; exact h
section
variable {C : Cx} (B : Base C (K3 C))
include B
theorem due_spec {rows : List (List Nat)} {picks : List Int} (hl : rows.length = 5) (h12 : ∀ r ∈ rows, r.length ≤ 12) (hp : picks.length = 7) : CallOp C 6 (.ref 175) [rowsDN rows, encI picks] (dueD rows picks) := by
  have f := fnOk (xs := [Str.ofString "rows", Str.ofString "picks"]) B (a := 175) rfl (by kernel_rfl!) rfl (by kernel_rfl!) (bind2 (fun _ _ => by kernel_rfl!))
  with_reducible refine callop_fn (n := 5) f (by simp) ?_
  intro A env W s₀ s R hsc rm F
  clear hsc
  dsimp only at F
  with_reducible refine cps fun Q hQ => ?_
  have hsz : ∀ k : Nat, k ≤ 1000 → k ≤ sizeLine := fun k h => by rw [sizeLine_val]; omega
  have hrl : ∀ r ∈ rows, r.length ≤ sizeLine := fun r hr => hsz _ (by have := h12 r hr; omega)
  refine st_lc2 (L := rows) (enc := fun r => .lst (encN r)) (tds := fun r => [.lst (encN r)]) (p := fun _ => true) (L₂ := fun r => rangeI 1 (r.length : Int)) (enc₂ := Dat.int) (tds₂ := fun k => [.int k]) (p₂ := fun _ _ => true) (f := fun row k => encE (row.getD (k - 1).toNat 0, row.getD k.toNat 0)) [Str.ofString "row"] [Str.ofString "place"] F rm
    (evIt_lst (ev_name rfl)) (by kernel_rfl!) (fun _ _ => ⟨rfl, rfl⟩) (fun _ _ => rfl) (fun r hr _ => evIt_range2 (ev_glob (g_range B.at) rfl) ev_int (ev_lenN (g_len B.at) (hrl r hr) rfl rfl) (by decide) (by have := h12 r hr; omega)) (fun _ _ _ _ => ⟨rfl, rfl⟩) (fun _ _ _ _ => rfl) (fun r hr k hk _ => ?_) (one_none rfl) (fun _ _ => one_none rfl) ?_ (fun s₁ R₁ l₁ F₁ => ?_)
  · have hk' := rangeI_mem hk
    have hr12 := h12 r hr
    have g1 : r[(k - 1).toNat]? = some (r.getD (k - 1).toNat 0) := by
      rw [List.getD_eq_getElem?_getD, List.getElem?_eq_getElem (show (k - 1).toNat < r.length by omega)]; rfl
    have g2 : r[k.toNat]? = some (r.getD k.toNat 0) := by
      rw [List.getD_eq_getElem?_getD, List.getElem?_eq_getElem (show k.toNat < r.length by omega)]; rfl
    exact ev_tuple (evAll_cons (ev_sub (ev_name rfl) (ev_bin (ev_name rfl) ev_int op_sub) (op_itemm (l := r) (g := fun (k : Nat) => Dat.int (k : Int)) g1 (by omega) (hrl r hr))) (evAll_cons (ev_sub (ev_name rfl) (ev_name rfl) (op_itemm (l := r) (g := fun (k : Nat) => Dat.int (k : Int)) g2 (by omega) (hrl r hr))) evAll_nil))
  · have : ∀ l : List (List Nat), (∀ r ∈ l, r.length ≤ 12) → (l.flatMap fun r => rangeI 1 (r.length : Int)).length ≤ 12 * l.length := fun l => by
      induction l with
      | nil => intro _; simp
      | cons r l ih =>
        intro h
        have h1 := ih fun r hr => h r (List.mem_cons_of_mem _ hr)
        have h2 := h r List.mem_cons_self
        rw [List.flatMap_cons, List.length_append, List.length_cons, rangeI_len]; omega
    have := this rows h12
    omega
  have hst : ((rows.filter fun _ => true).flatMap fun a => ((rangeI 1 (a.length : Int)).filter fun _ => true).map fun k => encE (a.getD (k - 1).toNat 0, a.getD k.toNat 0)) = (stepsN rows).map encE := by
    rw [stepsN, List.map_flatMap, filter_tt]
    congr 1
    funext r
    rw [filter_tt]; exact stepsI_eq r
  rw [hst] at F₁
  have hE60 : (stepsN rows).length ≤ sizeLine := hsz _ (by have := stepsN_len rows h12; omega)
  generalize hE : stepsN rows = E at F₁ hE60
  refine st_assign (d := .lst (encN (List.range 7))) F₁ rm (ev_list_range (ev_glob (g_list B.at) rfl) (ev_glob (g_range B.at) rfl) ev_int (by decide)) fun s₂ R₂ l₂ F₂ => ?_
  refine st_for (L := List.range 7) (enc := fun (y : Nat) => Dat.int (y : Int)) (tds := fun (y : Nat) => [.int (y : Int)]) [Str.ofString "turn"] [] (fun i => ofL [(Str.ofString "rows", rowsDN rows), (Str.ofString "picks", encI picks), (Str.ofString "steps", .lst (E.map encE)), (Str.ofString "ends", .lst (encN (endsN E i)))])
    (fun _ _ _ => True) F₂ rm (EvIt.cast (evIt_range1 (ev_glob (g_range B.at) rfl) ev_int (by decide)) (rangeN 7)) (AllIn.le ⟨rfl, rfl, rfl, rfl, trivial⟩) (fun a ha => nomatch ha) (by decide +kernel) (fun _ _ => ⟨rfl, rfl⟩) (fun _ _ _ _ _ _ _ _ => trivial) trivial ?_ ?_
  · intro i y s₃ R₃ M₃ hi l₃ off₃ F₃ _
    refine st_lc (L := E) (enc := encE) (tds := fun e => [.int (e.1 : Int), .int (e.2 : Int)]) (p := fun e => (endsN E i).contains e.1) (f := fun e => .int (e.2 : Int)) [Str.ofString "one", Str.ofString "other"] F₃ rm (evIt_lst (ev_name rfl)) (by kernel_rfl!) (fun e _ => ⟨rfl, rfl, [_, _], rfl, rfl⟩)
      (fun e _ => evT_cmp (ev_name rfl) (ev_name rfl) op_in_N) (fun _ _ _ => ev_name rfl) hE60 fun s₄ R₄ l₄ F₄ => ?_
    rw [show ((E.filter fun e => (endsN E i).contains e.1).map fun e => Dat.int (e.2 : Int)) = encN (reachN E (endsN E i)) by simp [reachN, encN, List.map_map, Function.comp_def]] at F₄
    refine st_lc (L := List.range 7) (enc := fun (k : Nat) => Dat.int (k : Int)) (tds := fun (k : Nat) => [.int (k : Int)]) (p := fun k => (reachN E (endsN E i)).contains k) (f := fun (k : Nat) => Dat.int (k : Int)) [Str.ofString "name"] F₄ rm (EvIt.cast (evIt_range1 (ev_glob (g_range B.at) rfl) ev_int (by decide)) (rangeN 7)) (by kernel_rfl!) (fun _ _ => ⟨rfl, rfl⟩)
      (fun k _ => evT_cmp (ev_name rfl) (ev_name rfl) op_in_N) (fun _ _ _ => ev_name rfl) (hsz _ (by decide)) fun s₅ R₅ l₅ F₅ => ?_
    exact st_nil ⟨R₅, M₃, l₄.trans l₅, fun _ _ _ e => e, F₅.toL _ ⟨rfl, rfl, rfl, rfl, trivial⟩, trivial⟩
  intro s₃ R₃ M₃ l₃ off₃ F₃ _
  rw [List.length_range] at F₃
  generalize hen : endsN E 7 = ends at F₃
  have hen7 : ends.length ≤ 7 := by rw [← hen]; exact endsN_len E 7
  refine st_list_new F₃ fun s₄ R₄ D l₄ hD hDs F₄ => ?_
  refine st_assign (d := .lst (encN [])) F₄ rm (ev_list evAll_nil) fun s₅ R₅ l₅ F₅ => ?_
  refine st_for (L := picks) (enc := Dat.int) (tds := fun y => [.int y]) [Str.ofString "pick"] [D] (fun i => ofL [(Str.ofString "rows", rowsDN rows), (Str.ofString "picks", encI picks), (Str.ofString "ends", .lst (encN ends)), (Str.ofString "waits", .val (.ref D)), (Str.ofString "course", .lst (encN (courseN rows (picks.take i))))])
    (fun i R M => ∃ vs m, M D = some (lstObj vs m) ∧ RdAll R vs (((List.range i).map fun j => freeN rows (courseN rows (picks.take j))).map fun r => .lst (encN r))) F₅ rm (evIt_lst (ev_name rfl)) (AllIn.le ⟨rfl, rfl, rfl, rfl, rfl, trivial⟩) (fun a ha => by cases List.mem_singleton.mp ha; exact ⟨_, Reg.set_self _ _ _⟩) (by decide +kernel) (fun _ _ => ⟨rfl, rfl⟩)
    (fun i R R' M M' hJ l he => by obtain ⟨vs, m, e, q⟩ := hJ; exact ⟨vs, m, (he D (by simp)).trans e, q.mono l⟩) ⟨[], 0, Reg.set_self _ _ _, .nil⟩ ?_ ?_
  · intro i pick s₆ R₆ M₆ hi l₆ off₆ F₆ hJ
    obtain ⟨vs, m, e, q⟩ := hJ
    have hi7 : i < 7 := by have := (List.getElem?_eq_some_iff.mp hi).1; omega
    have hcs := courseN_step rows picks i pick hi
    have hcl : (courseN rows (picks.take i)).length ≤ 7 := by
      have := courseN_len rows (picks.take i)
      rw [List.length_take] at this; omega
    have hwl : ((List.range (i + 1)).map fun j => freeN rows (courseN rows (picks.take j))) = ((List.range i).map fun j => freeN rows (courseN rows (picks.take j))) ++ [freeN rows (courseN rows (picks.take i))] := by
      rw [List.range_succ, List.map_append]; rfl
    generalize courseN rows (picks.take i) = cr at *
    generalize hws : ((List.range i).map fun j => freeN rows (courseN rows (picks.take j))) = ws at *
    have hfl := freeN_len rows cr
    refine cps fun Qf hQf => ?_
    refine st_assign F₆ rm (ev_callf (ev_glob (g_free B.at) rfl) (B.K 170 _ rfl) rfl (evAll_cons (ev_name rfl) (evAll_cons (ev_name rfl) evAll_nil)) (free_spec B hl h12 hcl)) fun s₇ R₇ l₇ F₇ => ?_
    have hz : vs.length ≤ sizeLine := by
      have := q.length
      have h2 : ws.length ≤ i := by rw [← hws]; simp
      rw [List.length_map] at this
      exact hsz _ (by omega)
    refine st_expr (mlist_append (d := .lst (encN (freeN rows cr))) F₇ rm (ev_name rfl) (ev_name rfl) e hz fun s₈ R₈ w m' l₈ hw F₈ => ?_) F₇.quiet
    have hJ' : ∃ vs' m', (M₆.set D (lstObj (vs ++ [w]) m')) D = some (lstObj vs' m') ∧ RdAll R₈ vs' ((ws ++ [freeN rows cr]).map fun r => .lst (encN r)) := ⟨vs ++ [w], m', Reg.set_self _ _ _, by
      rw [List.map_append]; exact (q.mono (l₇.trans l₈)).append (.cons hw .nil)⟩
    refine st_if F₈ rm (evT_cmp (ev_name rfl) (ev_list evAll_nil) op_ne_nilm) fun s₉ R₉ l₉ F₉ => ?_
    cases hf : (freeN rows cr).isEmpty with
    | true =>
      refine st_nil (st_nil (hQf _ _ ⟨R₉, _, l₇.trans (l₈.trans l₉), keepsOff_set (by simp), F₉.toL _ ⟨rfl, rfl, rfl, rfl, ?_, trivial⟩, vs ++ [w], m', Reg.set_self _ _ _, ?_⟩))
      · show some (Dat.lst (encN cr)) = some (Dat.lst (encN (courseN rows (picks.take (i + 1)))))
        rw [hcs, goStep, if_pos hf]
      · rw [hwl]
        have := (q.mono (l₇.trans l₈)).append (.cons hw .nil)
        rw [List.map_append]; exact this.mono l₉
    | false =>
      have hpos : 0 < (freeN rows cr).length := List.length_pos_iff.mpr fun h => by rw [h] at hf; cases hf
      have hm0 := Int.fmod_nonneg_of_pos pick (show (0 : Int) < ((freeN rows cr).length : Int) by omega)
      have hm1 := Int.fmod_lt_of_pos pick (show (0 : Int) < ((freeN rows cr).length : Int) by omega)
      have hgd : (freeN rows cr)[(pick.fmod (freeN rows cr).length).toNat]? = some ((freeN rows cr).getD (pick.fmod (freeN rows cr).length).toNat 0) := by
        rw [List.getD_eq_getElem?_getD, List.getElem?_eq_getElem (show (pick.fmod (freeN rows cr).length).toNat < (freeN rows cr).length by omega)]; rfl
      have hfz : (freeN rows cr).length ≤ sizeLine := hsz _ (by omega)
      refine st_assign (d := .lst (encN (cr ++ [(freeN rows cr).getD (pick.fmod (freeN rows cr).length).toNat 0]))) F₉ rm (Ev.cast (ev_bin (ev_name rfl) (ev_list (evAll_cons (ev_sub (ev_name rfl) (ev_bin (ev_name rfl) (ev_lenN (g_len B.at) hfz rfl rfl) (op_mod (by omega))) (op_itemm (l := freeN rows cr) (g := fun (k : Nat) => Dat.int (k : Int)) hgd hm0 hfz)) evAll_nil)) (op_cat (by simp [sizeLine_val]; omega))) (by simp [encN])) fun sa Ra la Fa => ?_
      refine st_nil (st_nil (hQf _ _ ⟨Ra, _, l₇.trans (l₈.trans (l₉.trans la)), keepsOff_set (by simp), Fa.toL _ ⟨rfl, rfl, rfl, rfl, ?_, trivial⟩, vs ++ [w], m', Reg.set_self _ _ _, ?_⟩))
      · show some (Dat.lst (encN _)) = some (Dat.lst (encN (courseN rows (picks.take (i + 1)))))
        rw [hcs, goStep, if_neg (by rw [hf]; decide)]
      · rw [hwl]
        have := (q.mono (l₇.trans l₈)).append (.cons hw .nil)
        rw [List.map_append]; exact this.mono (l₉.trans la)
  intro s₆ R₆ M₆ l₆ off₆ F₆ hJ
  rw [List.take_length] at F₆
  obtain ⟨vs, m, e, q⟩ := hJ
  obtain ⟨R₇, M₇, l₇, hR₇, hM₇, F₇⟩ := F₆.freezeAll [D] (fun c hc => by cases List.mem_singleton.mp hc; exact ⟨⟨_, e⟩, by simp⟩) (by simp)
  have F₈ := F₇.reread2 (x := Str.ofString "waits") (d := .val (.ref D)) (d' := rowsDN (waitsN rows picks)) rfl (fun w hw => by
    (have q_ := Rd.valE hw; clear hw; subst q_)
    exact .lst ((hR₇ D (by simp)).trans e) ⟨rfl, rfl⟩ rfl (q.mono l₇))
  refine st_lc0 (L := rows) (enc := fun r => .lst (encN r)) (tds := fun r => [.lst (encN r)]) (f := lastD) [Str.ofString "row"] F₈ rm (evIt_lst (ev_name rfl)) (by kernel_rfl!) (fun _ _ => ⟨rfl, rfl⟩) (fun r hr => ?_) (hsz _ (by omega)) fun s₉ R₉ l₉ F₉ => ?_
  · refine ev_ifexp (evT_cmp (ev_name rfl) (ev_list evAll_nil) op_ne_nilm) (fun h => ?_) (fun h => ?_)
    · have hne : r.isEmpty = false := by simpa using h
      have hpos : 0 < r.length := List.length_pos_iff.mpr fun h => by rw [h] at hne; cases hne
      rw [lastD, hne, if_neg (by decide)]
      have hgd : (encN r)[((-1 : Int) + (encN r).length).toNat]? = some (.int ((r.getD (r.length - 1) 0 : Nat) : Int)) := by
        rw [List.length_map, show ((-1 : Int) + (r.length : Int)).toNat = r.length - 1 by omega, List.getElem?_map, List.getD_eq_getElem?_getD, List.getElem?_eq_getElem (show r.length - 1 < r.length by omega)]; rfl
      exact ev_sub (ev_name rfl) (ev_un ev_int op_neg) (op_item_lst_neg hgd (by decide) (by rw [List.length_map]; omega) (by rw [List.length_map]; exact hrl r hr))
    · have hne : r.isEmpty = true := by simpa using h
      rw [lastD, hne, if_pos rfl]; exact ev_str
  refine st_assign (d := ringD ends) F₉ rm (ev_ifexp (evT_cmp (ev_name rfl) (ev_list evAll_nil) op_ne_nilm) (fun h => ?_) (fun h => ?_)) fun sa Ra la Fa => ?_
  · have hne : ends.isEmpty = false := by simpa using h
    rw [ringD, hne, if_neg (by decide)]; exact ev_str
  · have hne : ends.isEmpty = true := by simpa using h
    rw [ringD, hne, if_pos rfl]; exact ev_none
  refine st_ret (d := dueD rows picks) Fa rm (Ev.cast (ev_tuple (evAll_cons (ev_name rfl) (evAll_cons (ev_name rfl) (evAll_cons (ev_name rfl) (evAll_cons (ev_name rfl) (evAll_cons (d := rowsDN (rows.map fun r => r.filter fun k => !ends.contains k)) ?_ evAll_nil)))))) (by rw [dueD, hE, hen])) fun sb Rb w lb Fb hw => hQ _ _ ⟨w, rfl, Fb.post hw⟩
  refine Ev.cast (ev_lc0 (L := rows) (enc := fun r => .lst (encN r)) (tds := fun r => [.lst (encN r)]) (f := fun r => .lst (encN (r.filter fun k => !ends.contains k))) [Str.ofString "row"] (evIt_lst (ev_name rfl)) (by kernel_rfl!) (fun _ _ => ⟨rfl, rfl⟩)
    (fun r hr => ev_lc (L := r) (enc := fun (c : Nat) => Dat.int (c : Int)) (tds := fun (c : Nat) => [.int (c : Int)]) (p := fun k => !ends.contains k) (f := fun (c : Nat) => Dat.int (c : Int)) [Str.ofString "name"] (evIt_lst (ev_name rfl)) (by kernel_rfl!) (fun _ _ => ⟨rfl, rfl⟩) (fun k _ => evT_cmp (ev_name rfl) (ev_name rfl) op_notin_N) (fun _ _ _ => ev_name rfl) (hrl r hr)) (hsz _ (by omega))) (by rw [rowsDN, List.map_map]; rfl)
end
end Mine
end
noncomputable section
open PySem PySem.W PyProof.Rows PySem.SeqAt PySem.MeetsSeq
set_option Elab.async false
set_option autoImplicit false
set_option maxRecDepth 100000
namespace Mine
theorem type_exc : isSubtype (.type "TypeError") (.type "BaseException") = pure true := by rw [isSubtype_type]; kernel_rfl
theorem type_self : isSubtype (.type "TypeError") (.type "TypeError") = pure true := by rw [isSubtype_type]; kernel_rfl
theorem type_nt : isSubtype (.type ((Manifest.find? "TypeError").elim "type" fun x => x.metatype)) (.type "tuple") = pure false := by rw [isSubtype_type]; kernel_rfl
section
variable {C : Cx} {s₀ : Shared} {R₀ : Reg} {V : List Addr} {sc : Scope} {env : Env} {W : List Addr} {s s' : Shared} {R R' Mu Mu' : Reg} {Δ Δ' : Vars} {n : Nat} {A : Around} {E : Value → Shared → Prop} {Q : Flow → Shared → Prop}
noncomputable def Catches (C : Cx) (env : Env) (x : Expr) (cls : Value) : Prop :=
  ∀ A' s₁ e (Qb : Bool → Shared → Prop) E', hle C.h₀ s₁.heap → (∃ o, s₁.heap.get? e = some o ∧ o.cls = cls) → Qb true s₁ →
    wpAny C.M A' (eval x env) (fun c s₂ => wpAny C.M A' (excMatches (.ref e) c) Qb E' s₂) E' s₁
theorem catches_type {f : Str} {fp : Pos} {T : String} (F : Fra C s₀ R₀ V sc env W s R Mu Δ) (gs : GlobIs C f (.type T)) (hfk : sc.names.lookup f = some .globalImplicit)
    (hexc : isSubtype (.type T) (.type "BaseException") = pure true) (hnt : isSubtype (.type ((Manifest.find? T).elim "type" fun x => x.metatype)) (.type "tuple") = pure false) (hsub : isSubtype (.type T) (.type T) = pure true)
    (hxf : ((f == ("__debug__" : Str))) = false := by decide +kernel) : Catches C env (.Name f fp) (.type T) := by
  intro A' s₁ e Qb E' h0 ho hQ
  exact wpAny_Name (gs _ env _ _ _ (F.eo.hsc ▸ F.eo.fn) (by rw [← F.eo.hsc] at hfk; exact hfk) F.eo.gl F.eo.bl h0 (wpAny_excMatches_type (let ⟨o, a, b⟩ := ho; ⟨o, a, b⟩) hexc hnt hsub hQ)) hxf
theorem catches_own {f : Str} {fp : Pos} {c Ns : Addr} {nm qn : Str} {bs bm : List Value} {hdct : Bool} {sn : List Str} {sub : List Value} {ab : Bool} {col : Option Bool} {dd : Option Addr} {k0 k1 k2 k3 k5 : Option Value} {newId : String}
    (F : Fra C s₀ R₀ V sc env W s R Mu Δ) (gs : GlobIs C f (.ref c)) (hfk : sc.names.lookup f = some .globalImplicit)
    (hC : C.h₀.get? c = some (excClassObj nm qn c Ns bs bm hdct sn sub ab col dd k0 k1 k2 k3 k5 newId)) (hbase : bm.contains (.type "BaseException") = true)
    (hxf : ((f == ("__debug__" : Str))) = false := by decide +kernel) : Catches C env (.Name f fp) (.ref c) := by
  intro A' s₁ e Qb E' h0 ho hQ
  obtain ⟨o, a, b⟩ := ho
  obtain ⟨hp, g, d, tk, os⟩ := s₁
  exact wpAny_Name (gs _ env _ _ _ (F.eo.hsc ▸ F.eo.fn) (by rw [← F.eo.hsc] at hfk; exact hfk) F.eo.gl F.eo.bl h0 (wpAny_excMatches_sub_self (h0 _ _ hC) a b hbase hQ)) hxf
theorem catchX {Out : List Env} {X : List Addr} {K : Reg} {e tb : Addr} {cls cx : Value} {x : Expr} {b₀ : Stmt} {suite : List Stmt} {hp : Pos}
    (F : Fra C s₀ R₀ V sc env W s R Mu Δ) (hfr : A.frames = some (env :: Out)) (hf : env.frame = some env.locals) (Lv : Live Out Mu)
    (hX : ∀ a ∈ X, ∃ o, Mu a = some o ∧ ∀ v, o.data ≠ .cell v) (kb : KeepsBut (frs (env :: Out) ++ X) s s') (up : UpTo (frs (env :: Out)) s.heap.get? s'.heap.get?) (fly : Fly s'.heap e cls cx tb .none) (he : s.heap.get? e = none) (htb : s.heap.get? tb = none)
    (hK : ∀ a o, K a = some o → s'.heap.get? a = some o ∧ ((∃ o', Mu a = some o') ∨ s.heap.get? a = none) ∧ a ∉ frs Out ∧ a ≠ e ∧ a ≠ tb) (hXK : ∀ a ∈ X, ∃ o, K a = some o) (hc : Catches C env x cls)
    (hsuite : ∀ s₅ Mu', Fra C s₀ R₀ V sc env W s₅ R Mu' Δ → (∀ a o, K a = some o → Mu' a = some o) → Reg.keepsOff (X ++ frs Out) Mu Mu' → UpTo (frs Out) Mu Mu' → wpAny C.M (A.mark (some (.ref e))) (execs (b₀ :: suite) env) Q NoE s₅) :
    wpAny C.M A (noteFrame (.ref e) env) (fun _ s₂ => wpAny C.M A (setFlight (.ref e) none) (fun _ s₃ => wpAny C.M A (handleBy (.ref e) env [.ExceptHandler (some x) none (b₀ :: suite) hp]) Q E s₃) E s₂) E s' := by
  have hL : ∀ a o, Mu a = some o → a ≠ env.locals := fun a o q h => (F.mu a o q).2.2.1 (h ▸ F.ew.locW)
  have lv : Live (env :: Out) s'.heap.get? := (F.live hf Lv).up up
  have off := fly.off lv
  obtain ⟨hh, tk, rfl, xx⟩ := kb
  have hKl : ∀ a o, K a = some o → a ≠ env.locals := fun a o q h => by
    obtain ⟨_, h2, _⟩ := hK a o q
    rcases h2 with ⟨o', e'⟩ | h2
    · exact hL a o' e' h
    · obtain ⟨m, o', es, ep, ho, _⟩ := F.ew.ns
      rw [h, ho] at h2; (have q_ := oSN h2; clear h2; exact q_.elim)
  refine note2 (s := { s with heap := hh, toks := tk }) hfr lv hf fly fun h₁ tb' mk htb' fly₁ => ?_
  have ne : ∀ b, (∃ o, s.heap.get? b = some o) ∨ (∃ o, K b = some o) → b ≠ e ∧ b ≠ tb ∧ b ≠ tb' := fun b hb => by
    have dead : ∀ c, s.heap.get? c = none → (∀ o, K c = some o → False) → b ≠ c := fun c h1 h2 q => by
      subst q
      rcases hb with ⟨o, q⟩ | ⟨o, q⟩
      · rw [h1] at q; (have q_ := oNS q; clear q; exact q_.elim)
      · exact h2 o q
    refine ⟨dead e he fun o q => (hK e o q).2.2.2.1 rfl, dead tb htb fun o q => (hK tb o q).2.2.2.2 rfl, ?_⟩
    intro q
    subst q
    rcases hb with ⟨o, q⟩ | ⟨o, q⟩
    · by_cases hfb : b ∈ frs (env :: Out)
      · obtain ⟨sl, q'⟩ := up b hfb o q
        rw [show Heap.get? _ b = _ from q'] at htb'; (have q_ := oSN htb'; clear htb'; exact q_.elim)
      · by_cases hbX : b ∈ X
        · obtain ⟨o', q'⟩ := hXK b hbX
          rw [show Heap.get? _ b = _ from (hK b o' q').1] at htb'; (have q_ := oSN htb'; clear htb'; exact q_.elim)
        · rw [show Heap.get? _ b = _ from xx b o (fun h => (List.mem_append.mp h).elim hfb hbX) q] at htb'; (have q_ := oSN htb'; clear htb'; exact q_.elim)
    · rw [show Heap.get? _ b = _ from (hK b o q).1] at htb'; (have q_ := oSN htb'; clear htb'; exact q_.elim)
  refine landX (s := { s with heap := h₁, toks := tk }) fly₁ fun h₂ sb₂ fly₂ => ?_
  have k2 : ∀ b o, b ∉ frs (env :: Out) → (∃ o, s.heap.get? b = some o) ∨ (∃ o, K b = some o) → hh.get? b = some o → h₂.get? b = some o := fun b o hb hx q => by
    obtain ⟨n1, n2, n3⟩ := ne b hx
    exact sb₂.extBut b o n3 (mk.keep b o hb (by simp [n1, n2]) q)
  have f2 : UpTo (frs (env :: Out)) s.heap.get? h₂.get? := fun b hb o q => by
    obtain ⟨n1, n2, n3⟩ := ne b (.inl ⟨o, q⟩)
    obtain ⟨sl, q1⟩ := up b hb o q
    obtain ⟨sl', q2⟩ := mk.fr b _ hb q1
    exact ⟨sl', sb₂.extBut b _ n3 q2⟩
  have base : ∀ h : Heap, (∀ b o, b ∉ frs (env :: Out) → (∃ o, s.heap.get? b = some o) ∨ (∃ o, K b = some o) → hh.get? b = some o → h.get? b = some o) → hle C.h₀ h := fun h kk b o q => by
    have qR := F.ro.base b o q
    have q₁ := F.ro.on b o qR
    have hbf : b ∉ frs (env :: Out) := fun hb => by
      rw [frs_cons hf] at hb
      rcases List.mem_cons.mp hb with hb | hb
      · rw [hb, F.ew.offR _ F.ew.locW] at qR; (have q_ := oNS qR; clear qR; exact q_.elim)
      · obtain ⟨o', q', _⟩ := Lv.obj hb
        rw [(F.mu _ _ q').2.1] at qR; (have q_ := oNS qR; clear qR; exact q_.elim)
    refine kk b o hbf (.inl ⟨o, q₁⟩) (xx b o (fun hb => ?_) q₁)
    rcases List.mem_append.mp hb with hb | hb
    · exact hbf hb
    · obtain ⟨o', q', _⟩ := hX b hb
      rw [(F.mu _ _ q').2.1] at qR; (have q_ := oNS qR; clear qR; exact q_.elim)
  refine wpAny_handleBy_cons (codeAny_handlers_test (hc _ _ e _ _ (base h₂ k2) (let ⟨⟨o, vs, a, b, _⟩, _⟩ := fly₂; ⟨o, a, b⟩) (codeAny_handlers_suite ?_))) (by intro q; cases q)
  refine landX (s := { s with heap := h₂, toks := tk }) fly₂ fun h₃ sb₃ fly₃ => ?_
  have k3 : ∀ b o, b ∉ frs (env :: Out) → (∃ o, s.heap.get? b = some o) ∨ (∃ o, K b = some o) → hh.get? b = some o → h₃.get? b = some o := fun b o hb hx q => sb₃.extBut b o (ne b hx).2.2 (k2 b o hb hx q)
  have f3 : UpTo (frs (env :: Out)) s.heap.get? h₃.get? := fun b hb o q => by
    obtain ⟨sl, q1⟩ := f2 b hb o q
    exact ⟨sl, sb₃.extBut b _ (ne b (.inl ⟨o, q⟩)).2.2 q1⟩
  have hKf : ∀ a o, K a = some o → a ∉ frs (env :: Out) := fun a o q h => by
    rw [frs_cons hf] at h
    rcases List.mem_cons.mp h with h | h
    · exact hKl a o q h
    · exact (hK a o q).2.2.1 h
  have hKh : ∀ a o, K a = some o → h₃.get? a = some o := fun a o q => k3 a o (hKf a o q) (.inr ⟨o, q⟩) (hK a o q).1
  rw [frs_cons hf] at k3 f3
  have F₅ : Fra C s₀ R₀ V sc env W { s with heap := h₃, toks := tk } R (fun a => if a ∈ frs Out then h₃.get? a else match K a with | some o => some o | none => if a ∈ X then none else Mu a) Δ := by
    refine F.deep (X := frs Out ++ X) ⟨h₃, tk, rfl, fun b o hb q => k3 b o (fun h => hb ?_) (.inl ⟨o, q⟩) (xx b o (fun h => hb ?_) q)⟩ (fun a ha o q => f3 a (by rw [List.mem_singleton.mp ha]; exact List.mem_cons_self) o q) (fun a ha => ?_) (fun a ha => ?_) (.refl _) (Reg.ext_le F.ro.on) fun a o q => ?_
    · rcases List.mem_cons.mp h with h | h
      · exact h ▸ List.mem_cons_self
      · exact List.mem_cons_of_mem _ (List.mem_append_left _ h)
    · rw [frs_cons hf] at h
      rcases List.mem_append.mp h with h | h
      · rcases List.mem_cons.mp h with h | h
        · exact h ▸ List.mem_cons_self
        · exact List.mem_cons_of_mem _ (List.mem_append_left _ h)
      · exact List.mem_cons_of_mem _ (List.mem_append_right _ h)
    · rcases List.mem_append.mp ha with h | h
      · exact Lv.obj h
      · exact hX a h
    · rcases List.mem_append.mp ha with h | h
      · obtain ⟨o, q, _⟩ := Lv.obj h
        obtain ⟨sl, q'⟩ := f3 a (List.mem_cons_of_mem _ h) o (F.mu _ _ q).1
        exact ⟨_, q'⟩
      · obtain ⟨o, q⟩ := hXK a h
        exact ⟨o, hKh a o q⟩
    · by_cases ha : a ∈ frs Out
      · simp only [ha, if_true] at q
        obtain ⟨o', q', _⟩ := Lv.obj ha
        exact ⟨q, (F.mu _ _ q').2.1, .inl ⟨o', q'⟩⟩
      · simp only [ha, if_false] at q
        cases hka : K a with
        | some o' =>
          rw [hka] at q; (have q_ := oSS q; clear q; subst q_)
          obtain ⟨g1, g2, g3⟩ := hK a _ hka
          refine ⟨hKh a _ hka, ?_, g2⟩
          rcases g2 with ⟨o', q'⟩ | g2
          · exact (F.mu _ _ q').2.1
          · cases z : R a with
            | none => rfl
            | some o' => have := F.ro.on a o' z; rw [g2] at this; (have q_ := oNS this; clear this; exact q_.elim)
        | none =>
          rw [hka] at q
          by_cases hx : a ∈ X
          · simp only [hx, if_true] at q; (have q_ := oNS q; clear q; exact q_.elim)
          · simp only [hx, if_false] at q
            obtain ⟨g1, g2, g3, g4⟩ := F.mu _ _ q
            refine ⟨k3 a o (fun h => ?_) (.inl ⟨o, g1⟩) (xx a o (fun h => ?_) g1), g2, .inl ⟨o, q⟩⟩
            · rcases List.mem_cons.mp h with h | h
              · exact hL a o q h
              · exact ha h
            · rw [frs_cons hf] at h
              rcases List.mem_append.mp h with h | h
              · rcases List.mem_cons.mp h with h | h
                · exact hL a o q h
                · exact ha h
              · exact hx h
  refine wpAny_mono (hsuite _ _ F₅ (fun a o q => ?_) (fun a o ha q => ?_) (fun a ha o q => ?_)) (fun _ _ q => q) fun _ _ q => q.elim
  · simp only [(hK a o q).2.2.1, if_false, q]
  · have h1 : a ∉ X := fun h => ha (List.mem_append_left _ h)
    have h2 : a ∉ frs Out := fun h => ha (List.mem_append_right _ h)
    simp only [h1, h2, if_false]
    cases hka : K a with
    | none => exact q
    | some o' =>
      obtain ⟨g1, _⟩ := hK a o' hka
      obtain ⟨p1, _⟩ := F.mu _ _ q
      have : hh.get? a = some o := xx a o (fun h => by
        rw [frs_cons hf] at h
        rcases List.mem_append.mp h with h | h
        · rcases List.mem_cons.mp h with h | h
          · exact hL a o q h
          · exact h2 h
        · exact h1 h) p1
      rw [show Heap.get? _ a = _ from g1] at this
      exact this
  · obtain ⟨sl, q'⟩ := f3 a (List.mem_cons_of_mem _ ha) o (F.mu _ _ q).1
    exact ⟨sl, by simp only [ha, if_true]; exact q'⟩
theorem appendS {x m : Str} {np ap pos kp : Pos} {kk : Nat} {l : Addr} {vs : List Value} {k : Nat} {Qv : Value → Shared → Prop} (F : Fra C s₀ R₀ V sc env W s R Mu Δ) (hx : Δ x = some (.val (.ref l))) (hl : Mu l = some (lstObj vs k)) (hz : vs.length ≤ sizeLine)
    (h : ∀ s₁ R₁ v m', R.le R₁ → Rd R₁ v (.str m) → Fra C s₀ R₀ V sc env W s₁ R₁ (Mu.set l (lstObj (vs ++ [v]) m')) Δ → Qv .none s₁)
    (hn : ((x == ("__debug__" : Str)) || (x == ("__classdict__" : Str))) = false := by decide +kernel)
    (hline : (ap.endLine == pos.line) = true := by rfl) (hbase : attributeBase (.Name x np) (Str.ofString "append") env (eval (.Name x np) env) = eval (.Name x np) env := by rfl) (hs : starEach [.Constant (.str m) kk kp] env = [(false, eval (.Constant (.str m) kk kp) env)] := by rfl) :
    wpAny C.M A (eval (.Call (.Attribute (.Name x np) (Str.ofString "append") ap) [.Constant (.str m) kk kp] [] pos) env) Qv E s := by
  refine wpAny_Call_method1_late hbase hline (by rw [hs]; rfl) (F.name hx (fun ov h1 => ?_) hn)
  (have q_ := Rd.valE h1; clear h1; subst q_)
  refine ⟨"list", "list.append", PySem.F.plainAttrs_list, PySem.F.slot_list_append, PySem.F.type_list_append, ⟨_, F.rom.mu _ _ hl, rfl⟩, fun a ha => by (have q_ := vRR ha; clear ha; subst q_); exact ⟨_, F.rom.mu _ _ hl, rfl⟩, ?_⟩
  have he' : backTo pos (starEach [.Constant (.str m) kk kp] env) = [(false, eval (.Constant (.str m) kk kp) env)] := by rw [hs]; rfl
  rw [← he']
  refine callWith_method1 (wpAny_items_cons (wpAny_Constant_str (wpAny_items_nil ?_)) hs) hs rfl
  have F₂ := F.ext (Keeps.toks s (s.toks + 1))
  refine wpAny_list_append_plain (items := vs.toArray) ⟨k, F₂.rom.mu _ _ hl⟩ (fun h' hp hsb => ?_) (by simpa using hz)
  obtain ⟨m', hp⟩ := hp
  refine h _ _ (.str m s.toks) m' (Reg.ext_le F.ro.on) (.str _ _) (F₂.mut hl (o' := lstObj (vs ++ [.str m s.toks]) m') (fun _ q => nomatch q) hsb ?_)
  rw [hp]; simp [lstObj]
end
end Mine
end
noncomputable section
open PySem PySem.W PyProof.Rows PySem.SeqAt PySem.MeetsSeq
set_option Elab.async false
set_option autoImplicit false
set_option maxRecDepth 100000
namespace Mine
section
variable {C : Cx} {cT cN : Addr} {s₀ : Shared} {R₀ : Reg} {V : List Addr} {sc : Scope} {env : Env} {W : List Addr} {s s' : Shared} {R R' Mu Mu' : Reg} {Δ Δ' : Vars} {n : Nat} {A : Around} {E : Value → Shared → Prop} {Z Z' : Srt} {σ σ' : Sd} {K : Frag} {od : Obj} {name : Str} {f : Addr}
theorem FPost.frame {Out : List Env} {v : Value} {d : Dat} {Qp : Prop} (F : Fra C s₀ R₀ V sc env W s R Mu Δ) (hf : env.frame = some env.locals) (Lv : Live Out Mu) (dis : ∀ a ∈ frs Out, a ∉ Z.all σ) (S : SAt C cT cN Mu Z σ) (p : FPost C cT cN (env :: Out) s R Z σ v s' Z' σ' d)
    (h : ∀ R' Mu', Z'.s = Z.s → R.le R' → Rd R' v d → Fra C s₀ R₀ V sc env W s' R' Mu' Δ → SAt C cT cN Mu' Z' σ' → (∀ a ∈ Z'.all σ', a ∈ Z.all σ ∨ s.heap.get? a = none) → (∀ a ∈ Z.all σ, a ∈ Z'.all σ') → Reg.keepsOff (Z.all σ ++ frs Out) Mu Mu' → UpTo (frs Out) Mu Mu' → Qp) : Qp := by
  have pk := p.keep
  have pf := p.fr
  rw [frs_cons hf] at pk pf
  have reg : R.le ((R.ext s.heap s'.heap).minus (Z'.all σ')) := fun a o e => by
    refine Reg.minus_some (fun h => ?_) (Reg.ext_le F.ro.on a o e)
    rcases p.new a h with q | q
    · obtain ⟨o', e', _⟩ := S.obj q
      rw [(F.mu a o' e').2.1] at e; (have q_ := oNS e; clear e; exact q_.elim)
    · have := F.ro.on a o e; rw [q] at this; (have q_ := oNS this; clear this; exact q_.elim)
  have disj : ∀ a ∈ frs Out, a ∉ Z'.all σ' := fun a ha h => by
    rcases p.new a h with q | q
    · exact dis a ha q
    · obtain ⟨o, e, _⟩ := Lv.obj ha
      rw [(F.mu _ _ e).1] at q; (have q_ := oSN q; clear q; exact q_.elim)
  have F' : Fra C s₀ R₀ V sc env W s' ((R.ext s.heap s'.heap).minus (Z'.all σ')) (fun a => if a ∈ frs Out ++ Z'.all σ' then s'.heap.get? a else Mu a) Δ := by
    refine F.deep (X := frs Out ++ Z.all σ) pk (fun a ha o e => pf a (List.mem_cons.mpr (.inl (List.mem_singleton.mp ha))) o e) (fun a ha => ?_) (fun a ha => ?_) reg Reg.minus_le fun a o e => ?_
    · rcases List.mem_append.mp ha with h | h
      · exact Lv.obj h
      · exact S.obj h
    · rcases List.mem_append.mp ha with h | h
      · obtain ⟨o, e, _⟩ := Lv.obj h
        obtain ⟨sl, e'⟩ := pf a (List.mem_cons_of_mem _ h) o (F.mu _ _ e).1
        exact ⟨_, e'⟩
      · obtain ⟨o, e, _⟩ := p.at'.obj (p.old a h); exact ⟨o, e⟩
    · by_cases ha : a ∈ frs Out ++ Z'.all σ'
      · simp only [ha, if_true] at e
        rcases List.mem_append.mp ha with h | h
        · obtain ⟨o', e', _⟩ := Lv.obj h
          refine ⟨e, ?_, .inl ⟨o', e'⟩⟩
          cases q : ((R.ext s.heap s'.heap).minus (Z'.all σ')) a with
          | none => rfl
          | some o'' =>
            have := Reg.minus_le a o'' q
            rw [ext_off (F.mu _ _ e').1 (F.mu _ _ e').2.1] at this; (have q_ := oNS this; clear this; exact q_.elim)
        · refine ⟨e, Reg.minus_off h, ?_⟩
          rcases p.new a h with q | q
          · obtain ⟨o', e', _⟩ := S.obj q; exact .inl ⟨o', e'⟩
          · exact .inr q
      · simp only [ha, if_false] at e
        have ha1 : a ∉ frs Out := fun h => ha (List.mem_append_left _ h)
        have ha2 : a ∉ Z'.all σ' := fun h => ha (List.mem_append_right _ h)
        obtain ⟨h1, h2, h3, h4⟩ := F.mu a o e
        have hz : a ∉ Z.all σ := fun h => ha2 (p.old a h)
        refine ⟨pk.get (fun h => ?_) h1, ?_, .inl ⟨o, e⟩⟩
        · rcases List.mem_cons.mp h with h | h
          · exact h3 (h ▸ F.ew.locW)
          · rcases List.mem_append.mp h with h | h
            · exact ha1 h
            · exact hz h
        · cases q : ((R.ext s.heap s'.heap).minus (Z'.all σ')) a with
          | none => rfl
          | some o' =>
            have := Reg.minus_le a o' q
            rw [ext_off h1 h2] at this; (have q_ := oNS this; clear this; exact q_.elim)
  refine h _ _ p.self reg p.val F' (p.at'.on fun a o ha e => by simp only [List.mem_append_right (frs Out) ha, if_true]; exact e) p.new p.old (fun a o ha e => ?_) fun a ha o e => ?_
  · have hn : a ∉ frs Out ++ Z'.all σ' := fun h => by
      rcases List.mem_append.mp h with h | h
      · exact ha (List.mem_append_right _ h)
      · rcases p.new a h with q | q
        · exact ha (List.mem_append_left _ q)
        · rw [(F.mu a o e).1] at q; (have q_ := oSN q; clear q; exact q_.elim)
    simp only [hn, if_false]; exact e
  · obtain ⟨sl, e'⟩ := pf a (List.mem_cons_of_mem _ ha) o (F.mu _ _ e).1
    exact ⟨sl, by simp only [List.mem_append_left (Z'.all σ') ha, if_true]; exact e'⟩
theorem Fra.fmeth0X {Out : List Env} {o : Expr} {ap pos : Pos} {cls : Value} {P : Srt → Sd → Dat → Prop} {PE : Srt → Sd → Prop} {Qv : Value → Shared → Prop} (F : Fra C s₀ R₀ V sc env W s R Mu Δ) (rm : Room n A) (B : Base C K) (O : MethA K cT name f) (hfr : A.frames = some (env :: Out)) (hf : env.frame = some env.locals) (Lv : Live Out Mu) (dis : ∀ a ∈ frs Out, a ∉ Z.all σ) (S : SAt C cT cN Mu Z σ) (hd : Mu Z.d = some od) (hl : lookIn name od = some none)
    (ho : Ev (C.at Mu) n sc Δ o (.val (.ref Z.s))) (hc : XFCall C cT cN n f [] Z σ cls P PE)
    (h : ∀ s₁ v s' R' Mu' Z' σ' d, P Z' σ' d → Z'.s = Z.s → R.le R' → Rd R' v d → Fra C s₀ R₀ V sc env W s' R' Mu' Δ → SAt C cT cN Mu' Z' σ' → (∀ a ∈ Z'.all σ', a ∈ Z.all σ ∨ s₁.heap.get? a = none) → Keeps s s₁ → (∀ a ∈ Z.all σ, a ∈ Z'.all σ') → Reg.keepsOff (Z.all σ ++ frs Out) Mu Mu' → UpTo (frs Out) Mu Mu' → Qv v s')
    (hx : ∀ s₁ R₁ x s' Z' σ', R.le R₁ → Keeps s s₁ → Fra C s₀ R₀ V sc env W s₁ R₁ Mu Δ → PE Z' σ' → EPost C cT cN (env :: Out) s₁ Z σ cls x s' Z' σ' → E x s')
    {pl : Sem Bool} (hm : eval (.Call (.Attribute o name ap) [] [] pos) env = (do
      let ov ← eval o env
      standAt ap.atName
      let (f, first) ← holding [ov] (getMethod ov name pl)
      callWith pos f first (backTo pos (starEach [] env)) (backToKw pos (keywordEach [] env))) := by rfl) :
    wpAny C.M A (eval (.Call (.Attribute o name ap) [] [] pos) env) Qv E s := by
  refine meth_run0 B O F rm ho S.s hd hl (fun s₁ R₁ l₁ k₁ F₁ => ?_) (pl := pl) hm
  have hlz : env.locals ∉ Z.all σ := fun h => by
    obtain ⟨o, e, _⟩ := S.obj h
    exact (F₁.mu _ _ e).2.2.1 F₁.ew.locW
  refine wpAny_mono (hc A (env :: Out) s₁ R₁ [] rm hfr (F₁.live hf Lv) F₁.ro .nil (S.on fun a o _ e => (F₁.mu a o e).1) (fun a ha => let ⟨o, e, _⟩ := S.obj ha; (F₁.mu a o e).2.1) fun a ha => ?_) (fun v s' q => ?_) fun x s' q => ?_
  · rw [frs_cons hf] at ha
    rcases List.mem_cons.mp ha with rfl | ha
    · exact ⟨F₁.ew.offR _ F₁.ew.locW, hlz⟩
    · obtain ⟨o, e, _⟩ := Lv.obj ha
      exact ⟨(F₁.mu _ _ e).2.1, dis a ha⟩
  · obtain ⟨Z', σ', d, hP, p⟩ := q
    exact p.frame F₁ hf Lv dis S fun R' Mu' a1 a2 a3 a4 a5 a6 a7 a8 a9 => h s₁ v s' R' Mu' Z' σ' d hP a1 (l₁.trans a2) a3 a4 a5 a6 k₁ a7 a8 a9
  · obtain ⟨Z', σ', hP, p⟩ := q
    exact hx s₁ R₁ x s' Z' σ' l₁ k₁ F₁ hP p
theorem Fra.xcall {Out : List Env} {ds : List Dat} {vs : List Value} {cls : Value} {Qv : Value → Shared → Prop} (F : Fra C s₀ R₀ V sc env W s R Mu Δ) (rm : Room n A) (hfr : A.frames = some (env :: Out)) (hf : env.frame = some env.locals) (Lv : Live Out Mu) (hvs : RdAll R vs ds) (hc : XCall C n f ds cls)
    (h : ∀ x s', ExPost (env :: Out) s cls x s' → E x s') : wpAny C.M A (call (.ref f) vs) Qv E s :=
  wpAny_mono (hc A (env :: Out) s R vs rm hfr (F.live hf Lv) F.ro hvs (fun a ha => by
    rw [frs_cons hf] at ha
    rcases List.mem_cons.mp ha with rfl | ha
    · exact F.ew.offR _ F.ew.locW
    · obtain ⟨o, e, _⟩ := Lv.obj ha
      exact (F.mu _ _ e).2.1)) (fun _ _ q => q.elim) h
theorem appendX {o e : Expr} {ap pos : Pos} {l : Addr} {vs : List Value} {m : Nat} {Qv : Value → Shared → Prop} (F : Fra C s₀ R₀ V sc env W s R Mu Δ) (rm : Room n A) (ho : Ev (C.at Mu) n sc Δ o (.val (.ref l))) (hl : Mu l = some (lstObj vs m))
    (he : ∀ s₁ R₁, R.le R₁ → Keeps s s₁ → Fra C s₀ R₀ V sc env W s₁ R₁ Mu Δ → wpAny C.M A (eval e env) (fun _ _ => False) E s₁)
    (hline : (ap.endLine == pos.line) = true := by rfl) (hbase : attributeBase o (Str.ofString "append") env (eval o env) = eval o env := by rfl) (hs : starEach [e] env = [(false, eval e env)] := by rfl) :
    wpAny C.M A (eval (.Call (.Attribute o (Str.ofString "append") ap) [e] [] pos) env) Qv E s := by
  refine wpAny_Call_method1_late hbase hline (by rw [hs]; rfl) (F.ev rm ho fun ov s₁ R₁ l₁ k₁ hv F₁ => ?_)
  (have q_ := Rd.valE hv; clear hv; subst q_)
  refine ⟨"list", "list.append", PySem.F.plainAttrs_list, PySem.F.slot_list_append, PySem.F.type_list_append, ⟨_, F₁.rom.mu _ _ hl, rfl⟩, fun a ha => by (have q_ := vRR ha; clear ha; subst q_); exact ⟨_, F₁.rom.mu _ _ hl, rfl⟩, ?_⟩
  have he' : backTo pos (starEach [e] env) = [(false, eval e env)] := by rw [hs]; rfl
  rw [← he']
  exact callWith_method1 (wpAny_items_cons (wpAny_mono (he s₁ R₁ l₁ k₁ F₁) (fun _ _ q => q.elim) fun _ _ x => x) hs) hs rfl
theorem binW {a e : Expr} {op : Operator} {p : Pos} {d₁ d₂ d : Dat} {Qv : Value → Shared → Prop} (F : Fra C s₀ R₀ V sc env W s R Mu Δ) (rm : Room n A) (ha : Ev (C.at Mu) n sc Δ a d₁) (ho : ∀ mu, Op2 (C.at mu) n (binaryOp op) d₁ d₂ d)
    (he : ∀ s₁ R₁, R.le R₁ → Keeps s s₁ → Fra C s₀ R₀ V sc env W s₁ R₁ Mu Δ → wpAny C.M A (eval e env) (fun v s₂ => ∃ R₂ Mu₂, R₁.le R₂ ∧ Fra C s₀ R₀ V sc env W s₂ R₂ Mu₂ Δ ∧ Rd R₂ v d₂ ∧ ∀ w s₃ R₃, R₂.le R₃ → Fra C s₀ R₀ V sc env W s₃ R₃ Mu₂ Δ → Rd R₃ w d → Qv w s₃) NoE s₁) :
    wpAny C.M A (eval (.BinOp a op e p) env) Qv E s := by
  refine wpAny_BinOp (F.ev rm ha fun v₁ s₁ R₁ l₁ k₁ h₁ F₁ => noE (he s₁ R₁ l₁ k₁ F₁) fun v₂ s₂ q => ?_)
  obtain ⟨R₂, Mu₂, l₂, F₂, h₂, h⟩ := q
  refine noE (ho Mu₂ A s₂ R₂ v₁ v₂ rm F₂.rom (h₁.mono l₂) h₂) fun w s₃ p₃ => ?_
  exact h w s₃ _ (Reg.ext_le F₂.ro.on) (F₂.ext p₃.1) p₃.2
theorem callWb {x : Str} {e : Expr} {np p : Pos} {id : String} {d d' : Dat} {Qv : Value → Shared → Prop} (F : Fra C s₀ R₀ V sc env W s R Mu Δ) (rm : Room n A) (hfn : Ev (C.at Mu) n sc Δ (.Name x np) (.val (.builtin id))) (hc : CallOp C n (.builtin id) [d] d')
    (he : ∀ s₁ R₁, R.le R₁ → Keeps s s₁ → Fra C s₀ R₀ V sc env W s₁ R₁ Mu Δ → wpAny C.M A (eval e env) (fun v s₂ => ∃ R₂ Mu₂, R₁.le R₂ ∧ Fra C s₀ R₀ V sc env W s₂ R₂ Mu₂ Δ ∧ Rd R₂ v d ∧ ∀ w s₃ R₃, R₂.le R₃ → Fra C s₀ R₀ V sc env W s₃ R₃ Mu₂ Δ → Rd R₃ w d' → Qv w s₃) NoE s₁)
    (hs : starEach [e] env = [(false, eval e env)] := by rfl) :
    wpAny C.M A (eval (.Call (.Name x np) [e] [] p) env) Qv E s := by
  refine Call_ (F.ev rm hfn fun fv s₁ R₁ l₁ k₁ hfv F₁ => ?_)
  (have q_ := Rd.valE hfv; clear hfv; subst q_)
  refine callWith_builtin1 (wpAny_items_cons (noE (he s₁ R₁ l₁ k₁ F₁) fun v s₂ q => wpAny_items_nil ?_) hs) hs rfl
  obtain ⟨R₂, Mu₂, l₂, F₂, h₂, h⟩ := q
  exact noE (hc A s₂ R₂ _ rm F₂.ro (.cons h₂ .nil)) fun w s₃ p₃ => h w s₃ _ (Reg.ext_le F₂.ro.on) (F₂.ext p₃.1) p₃.2
theorem callWt {x : Str} {e : Expr} {np p : Pos} {T : String} {d d' : Dat} {Qv : Value → Shared → Prop} (F : Fra C s₀ R₀ V sc env W s R Mu Δ) (rm : Room n A) (hfn : Ev (C.at Mu) n sc Δ (.Name x np) (.val (.type T))) (hc : CallOp C n (.type T) [d] d')
    (he : ∀ s₁ R₁, R.le R₁ → Keeps s s₁ → Fra C s₀ R₀ V sc env W s₁ R₁ Mu Δ → wpAny C.M A (eval e env) (fun v s₂ => ∃ R₂ Mu₂, R₁.le R₂ ∧ Fra C s₀ R₀ V sc env W s₂ R₂ Mu₂ Δ ∧ Rd R₂ v d ∧ ∀ w s₃ R₃, R₂.le R₃ → Fra C s₀ R₀ V sc env W s₃ R₃ Mu₂ Δ → Rd R₃ w d' → Qv w s₃) NoE s₁)
    (hs : starEach [e] env = [(false, eval e env)] := by rfl) :
    wpAny C.M A (eval (.Call (.Name x np) [e] [] p) env) Qv E s := by
  refine Call_ (F.ev rm hfn fun fv s₁ R₁ l₁ k₁ hfv F₁ => ?_)
  (have q_ := Rd.valE hfv; clear hfv; subst q_)
  refine callWith_type1 (wpAny_items_cons (noE (he s₁ R₁ l₁ k₁ F₁) fun v s₂ q => wpAny_items_nil ?_) hs) hs rfl
  obtain ⟨R₂, Mu₂, l₂, F₂, h₂, h⟩ := q
  exact noE (hc A s₂ R₂ _ rm F₂.ro (.cons h₂ .nil)) fun w s₃ p₃ => h w s₃ _ (Reg.ext_le F₂.ro.on) (F₂.ext p₃.1) p₃.2
theorem tup5W {e₁ e₂ e₃ e₄ e : Expr} {k : Nat} {p : Pos} {d₁ d₂ d₃ d₄ d : Dat} {Qv : Value → Shared → Prop} (F : Fra C s₀ R₀ V sc env W s R Mu Δ) (rm : Room n A) (h₁ : Ev (C.at Mu) n sc Δ e₁ d₁) (h₂ : Ev (C.at Mu) n sc Δ e₂ d₂) (h₃ : Ev (C.at Mu) n sc Δ e₃ d₃) (h₄ : Ev (C.at Mu) n sc Δ e₄ d₄)
    (he : ∀ s₁ R₁, R.le R₁ → Keeps s s₁ → Fra C s₀ R₀ V sc env W s₁ R₁ Mu Δ → wpAny C.M A (eval e env) (fun v s₂ => ∃ R₂, R₁.le R₂ ∧ Fra C s₀ R₀ V sc env W s₂ R₂ Mu Δ ∧ Rd R₂ v d) NoE s₁)
    (h : ∀ w s₃ R₃, R.le R₃ → Fra C s₀ R₀ V sc env W s₃ R₃ Mu Δ → Rd R₃ w (.tup [d₁, d₂, d₃, d₄, d]) → Qv w s₃)
    (hs : starEach [e₁, e₂, e₃, e₄, e] env = [(false, eval e₁ env), (false, eval e₂ env), (false, eval e₃ env), (false, eval e₄ env), (false, eval e env)] := by rfl) :
    wpAny C.M A (eval (.Tuple [e₁, e₂, e₃, e₄, e] k p) env) Qv E s := by
  refine wpAny_Tuple ?_
  rw [hs]
  refine PySem.Calls.spliced_cons (F.ev rm h₁ fun v₁ s₁ R₁ l₁ k₁ q₁ F₁ => PySem.Calls.spliced_cons (F₁.ev rm h₂ fun v₂ s₂ R₂ l₂ k₂ q₂ F₂ => PySem.Calls.spliced_cons (F₂.ev rm h₃ fun v₃ s₃ R₃ l₃ k₃ q₃ F₃ => PySem.Calls.spliced_cons (F₃.ev rm h₄ fun v₄ s₄ R₄ l₄ k₄ q₄ F₄ => PySem.Calls.spliced_cons (noE (he s₄ R₄ (l₁.trans (l₂.trans (l₃.trans l₄))) (Keeps.tr (Keeps.tr (Keeps.tr k₁ k₂) k₃) k₄) F₄) fun v₅ s₅ q => PySem.Calls.spliced_nil ?_)))))
  obtain ⟨R₅, l₅, F₅, q₅⟩ := q
  refine ⟨by rw [sizeLine_val]; simp, ?_⟩
  have kk := Keeps.push s₅ { cls := .type "tuple", data := .seq [v₁, v₂, v₃, v₄, v₅].toArray }
  have F₆ := F₅.ext kk
  have le := Reg.ext_le F₅.ro.on (h' := s₅.heap.push { cls := .type "tuple", data := .seq [v₁, v₂, v₃, v₄, v₅].toArray })
  refine h _ _ _ (l₁.trans (l₂.trans (l₃.trans (l₄.trans (l₅.trans le))))) F₆ (.tup (Reg.new_ext fresh_none (Heap.get?_push_size _ rfl)) rfl rfl ?_)
  exact .cons (q₁.mono (l₂.trans (l₃.trans (l₄.trans (l₅.trans le))))) (.cons (q₂.mono (l₃.trans (l₄.trans (l₅.trans le)))) (.cons (q₃.mono (l₄.trans (l₅.trans le))) (.cons (q₄.mono (l₅.trans le)) (.cons (q₅.mono le) .nil))))
end
theorem call_listT {C : Cx} {n : Nat} {ds : List Dat} (hl : ds.length ≤ sizeLine) : CallOp C n (.type "list") [.tup ds] (.lst ds) := by
  intro A s R vs rm ro hr
  have q_ := RdAll.consE hr
  clear hr
  obtain ⟨_, _, rfl, h, r⟩ := q_
  next =>
    (have q_ := RdAll.nilE r; clear r; subst q_)
    cases h with
    | tup e c hd r =>
      refine call_list_seq _ (.inr rfl) (ro.on _ _ e) c hd (fun h' c' hk hnew => ?_) (by rw [List.size_toArray, r.length]; exact hl)
      have kn : Keeps s { s with heap := h' } := ⟨h', s.toks, rfl, hk⟩
      exact ⟨kn, .lst (Reg.new_ext fresh_none hnew) ⟨rfl, rfl⟩ rfl (r.mono (Reg.ext_le ro.on))⟩
noncomputable def VCall (C : Cx) (P : Addr) (n : Nat) (f : Addr) (ds : List Dat) (d : Dat) : Prop :=
  ∀ A Out s R vs, Room n A → A.frames = some Out → Live Out s.heap.get? → Rok (C.at noM) R s.heap → RdAll R vs ds → (∀ a ∈ frs Out, R a = none) → R P = none → s.heap.get? P = some (tabObj #[]) →
    wpAny C.M A (call (.ref f) vs) (fun v s' => KeepsBut (P :: frs Out) s s' ∧ UpTo (frs Out) s.heap.get? s'.heap.get? ∧ Rd (R.ext s.heap s'.heap) v d ∧ ∃ l' : List Value, s'.heap.get? P = some (tabObj l'.toArray)) NoE s
section
variable {C : Cx} {s₀ : Shared} {R₀ : Reg} {V : List Addr} {sc : Scope} {env : Env} {W : List Addr} {s s' : Shared} {R R' Mu Mu' : Reg} {Δ Δ' : Vars} {n : Nat} {A : Around} {E : Value → Shared → Prop} {Q : Flow → Shared → Prop}
theorem vcall_fn {P : Addr} {a : Addr} {fd : FuncData} {xs : List Str} {body : List Stmt} {ds es : List Dat} {d : Dat} (f : FnC C a fd xs body) (hl : xs.length = es.length)
    (hb : ∀ R s vs, Rok (C.at noM) R s.heap → RdAll R vs ds → Bnd C fd vs xs es R s)
    (h : ∀ A Out env W s₀ s R R₁ Mu, env.scope = fd.scope → env.frame = some env.locals → env.code = fd.code → env.qual = fd.qualname ++ ".<locals>." → A.frames = some (env :: Out) → Live Out Mu → P ∉ frs Out → Room n A → Mu P = some (tabObj #[]) → Fra C s₀ R (P :: frs Out) fd.scope env W s R₁ Mu (updAll noV xs es) →
      wpAny C.M A (execs body env) (fun fl s₂ => ∃ R₂ Mu₂ Δ₂ v, ∃ l' : List Value, fl = .ret v ∧ Fra C s₀ R (P :: frs Out) fd.scope env W s₂ R₂ Mu₂ Δ₂ ∧ UpTo (frs Out) Mu Mu₂ ∧ Rd R₂ v d ∧ Mu₂ P = some (tabObj l'.toArray)) NoE s) :
    VCall C P (n + 1) a ds d := by
  intro A Out s R vs rm hfr Lv ro hr hO hP0 hP
  have hPO : P ∉ frs Out := Lv.notab hP
  refine wpAny_call (fn_callX f rm ro (hb R s vs ro hr) hl fun env W s' R' e ef ec eq rm' F => ?_)
  have hVo : ∀ a ∈ P :: frs Out, ∃ o, s.heap.get? a = some o := fun a ha => by
    rcases List.mem_cons.mp ha with rfl | ha
    · exact ⟨_, hP⟩
    · obtain ⟨o, e, _⟩ := Lv.obj ha; exact ⟨o, e⟩
  have F' : Fra C s R (P :: frs Out) fd.scope env W s' R' (fun a => if a ∈ P :: frs Out then s.heap.get? a else none) (updAll noV xs es) := F.lent (fun a ha => by
    cases q : R' a with
    | none => rfl
    | some o =>
      rcases F.sub a o q with h' | h'
      · rcases List.mem_cons.mp ha with rfl | ha
        · rw [hP0] at h'; (have q_ := oNS h'; clear h'; exact q_.elim)
        · rw [hO a ha] at h'; (have q_ := oNS h'; clear h'; exact q_.elim)
      · obtain ⟨o', e'⟩ := hVo a ha; rw [e'] at h'; (have q_ := oSN h'; clear h'; exact q_.elim)) hVo
  have U0 : UpTo (frs Out) s.heap.get? (fun a => if a ∈ P :: frs Out then s.heap.get? a else none) := .of fun a ha o e => by simp only [List.mem_cons, ha, or_true, if_true]; exact e
  refine noE (h _ Out env W s s' R R' _ e ef ec eq (Around.frames_deeper hfr) (Lv.up U0) hPO rm' (by simp only [List.mem_cons_self, if_true]; exact hP) F') fun fl s₂ p => ?_
  obtain ⟨R₂, Mu₂, Δ₂, v, l', rfl, F₂, U, hv, hP₂⟩ := p
  have up : R₂.le (R.ext s.heap s₂.heap) := fun b ob e => by
    have on := F₂.ro.on b ob e
    rcases F₂.sub b ob e with q | q
    · simp only [Reg.ext, ro.on b ob q]; exact q
    · simp only [Reg.ext, q]; exact on
  refine ⟨F₂.keep, fun a ha o e => ?_, hv.mono up, l', (F₂.mu _ _ hP₂).1⟩
  obtain ⟨sl, q⟩ := (U0.trans U) a ha o e
  exact ⟨sl, (F₂.mu _ _ q).1⟩
theorem Fra.vcall {Out : List Env} {P : Addr} {f : Addr} {ds : List Dat} {d : Dat} {vs : List Value} {Qv : Value → Shared → Prop} (F : Fra C s₀ R₀ V sc env W s R Mu Δ) (rm : Room n A) (hfr : A.frames = some (env :: Out)) (hf : env.frame = some env.locals) (Lv : Live Out Mu) (hP : Mu P = some (tabObj #[])) (hvs : RdAll R vs ds) (hc : VCall C P n f ds d)
    (h : ∀ v s' R' Mu' (l' : List Value), R.le R' → Rd R' v d → Fra C s₀ R₀ V sc env W s' R' Mu' Δ → Reg.keepsOff (P :: frs Out) Mu Mu' → UpTo (frs Out) Mu Mu' → Mu' P = some (tabObj l'.toArray) → Qv v s') :
    wpAny C.M A (call (.ref f) vs) Qv E s := by
  have hPO : P ∉ frs Out := Lv.notab hP
  refine noE (hc A (env :: Out) s R vs rm hfr (F.live hf Lv) F.ro hvs (fun a ha => ?_) (F.mu _ _ hP).2.1 (F.mu _ _ hP).1) fun v s' q => ?_
  · rw [frs_cons hf] at ha
    rcases List.mem_cons.mp ha with rfl | ha
    · exact F.ew.offR _ F.ew.locW
    · obtain ⟨o, e, _⟩ := Lv.obj ha
      exact (F.mu _ _ e).2.1
  obtain ⟨pk, pf, hv, l', hP'⟩ := q
  rw [frs_cons hf] at pk pf
  have obj : ∀ a ∈ P :: frs Out, ∃ o, Mu a = some o ∧ ∀ v, o.data ≠ .cell v := fun a ha => by
    rcases List.mem_cons.mp ha with rfl | ha
    · exact ⟨_, hP, fun v e => nomatch e⟩
    · exact Lv.obj ha
  refine h v s' _ (fun a => if a ∈ P :: frs Out then s'.heap.get? a else Mu a) l' (Reg.ext_le F.ro.on) hv ?_ (fun a o ha e => by simp only [ha, if_false]; exact e) (fun a ha o e => ?_) (by simp only [List.mem_cons_self, if_true]; exact hP')
  · refine F.deep (X := P :: frs Out) (pk.sub fun a ha => ?_) (fun a ha o e => pf a (List.mem_cons.mpr (.inl (List.mem_singleton.mp ha))) o e) obj (fun a ha => ?_) (Reg.ext_le F.ro.on) (Reg.le.refl _) fun a o e => ?_
    · rcases List.mem_cons.mp ha with h | h
      · exact List.mem_cons_of_mem _ (h ▸ List.mem_cons_self)
      · rcases List.mem_cons.mp h with h | h
        · exact h ▸ List.mem_cons_self
        · exact List.mem_cons_of_mem _ (List.mem_cons_of_mem _ h)
    · rcases List.mem_cons.mp ha with rfl | ha
      · exact ⟨_, hP'⟩
      · obtain ⟨o, e, _⟩ := Lv.obj ha
        obtain ⟨sl, e'⟩ := pf a (List.mem_cons_of_mem _ ha) o (F.mu _ _ e).1
        exact ⟨_, e'⟩
    · by_cases ha : a ∈ P :: frs Out
      · simp only [ha, if_true] at e
        obtain ⟨o', e', _⟩ := obj a ha
        exact ⟨e, ext_off (F.mu _ _ e').1 (F.mu _ _ e').2.1, .inl ⟨o', e'⟩⟩
      · simp only [ha, if_false] at e
        obtain ⟨h1, h2, h3, h4⟩ := F.mu a o e
        refine ⟨pk.get (fun h => ?_) h1, ext_off h1 h2, .inl ⟨o, e⟩⟩
        rcases List.mem_cons.mp h with h | h
        · exact ha (h ▸ List.mem_cons_self)
        · rcases List.mem_cons.mp h with h | h
          · exact h3 (h ▸ F.ew.locW)
          · exact ha (List.mem_cons_of_mem _ h)
  · obtain ⟨sl, e'⟩ := pf a (List.mem_cons_of_mem _ ha) o (F.mu _ _ e).1
    exact ⟨sl, by simp only [List.mem_cons, ha, or_true, if_true]; exact e'⟩
end
end Mine
end
noncomputable section
open PySem PySem.W PyProof.Rows PySem.SeqAt PySem.MeetsSeq
set_option Elab.async false
set_option autoImplicit false
set_option maxRecDepth 100000
namespace Mine
theorem XCall.le {C : Cx} {n k : Nat} {f : Addr} {ds : List Dat} {cls : Value} (h : XCall C k f ds cls) (hk : k ≤ n) : XCall C n f ds cls := fun A Out s R vs rm => h A Out s R vs (rm.le hk)
theorem XFCall.le {C : Cx} {cT cN : Addr} {n k : Nat} {f : Addr} {ds : List Dat} {Z : Srt} {σ : Sd} {cls : Value} {P : Srt → Sd → Dat → Prop} {PE : Srt → Sd → Prop} (h : XFCall C cT cN k f ds Z σ cls P PE) (hk : k ≤ n) : XFCall C cT cN n f ds Z σ cls P PE := fun A Out s R vs rm => h A Out s R vs (rm.le hk)
theorem Srt.all_eq {Z : Srt} {σ σ' : Sd} (h : σ.ks = σ'.ks) (hr : σ.rd.isSome = σ'.rd.isSome) : Z.all σ = Z.all σ' := by unfold Srt.all; rw [h, hr]
theorem ev_nil1 {C : Cx} {n : Nat} {sc : Scope} {Δ : Vars} {p : Pos} : Ev C n sc Δ (.List [] p) (.lst []) := ev_list evAll_nil
theorem ev_nils5 {C : Cx} {n : Nat} {sc : Scope} {Δ : Vars} {p p₁ p₂ p₃ p₄ p₅ : Pos} : Ev C n sc Δ (.List [.List [] p₁, .List [] p₂, .List [] p₃, .List [] p₄, .List [] p₅] p) (.lst [.lst [], .lst [], .lst [], .lst [], .lst []]) := by
  refine ev_list ?_
  refine evAll_cons ev_nil1 ?_
  refine evAll_cons ev_nil1 ?_
  refine evAll_cons ev_nil1 ?_
  refine evAll_cons ev_nil1 ?_
  exact evAll_cons ev_nil1 evAll_nil
section
variable {C : Cx} {s₀ : Shared} {R₀ : Reg} {V : List Addr} {sc : Scope} {env : Env} {W : List Addr} {s s' : Shared} {R R' Mu Mu' : Reg} {Δ Δ' : Vars} {n : Nat} {A : Around} {E : Value → Shared → Prop} {Q : Flow → Shared → Prop}
theorem st_split {st : Stmt} {rest : List Stmt} (P : Shared → Prop) (h : wpAny C.M A (exec st env) (fun f s' => f = .next ∧ P s') E s) (k : ∀ s', P s' → wpAny C.M A (execs rest env) Q E s') : wpAny C.M A (execs (st :: rest) env) Q E s :=
  wpAny_execs_cons (wpAny_mono h (fun f s' q => by obtain ⟨rfl, q⟩ := q; exact k s' q) fun _ _ x => x)
theorem st_assignS {x m : Str} {p q kp : Pos} {kk : Nat} {rest : List Stmt} (F : Fra C s₀ R₀ V sc env W s R Mu Δ)
    (k : ∀ s' R', R.le R' → Fra C s₀ R₀ V sc env W s' R' Mu (upd Δ x (.str m)) → wpAny C.M A (execs rest env) Q E s')
    (hs : swapsWith (.Constant (.str m) kk kp) (some (.Name x p)) q.line env = pure false := by rfl) (hx : sc.names.lookup x = some .local ∨ sc.names.lookup x = some .cell := by first | exact Or.inl rfl | exact Or.inr rfl) :
    wpAny C.M A (execs (.Assign [.Name x p] (.Constant (.str m) kk kp) q :: rest) env) Q E s := by
  refine wpAny_execs_cons (wpAny_Assign_Name (wpAny_Constant_str ?_) hs)
  have F₂ := F.ext (Keeps.toks s (s.toks + 1))
  exact F₂.store (.str m s.toks) (fun s' _ F' => k s' _ (Reg.ext_le F.ro.on) F') hx
end
end Mine
end
noncomputable section
set_option autoImplicit false
namespace Mine
theorem Play.perm {E : List (Nat × Nat)} {σ : Sd} {dn out out' l : List Nat} (P : Play E σ dn out l) (h : out.Perm out') : Play E σ dn out' l where
  rd := P.rd
  su := P.su
  np := fun j hj => by rw [P.np j hj]; simp only [h.mem_iff]
  sub := fun j hj => P.sub j (by simpa only [List.mem_append, h.mem_iff] using hj)
  nod := ((h.append_left dn).append_right l).nodup_iff.mp P.nod
  lz := fun j hj => by rw [P.lz j hj, h.mem_iff]
  oz := fun j hj => P.oz j (by simpa only [List.mem_append, h.mem_iff] using hj)
  nf := P.nf
  po := by rw [P.po, h.length_eq]
theorem play_free {rows : List (List Nat)} {σ : Sd} {c out : List Nat} (P : Play (stepsN rows) σ c out []) (hks : σ.ks = List.range 7) (hc : CInv rows c) : out.Perm (freeN rows c) := by
  have hn : out.Nodup := by
    have := P.nod
    rw [List.append_nil, List.nodup_append] at this
    exact this.2.1
  refine waits_perm hn fun k => ?_
  rw [mem_freeN hc.cl]
  constructor
  · intro hk
    have hs := P.sub k (by simp [hk])
    rw [hks, List.mem_range] at hs
    have := P.nod
    rw [List.append_nil, List.nodup_append] at this
    exact ⟨hs, fun h => this.2.2 k h k hk rfl, fun a ha => cnt_zero.mp (P.oz k (List.mem_append_right _ hk)) _ ha rfl⟩
  · rintro ⟨h7, hk, hp⟩
    refine Classical.byContradiction fun ho => ?_
    have h0 : cnt (stepsN rows) c k = 0 := cnt_zero.mpr fun e he h2 => hp e.1 (by rw [← h2]; exact he)
    exact absurd ((P.lz k (by rw [hks, List.mem_range]; exact h7)).mpr ⟨hk, ho, h0⟩) List.not_mem_nil
theorem erase_filter {l : List Nat} (h : l.Nodup) (x : Nat) : l.erase x = l.filter fun k => !(k == x) := by
  rw [h.erase_eq_filter]
  congr 1
noncomputable def layN (rows piles : List (List Nat)) (k : Nat) : List (List Nat) := (piles.zip rows).map fun p => if p.2.contains k then p.1 ++ [k] else p.1
noncomputable def pilesN (rows : List (List Nat)) (c : List Nat) : List (List Nat) := c.foldl (layN rows) (rows.map fun _ => [])
theorem zip_map_self {α β : Type} (g : α → β) : ∀ l : List α, (l.map g).zip l = l.map fun r => (g r, r)
  | [] => rfl
  | a :: l => by rw [List.map_cons, List.zip_cons_cons, zip_map_self g l]; rfl
theorem layN_map (rows : List (List Nat)) (g : List Nat → List Nat) (k : Nat) : layN rows (rows.map g) k = rows.map fun r => if r.contains k then g r ++ [k] else g r := by
  rw [layN, zip_map_self, List.map_map]; rfl
theorem piles_fold (rows : List (List Nat)) : ∀ (c : List Nat) (g : List Nat → List Nat), c.foldl (layN rows) (rows.map g) = rows.map fun r => g r ++ c.filter fun k => r.contains k
  | [], g => by simp
  | k :: c, g => by
    rw [List.foldl_cons, layN_map, piles_fold rows c]
    refine List.map_congr_left fun r _ => ?_
    rw [List.filter_cons]
    cases r.contains k <;> simp
theorem pilesN_eq (rows : List (List Nat)) (c : List Nat) : pilesN rows c = rows.map fun r => c.filter fun k => r.contains k := by
  rw [pilesN, piles_fold]; simp
theorem pilesN_step (rows : List (List Nat)) (c : List Nat) (k : Nat) : pilesN rows (c ++ [k]) = layN rows (pilesN rows c) k := by
  rw [pilesN, pilesN, List.foldl_append]; rfl
theorem pilesN_len (rows : List (List Nat)) (c : List Nat) : (pilesN rows c).length = rows.length := by rw [pilesN_eq]; simp
theorem pilesN_short (rows : List (List Nat)) (c : List Nat) : ∀ r ∈ pilesN rows c, r.length ≤ c.length := fun r hr => by
  rw [pilesN_eq] at hr
  obtain ⟨x, _, rfl⟩ := List.mem_map.mp hr
  exact List.length_filter_le _ _
theorem stepsR_cons (x : Nat) (row : List Nat) : stepsR (x :: row) = (List.range row.length).map fun p => ((x :: row).getD p 0, (x :: row).getD (p + 1) 0) := by
  rw [stepsR, List.length_cons, Nat.add_sub_cancel]
theorem stepsN_take (rows : List (List Nat)) (i : Nat) (r : List Nat) (h : rows[i]? = some r) : stepsN (rows.take (i + 1)) = stepsN (rows.take i) ++ stepsR r := by
  have : rows.take (i + 1) = rows.take i ++ [r] := by rw [List.take_add_one, h]; rfl
  rw [stepsN, this, List.flatMap_append]; simp [stepsN]
end Mine
end
noncomputable section
open PySem PySem.W PyProof.Rows PySem.SeqAt PySem.MeetsSeq
set_option Elab.async false
set_option autoImplicit false
set_option maxRecDepth 100000
namespace Mine
section
variable {C : Cx} (B : Base C (K3 C))
include B
theorem tell_call {name qual : Str} {params : Arguments} {scope : Scope} {cl : List (Str × Addr)} {doc pm cv ct : Value} {f : Addr} {Δc : Vars} {Z : Srt} {ks : List Nat} {E : List (Nat × Nat)} {a b : Nat} {sp ap oq nq cp ep rq rp : Pos}
    (L : DefFd (fnL name qual params [.Expr (.Call (.Attribute (.Name (Str.ofString "sorter") sp) (Str.ofString "add") ap) [.Name (Str.ofString "other") oq, .Name (Str.ofString "one") nq] [] cp) ep, .Return (some (.Name (Str.ofString "other") rq)) rp] scope cl doc pm cv ct) [Str.ofString "one", Str.ofString "other"] [.Expr (.Call (.Attribute (.Name (Str.ofString "sorter") sp) (Str.ofString "add") ap) [.Name (Str.ofString "other") oq, .Name (Str.ofString "one") nq] [] cp) ep, .Return (some (.Name (Str.ofString "other") rq)) rp])
    (hs : Δc (Str.ofString "sorter") = some (.val (.ref Z.s))) (ha : a ∈ ks) (hb : b ∈ ks) (hz : E.length ≤ 1000)
    {pl : Env → Sem Bool} (hev : ∀ env, eval (.Call (.Attribute (.Name (Str.ofString "sorter") sp) (Str.ofString "add") ap) [.Name (Str.ofString "other") oq, .Name (Str.ofString "one") nq] [] cp) env = (do
      let ov ← eval (.Name (Str.ofString "sorter") sp) env
      standAt ap.atName
      let (f, first) ← holding [ov] (getMethod ov (Str.ofString "add") (pl env))
      callWith cp f first (backTo cp (starEach [.Name (Str.ofString "other") oq, .Name (Str.ofString "one") nq] env)) (backToKw cp (keywordEach [] env))) := by intro _; rfl) :
    TCall C aT aN 4 f f (fnL name qual params [.Expr (.Call (.Attribute (.Name (Str.ofString "sorter") sp) (Str.ofString "add") ap) [.Name (Str.ofString "other") oq, .Name (Str.ofString "one") nq] [] cp) ep, .Return (some (.Name (Str.ofString "other") rq)) rp] scope cl doc pm cv ct) Δc [.int (a : Int), .int (b : Int)] Z (Sd.told ks E) (Sd.told ks (E ++ [(a, b)])) (.int (b : Int)) := by
  refine tcall_def L rfl B.nolimit ?_
  intro A env W s₀ s R R₁ Mu hsc rm hP hZc F S
  refine cps fun Q hQ => ?_
  obtain ⟨h, t, m, hd⟩ := S.d
  have v1 : updAll Δc [Str.ofString "one", Str.ofString "other"] [.int (a : Int), .int (b : Int)] (Str.ofString "sorter") = some (.val (.ref Z.s)) := hs
  have hlen : ((Sd.told ks E).su a).length ≤ 1000 := by
    show (sucs E a).length ≤ 1000
    unfold sucs
    rw [List.length_map]
    exact Nat.le_trans (List.length_filter_le _ _) hz
  refine st_expr (F.smeth rm B (k_add C) S hd look_add (ev_name v1) (evAll_cons (ev_name rfl) (evAll_cons (ev_name rfl) evAll_nil)) (add_old B (a := a) (b := b) ha hb rfl hlen) (fun v s₂ R₂ M₂ Z₂ σ₂ d hP hz l₂ hv F₂ S₂ hnew hold hoff => ?_) (hm := hev env)) F.quiet
  obtain ⟨rfl, rfl, rfl⟩ := hP
  rw [Sd.told_add] at S₂
  exact st_ret F₂ rm (ev_name rfl) fun s₃ R₃ w l₃ F₃ hw => hQ _ _ ⟨R₃, M₂, _, w, rfl, F₃, S₂, fun a ha => .inl ha, fun a ha => ha, hw⟩
omit B in
theorem getD_map_int {r : List Nat} {i : Nat} {d : Dat} (h : (encN r)[i]? = some d) : i < r.length ∧ d = .int ((r.getD i 0 : Nat) : Int) := by
  rw [List.getElem?_map] at h
  obtain ⟨k, hk, rfl⟩ := Option.map_eq_some_iff.mp h
  refine ⟨(List.getElem?_eq_some_iff.mp hk).1, ?_⟩
  rw [List.getD_eq_getElem?_getD, hk]; rfl
theorem row_tell {f : Addr} {fd : FuncData} {Δc : Vars} {Z : Srt} {ks : List Nat} {E₀ : List (Nat × Nat)} {x : Nat} {xs : List Nat} (hks : ∀ k ∈ x :: xs, k ∈ ks) (hz : E₀.length + xs.length ≤ 1000)
    (ht : ∀ E a b, a ∈ ks → b ∈ ks → E.length ≤ 1000 → TCall C aT aN 4 f f fd Δc [.int ((a : Nat) : Int), .int ((b : Nat) : Int)] Z (Sd.told ks E) (Sd.told ks (E ++ [(a, b)])) (.int (b : Int))) :
    TCall C aT aN 5 150 f fd Δc [.val (.ref f), .lst (encN (x :: xs))] Z (Sd.told ks E₀) (Sd.told ks (E₀ ++ stepsR (x :: xs))) (lastD (x :: xs)) := by
  have hsl : (stepsR (x :: xs)).length = xs.length := by rw [stepsR_len]; simp
  have := reduce_tell B (n := 4) (f := f) (fd := fd) (Δc := Δc) (Z := Z) (x₀ := .int (x : Int)) (ds := encN xs) (fun i => Sd.told ks (E₀ ++ (stepsR (x :: xs)).take i)) (fun i => .int (((x :: xs).getD (i - 1) 0 : Nat) : Int)) rfl (fun _ => rfl) (fun i d hd hi => ?_)
  · have hl : (encN xs).length = xs.length := by simp [encN]
    rw [hl, List.take_zero, List.append_nil, List.take_of_length_le (by omega)] at this
    have e : lastD (x :: xs) = .int (((x :: xs).getD (xs.length + 1 - 1) 0 : Nat) : Int) := rfl
    rw [e]; exact this
  · obtain ⟨hlt, rfl⟩ := getD_map_int (r := x :: xs) hd
    have mem : ∀ j, j < (x :: xs).length → (x :: xs).getD j 0 ∈ ks := fun j hj => by
      rw [List.getD_eq_getElem?_getD, List.getElem?_eq_getElem hj]; exact hks _ (List.getElem_mem _)
    have e : (stepsR (x :: xs)).take i = (stepsR (x :: xs)).take (i - 1) ++ [((x :: xs).getD (i - 1) 0, (x :: xs).getD i 0)] := by
      obtain ⟨j, rfl⟩ : ∃ j, i = j + 1 := ⟨i - 1, by omega⟩
      rw [List.take_add_one, Nat.add_sub_cancel]
      congr 1
      have hj : j < xs.length := by simpa using hlt
      rw [stepsR_cons, List.getElem?_map, List.getElem?_range hj]; rfl
    have h3 := ht (E₀ ++ (stepsR (x :: xs)).take (i - 1)) _ _ (mem (i - 1) (by omega)) (mem i hlt) (by
      rw [List.length_append, List.length_take]; omega)
    rw [List.append_assoc, ← e] at h3
    exact h3
theorem lay_ev {n : Nat} {sc scope : Scope} {Δ : Vars} {rows piles : List (List Nat)} {k : Nat} {p1 p2 p3 p4 p5 p6 p7 p8 p9 q1 q2 q3 q4 q5 q6 q7 q8 : Pos} (hc : compOkB sc scope Δ [Str.ofString "pile", Str.ofString "row"] = true) (hz : sc.names.lookup (Str.ofString "zip") = some .globalImplicit)
    (h1 : Δ (Str.ofString "piles") = some (rowsDN piles)) (h2 : Δ (Str.ofString "rows") = some (rowsDN rows)) (h3 : inner scope Δ (Str.ofString "name") = some (.int (k : Int))) (hl : piles.length = rows.length) (hl5 : rows.length ≤ 1000) (hp : ∀ r ∈ piles, r.length ≤ 1000) :
    Ev C n sc Δ (.ListComp (.IfExp (.Compare (.Name (Str.ofString "name") p1) [.In] [.Name (Str.ofString "row") p2] p3) (.BinOp (.Name (Str.ofString "pile") p4) .Add (.List [.Name (Str.ofString "name") p5] p6) p7) (.Name (Str.ofString "pile") p8) p9)
      [⟨.Tuple [.Name (Str.ofString "pile") q1, .Name (Str.ofString "row") q2] 0 q3, .Call (.Name (Str.ofString "zip") q4) [.Name (Str.ofString "piles") q5, .Name (Str.ofString "rows") q6] [] q7, [], 0⟩] scope q8) (rowsDN (layN rows piles k)) := by
  refine Ev.cast (ev_compT (L := piles.zip rows) (enc := fun p => .tup [.lst (encN p.1), .lst (encN p.2)]) (tds := fun p => [.lst (encN p.1), .lst (encN p.2)]) (p := fun _ => true) (f := fun p => .lst (encN (if p.2.contains k then p.1 ++ [k] else p.1))) [Str.ofString "pile", Str.ofString "row"] TupT ?_ ⟨_, _, _, rfl⟩ (CompOk.of hc) (fun e _ => ⟨rfl, rfl, [_, _], rfl, rfl⟩) (fun _ _ => rfl) (fun p hp' _ => ?_) (by rw [sizeLine_val, List.length_zip]; omega)) (by rw [filter_tt, rowsDN, layN, List.map_map]; rfl)
  · have e : (piles.zip rows).map (fun p => Dat.tup [.lst (encN p.1), .lst (encN p.2)]) = zipD (piles.map fun r => .lst (encN r)) (rows.map fun r => .lst (encN r)) := by
      rw [zipD, List.zip_map, List.map_map]; rfl
    rw [e]
    exact evIt_zip (by simpa using hl) (ev_glob (g_zip B) hz) (ev_name h1) (ev_name h2)
  · have hm := (List.of_mem_zip (a := p.1) (b := p.2) hp').1
    have hpl := hp _ hm
    have vn : updAll (inner scope Δ) [Str.ofString "pile", Str.ofString "row"] [.lst (encN p.1), .lst (encN p.2)] (Str.ofString "name") = some (.int (k : Int)) := h3
    refine ev_ifexp (evT_cmp (ev_name vn) (ev_name rfl) op_in_N) (fun h => ?_) (fun h => ?_)
    · rw [if_pos h]
      exact Ev.cast (ev_bin (ev_name rfl) (ev_list (evAll_cons (ev_name vn) evAll_nil)) (op_cat (by rw [sizeLine_val]; simp [encN]; omega))) (by simp [encN])
    · rw [if_neg (by rw [h]; decide)]
      exact ev_name rfl
end
end Mine
end
noncomputable section
set_option autoImplicit false
namespace Mine
noncomputable def pickN (rows : List (List Nat)) (picks : List Int) (i : Nat) : Nat := (freeN rows (courseN rows (picks.take i))).getD ((picks.getD i 0).fmod (freeN rows (courseN rows (picks.take i))).length).toNat 0
noncomputable def leftN (rows : List (List Nat)) (picks : List Int) : Nat → List Nat
  | 0 => []
  | i + 1 => (freeN rows (courseN rows (picks.take i))).filter fun k => !(k == pickN rows picks i)
theorem pickN_eq {rows : List (List Nat)} {picks : List Int} {i : Nat} {p : Int} (h : picks[i]? = some p) : pickN rows picks i = (freeN rows (courseN rows (picks.take i))).getD (p.fmod (freeN rows (courseN rows (picks.take i))).length).toNat 0 := by
  unfold pickN
  rw [show picks.getD i 0 = p by rw [List.getD_eq_getElem?_getD, h]; rfl]
theorem course_pick {rows : List (List Nat)} {picks : List Int} {i : Nat} {p : Int} (h : picks[i]? = some p) (hf : (freeN rows (courseN rows (picks.take i))).isEmpty = false) : courseN rows (picks.take (i + 1)) = courseN rows (picks.take i) ++ [pickN rows picks i] := by
  rw [courseN_step rows picks i p h, goStep, if_neg (by rw [hf]; decide), pickN_eq h]
theorem course_stay {rows : List (List Nat)} {picks : List Int} {i : Nat} {p : Int} (h : picks[i]? = some p) (hf : (freeN rows (courseN rows (picks.take i))).isEmpty = true) : courseN rows (picks.take (i + 1)) = courseN rows (picks.take i) := by
  rw [courseN_step rows picks i p h, goStep, if_pos hf]
theorem left_nil {rows : List (List Nat)} {picks : List Int} {i : Nat} (hf : (freeN rows (courseN rows (picks.take i))).isEmpty = true) : leftN rows picks (i + 1) = [] := by
  rw [leftN, List.isEmpty_iff.mp hf]; rfl
theorem pick_mem {rows : List (List Nat)} {picks : List Int} {i : Nat} {p : Int} (h : picks[i]? = some p) (hf : (freeN rows (courseN rows (picks.take i))).isEmpty = false) : pickN rows picks i ∈ freeN rows (courseN rows (picks.take i)) := by
  rw [pickN_eq h]; exact free_pick hf
theorem left_erase (rows : List (List Nat)) (picks : List Int) (i : Nat) : (freeN rows (courseN rows (picks.take i))).erase (pickN rows picks i) = leftN rows picks (i + 1) := erase_filter (freeN_nodup _ _) _
theorem piles_due {rows : List (List Nat)} (hlow : ∀ l ∈ rows, ∀ k ∈ l, k < 7) {picks : List Int} (hp : picks.length = 7) : pilesN rows (courseN rows picks) = rows.map fun r => r.filter fun k => !(endsN (stepsN rows) 7).contains k := by
  rw [pilesN_eq]
  exact List.map_congr_left fun r hr => pile_eq hlow hp hr
end Mine
end
noncomputable section
open PySem PySem.W PyProof.Rows PySem.SeqAt PySem.MeetsSeq
set_option Elab.async false
set_option autoImplicit false
set_option maxRecDepth 100000
namespace Mine
theorem ne_cast (k x : Nat) : (((k : Int) != (x : Int)) = !(k == x)) := by
  by_cases h : k = x
  · subst h; simp
  · have h2 : ¬ ((k : Int) = (x : Int)) := by omega
    rw [bne, beq_eq_false_iff_ne.mpr h, beq_eq_false_iff_ne.mpr h2]
section
variable {C : Cx} (B : Base C (K3 C))
include B
theorem play_spec (T : TabBase C 164 162) {rows : List (List Nat)} {picks : List Int} (hl : rows.length = 5) (h12 : ∀ r ∈ rows, r.length ≤ 12) (hlow : ∀ r ∈ rows, ∀ k ∈ r, k < 7) (hp : picks.length = 7) :
    VCall C 162 8 165 [rowsDN rows, encI picks] (dueD rows picks) := by
  have hsz : ∀ k : Nat, k ≤ 1000 → k ≤ sizeLine := fun k h => by rw [sizeLine_val]; omega
  refine vcall_fn (n := 7) (xs := [Str.ofString "rows", Str.ofString "picks"]) (es := [rowsDN rows, encI picks]) (fnC B rfl (by kernel_rfl!) rfl (by kernel_rfl!)) rfl (fun R s vs ro hr => bnd_all2 hr fun _ _ hr => bnd_plain ro.on (by kernel_rfl!) hr) ?_
  intro A Out env W s₀ s R R₁ Mu hsc hf hcode hqual hfr Lv hPO rm hP F
  clear hsc
  dsimp only at F
  have hcode : env.code = .ref 164 := hcode
  clear hqual
  refine cps fun Q hQ => ?_
  refine st_sorter B F rm (by omega) rfl fun s₁ R₂ M₁ Z₀ l₁ hM₁ S₁ hZ₀ F₁ => ?_
  have alv : ∀ a ∈ 162 :: frs Out, ∃ o, Mu a = some o := fun a ha => by
    rcases List.mem_cons.mp ha with rfl | ha
    · exact ⟨_, hP⟩
    · obtain ⟨o, e, _⟩ := Lv.obj ha; exact ⟨o, e⟩
  have U₁ : UpTo (frs Out) Mu M₁ := .of fun a _ o e => hM₁ a o e
  have P₁ : M₁ 162 = some (tabObj #[]) := hM₁ _ _ hP
  have dis₀ : ∀ a ∈ 162 :: frs Out, a ∉ Z₀.all Sd.start := fun a ha h => by
    obtain ⟨o, e⟩ := alv a ha
    have := (F.mu a o e).1
    rw [hZ₀ a h] at this; (have q_ := oNS this; clear this; exact q_.elim)
  refine st_addall B (List.range 7) List.nodup_range (by simp) (ofL [(Str.ofString "rows", rowsDN rows), (Str.ofString "picks", encI picks), (Str.ofString "sorter", .val (.ref Z₀.s))]) F₁ rm (by omega) S₁
    (EvIt.cast (evIt_range1 (ev_glob (g_range B.at) rfl) ev_int (by decide)) (rangeN 7)) (AllIn.le ⟨rfl, rfl, rfl, trivial⟩) rfl rfl (fun s₂ R₃ M₂ Z l₂ S₂ hz hX off₂ F₂ => ?_) (Or.inl rfl)
  generalize hks0 : List.range 7 = ks at S₂ hX
  have hksm : ∀ k, k ∈ ks ↔ k < 7 := fun k => by rw [← hks0]; simp
  have dis : ∀ a ∈ 162 :: frs Out, a ∉ Z.all (Sd.told ks []) := fun a ha h => by
    rcases hX a h with q | q
    · exact dis₀ a ha q
    · obtain ⟨o, e⟩ := alv a ha; rw [hM₁ a o e] at q; (have q_ := oSN q; clear q; exact q_.elim)
  have U₂ : UpTo (frs Out) M₁ M₂ := .off off₂ fun a ha => dis₀ a (List.mem_cons_of_mem _ ha)
  have P₂ : M₂ 162 = some (tabObj #[]) := off₂ _ _ (dis₀ _ List.mem_cons_self) P₁
  rw [← hz] at F₂
  refine st_def (l := []) F₂ T hcode P₂ trivial rfl (by kernel_rfl!) fun s₃ R₄ ft c₁ doc₁ pm₁ ct₁ l₃ hT₁ F₃ => ?_
  refine st_def (l := [rawInt 152, rawInt 4, .ref c₁]) F₃ T hcode (Reg.set_self _ _ _) trivial rfl (by kernel_rfl!) fun s₄ R₅ fl c₂ doc₂ pm₂ ct₂ l₄ hT₂ F₄ => ?_
  obtain ⟨M₄, hM₄, ⟨lt₄, hP₄⟩, F₄⟩ : ∃ M₄ : Reg, (∀ a, a ≠ 162 → M₄ a = M₂ a) ∧ (∃ l : List Value, M₄ 162 = some (tabObj l.toArray)) ∧ F₄.P s₄ R₅ M₄ (ofL [(Str.ofString "rows", rowsDN rows), (Str.ofString "picks", encI picks), (Str.ofString "sorter", .val (.ref Z.s)), (Str.ofString "_law_tell", .val (.ref ft)), (Str.ofString "_law_lay", .val (.ref fl))]) :=
    ⟨_, fun a ha => by rw [Reg.set_ne _ _ ha, Reg.set_ne _ _ ha], ⟨_, Reg.set_self _ _ _⟩, F₄.toL _ ⟨rfl, rfl, rfl, rfl, rfl, trivial⟩⟩
  have S₄ : SAt C aT aN M₄ Z (Sd.told ks []) := S₂.on fun a o ha e => by
    rw [hM₄ a (fun h => dis 162 List.mem_cons_self (h ▸ ha))]; exact e
  have U₄ : UpTo (frs Out) Mu M₄ := (U₁.trans U₂).trans (.of fun a ha o e => by rw [hM₄ a (fun h => hPO (h ▸ ha))]; exact e)
  have dZ : ∀ a ∈ frs Out, a ∉ Z.all (Sd.told ks []) := fun a ha => dis a (List.mem_cons_of_mem _ ha)
  have nPZ : 162 ∉ Z.all (Sd.told ks []) := dis 162 List.mem_cons_self
  clear S₂ off₂ hX hM₄ P₂ P₁ U₂ U₁ dis dis₀ alv S₁ hM₁ hZ₀ F₁ F₂ F₃ F
  refine st_list_new F₄ fun s₅ R₆ D l₅ hD0 _ F₅ => ?_
  have mD : M₄ D = none := F₄.noMu hD0
  have nMD : ∀ a o, M₄ a = some o → a ≠ D := fun a o e h => by rw [h, mD] at e; (have q_ := oNS e; clear e; exact q_.elim)
  have Lv₄ := Lv.up U₄
  have nDO : D ∉ frs Out := fun h => by obtain ⟨o, e, _⟩ := Lv₄.obj h; exact nMD D o e rfl
  have nDZ : D ∉ Z.all (Sd.told ks []) := fun h => by obtain ⟨o, e, _⟩ := S₄.obj h; exact nMD D o e rfl
  have nPD : 162 ≠ D := nMD _ _ hP₄
  obtain ⟨M₅, hM₅⟩ : ∃ M₅ : Reg, M₅ = M₄.set D (lstObj [] 0) := ⟨_, rfl⟩
  rw [← hM₅] at F₅
  have g₅ : ∀ a o, M₄ a = some o → M₅ a = some o := fun a o e => by rw [hM₅, Reg.set_ne _ _ (nMD a o e)]; exact e
  have S₅ : SAt C aT aN M₅ Z (Sd.told ks []) := S₄.on fun a o _ e => g₅ a o e
  have D₅ : M₅ D = some (lstObj [] 0) := by rw [hM₅, Reg.set_self]
  have P₅ := g₅ _ _ hP₄
  have U₅ : UpTo (frs Out) Mu M₅ := U₄.trans (.of fun a _ o e => g₅ a o e)
  have Lv₅ := Lv.up U₅
  clear Lv₄ U₄ S₄ hP₄ nMD mD g₅ hM₅ F₄ hD0
  have hT₁ := hT₁.mono (l₄.trans l₅)
  have hT₂ := hT₂.mono l₅
  have hE60 : ∀ i, (stepsN (rows.take i)).length ≤ 60 := fun i => by
    have := stepsN_len (rows.take i) (fun r hr => h12 r (List.mem_of_mem_take hr))
    rw [List.length_take] at this; omega
  refine st_for (L := rows) (enc := fun r => .lst (encN r)) (tds := fun r => [.lst (encN r)]) [Str.ofString "line"] (D :: (Z.all (Sd.told ks []) ++ frs Out)) (fun _ => ofL [(Str.ofString "rows", rowsDN rows), (Str.ofString "picks", encI picks), (Str.ofString "sorter", .val (.ref Z.s)), (Str.ofString "_law_tell", .val (.ref ft)), (Str.ofString "_law_lay", .val (.ref fl)), (Str.ofString "lasts", .val (.ref D))])
    (fun i R M => (∃ vs m, M D = some (lstObj vs m) ∧ RdAll R vs ((rows.take i).map lastD)) ∧ SAt C aT aN M Z (Sd.told ks (stepsN (rows.take i))) ∧ UpTo (frs Out) M₅ M) F₅ rm (evIt_lst (ev_name rfl)) (AllIn.le ⟨rfl, rfl, rfl, rfl, rfl, rfl, trivial⟩) (fun a ha => ?_) (by decide +kernel) (fun _ _ => ⟨rfl, rfl⟩)
    (fun i R R' M M' hJ l he => ?_) ⟨⟨[], 0, D₅, .nil⟩, S₅, .of fun _ _ _ e => e⟩ ?_ ?_
  · rcases List.mem_cons.mp ha with rfl | ha
    · exact ⟨_, D₅⟩
    · rcases List.mem_append.mp ha with h | h
      · obtain ⟨o, e, _⟩ := S₅.obj h; exact ⟨o, e⟩
      · obtain ⟨o, e, _⟩ := Lv₅.obj h; exact ⟨o, e⟩
  · obtain ⟨⟨vs, m, e, q⟩, S', U'⟩ := hJ
    exact ⟨⟨vs, m, (he D (by simp)).trans e, q.mono l⟩, S'.on fun a o ha e => (he a (List.mem_cons_of_mem _ (List.mem_append_left _ ha))).trans e, U'.trans (.of fun a ha o e => (he a (List.mem_cons_of_mem _ (List.mem_append_right _ ha))).trans e)⟩
  · intro i r s₆ R₇ M₆ hi l₆ off₆ F₆ ⟨⟨vs, m, e, q⟩, S₆, U₆⟩
    refine cps fun Qf hQf => ?_
    have hi5 : i < 5 := by have := (List.getElem?_eq_some_iff.mp hi).1; omega
    have htk : rows.take (i + 1) = rows.take i ++ [r] := by rw [List.take_add_one, hi]; rfl
    have hrm : r ∈ rows := List.mem_of_getElem? hi
    have hvl : vs.length ≤ sizeLine := hsz _ (by have := q.length; rw [List.length_map, List.length_take] at this; omega)
    have hst := stepsN_take rows i r hi
    have Lv₆ := Lv₅.up U₆
    cases hr : r with
    | nil =>
      rw [hr] at hst htk F₆
      refine wpAny_execs_cons (wpAny_Try_except (st_expr (appendX F₆ rm (ev_name rfl) e (fun s₇ R₈ l₇ k₇ F₇ => Call_ (F₇.ev rm (ev_glob (g_reduce B.at) rfl) fun fv s₈ R₉ l₈ k₈ hfv F₈ => ?_))) F₆.quiet))
      (have q_ := Rd.valE hfv; clear hfv; subst q_)
      obtain ⟨o₁, h150, fd₁, hd₁⟩ : ∃ o, C.h₀.get? 150 = some o ∧ ∃ fd, o.data = .func fd := ⟨_, B.K 150 _ rfl, _, rfl⟩
      refine callWith_def hd₁ (F₈.evAll rm (evAll_cons (ev_name rfl) (evAll_cons (ev_name rfl) evAll_nil)) fun ws s₉ R₁₀ l₉ k₉ hvs F₉ => ⟨F₉.ro.on _ _ (F₉.ro.base _ _ h150), F₉.xcall rm hfr hf Lv₆ hvs ((reduce_empty B).le (by omega)) fun x s' p => ?_⟩) rfl
      obtain ⟨ex, tb, cx, rfl, fly, kb, up, he, htb⟩ := p
      refine catchX F₉ hfr hf Lv₆ (X := []) (K := noM) (fun a ha => nomatch ha) (by rw [List.append_nil]; exact kb) up fly he htb (fun a o e => nomatch e) (fun a ha => nomatch ha) (catches_type F₉ (g_typeE B) rfl type_exc type_nt type_self) fun sa Ma Fa hKa offa upa => ?_
      refine st_expr (appendS Fa rfl (offa D _ nDO e) hvl fun sb Rb v m' lb hv Fb => st_nil (st_nil (hQf _ _ ⟨Rb, _, l₇.trans (l₈.trans (l₉.trans lb)), fun a o ha ea => ?_, Fb.toL _ ⟨rfl, rfl, rfl, rfl, rfl, rfl, trivial⟩, ⟨vs ++ [v], m', Reg.set_self _ _ _, ?_⟩, ?_, ?_⟩))) Fa.quiet
      · simp only [List.mem_cons, List.mem_append, not_or] at ha
        rw [Reg.set_ne _ _ ha.1]; exact offa a o ha.2.2 ea
      · rw [htk, List.map_append]
        exact (q.mono (l₇.trans (l₈.trans (l₉.trans lb)))).append (.cons hv .nil)
      · rw [hst, show stepsR [] = [] from rfl, List.append_nil]
        exact S₆.on fun a o ha ea => by
          rw [Reg.set_ne _ _ (fun h : a = D => nDZ (h ▸ ha))]
          exact offa a o (fun h => dZ a h ha) ea
      · refine U₆.trans (upa.trans (.of fun a ha o ea => by rw [Reg.set_ne _ _ (fun h : a = D => nDO (h ▸ ha))]; exact ea))
    | cons x xs =>
      have hxl : (x :: xs).length ≤ 12 := by rw [← hr]; exact h12 r hrm
      rw [hr] at hst htk F₆
      have hE := hE60 i
      generalize stepsN (rows.take i) = E₀ at S₆ hst hE
      refine wpAny_execs_cons (wpAny_Try_except (st_expr (mlist_appendW F₆ rm (ev_name rfl) hvl (fun s₇ R₈ l₇ k₇ F₇ => F₇.tcall rm (ev_glob (g_reduce B.at) rfl) (F₇.ro.base _ _ (B.K 150 _ rfl)) rfl (evAll_cons (ev_name rfl) (evAll_cons (ev_name rfl) evAll_nil)) S₆ ⟨hT₁.mono (l₆.trans l₇), F₇.clo (by kernel_rfl!)⟩
        ((row_tell B (E₀ := E₀) (x := x) (xs := xs) (fun k hk => (hksm k).mpr (hlow _ hrm k (hr ▸ hk))) (by simp at hxl; omega) fun E a b ha hb hz => tell_call B (defFd (by kernel_rfl!) (bind2 (fun v₁ v₂ => by kernel_rfl!))) rfl ha hb hz).le (by omega)) fun v s₈ R₉ M₈ l₈ hv F₈ S₈ kb hn hoff heq => ?_) e) F₆.quiet))
      refine ⟨R₉, M₈, F₈, (heq D nDZ).trans e, fun s₉ m' F₉ => st_nil (st_nil (st_nil (hQf _ _ ⟨R₉, _, l₇.trans l₈, fun a o ha ea => ?_, F₉.toL _ ⟨rfl, rfl, rfl, rfl, rfl, rfl, trivial⟩, ⟨vs ++ [v], m', Reg.set_self _ _ _, ?_⟩, ?_, ?_⟩)))⟩
      · simp only [List.mem_cons, List.mem_append, not_or] at ha
        rw [Reg.set_ne _ _ ha.1]; exact hoff a o ha.2.1 ea
      · rw [htk, List.map_append]
        exact (q.mono (l₇.trans l₈)).append (.cons hv .nil)
      · rw [hst]
        exact S₈.on fun a o ha ea => by rw [Reg.set_ne _ _ (fun h : a = D => nDZ (h ▸ ha))]; exact ea
      · exact U₆.trans (.of fun a ha o ea => by rw [Reg.set_ne _ _ (fun h : a = D => nDO (h ▸ ha))]; exact hoff a o (dZ a ha) ea)
  intro s₆ R₇ M₆ l₆ off₆ F₆ ⟨⟨vs, m, e, q⟩, S₆, U₆⟩
  rw [List.take_length] at q S₆
  have hEl := hE60 5
  rw [← hl, List.take_length] at hEl
  have hElow : ∀ ed ∈ stepsN rows, ed.1 ∈ ks ∧ ed.2 ∈ ks := fun ed he => by
    obtain ⟨row, hr, p, hpl, h1, h2⟩ := mem_stepsN.mp (show (ed.1, ed.2) ∈ stepsN rows from he)
    have mem : ∀ j, j < row.length → row.getD j 0 ∈ ks := fun j hj => by
      rw [List.getD_eq_getElem?_getD, List.getElem?_eq_getElem hj]; exact (hksm _).mpr (hlow _ hr _ (List.getElem_mem _))
    rw [← h1, ← h2]; exact ⟨mem p (by omega), mem (p + 1) hpl⟩
  generalize hEe : stepsN rows = Es at S₆ hEl hElow
  obtain ⟨hd₆, td₆, md₆, hdd⟩ := S₆.d
  have Lv₆ := Lv₅.up U₆
  refine st_split (fun s' => ∃ R' M' Z' σ', F₆.P s' R' M' (ofL [(Str.ofString "rows", rowsDN rows), (Str.ofString "picks", encI picks), (Str.ofString "sorter", .val (.ref Z.s)), (Str.ofString "_law_tell", .val (.ref ft)), (Str.ofString "_law_lay", .val (.ref fl)), (Str.ofString "lasts", .val (.ref D)), (Str.ofString "answer", ringD (endsN Es 7))]) ∧ SAt C aT aN M' Z' σ' ∧ σ' = { Sd.told ks Es with rd := some (ks.filter fun k => decide ((Sd.told ks Es).np k = 0)) } ∧ Z'.s = Z.s ∧ R₇.le R' ∧ Reg.keepsOff (Z.all (Sd.told ks Es) ++ frs Out) M₆ M' ∧ UpTo (frs Out) M₆ M' ∧ ∀ a ∈ Z'.all σ', a ∈ Z.all (Sd.told ks Es) ∨ M₆ a = none)
    (wpAny_Try_except (wpAny_execs_cons (wpAny_Assign_Name (F₆.fmeth0X rm B (k_prep C) hfr hf Lv₆ (show ∀ a ∈ frs Out, a ∉ Z.all (Sd.told ks Es) from dZ) S₆ hdd look_prep (ev_name rfl) ((prep_spec B rfl (fun k _ j hj => (hElow _ (sucs_mem.mp hj)).2)).le (by omega)) (fun s₇ v s' R' M' Z' σ' d hP' hzs l₇ hv F' S' hn kk ho hoff hup => ?_) (fun s₇ R₈ x s' Z' σ' l₇ kk F₇ hPE p => ?_)) rfl))) ?_
  · obtain ⟨hσ, rfl, r, hrk⟩ := hP'
    have hans : ringD (endsN Es 7) = .none := by
      rw [rank_none (r := r) fun ed he => hrk ed.1 (hElow _ he).1 ed.2 (sucs_mem.mpr he)]; rfl
    refine F'.store hv (fun s₈ _ F₈ => st_nil (st_nil ⟨rfl, R', M', Z', σ', F₈.toL _ ⟨rfl, rfl, rfl, rfl, rfl, rfl, ?_, trivial⟩, S', hσ, hzs, l₇, hoff, hup, fun a ha => ?_⟩)) (Or.inl rfl)
    · rw [hans]; rfl
    · rcases hn a ha with h | h
      · exact .inl h
      · right
        cases z : M₆ a with
        | none => rfl
        | some o => rw [Keeps.hle kk _ _ (F₆.mu a o z).1] at h; (have q_ := oSN h; clear h; exact q_.elim)
  · obtain ⟨hσ, S, hS0, hSk, hSp⟩ := hPE
    have hans : ringD (endsN Es 7) = .str (Str.ofString "ring") := by
      obtain ⟨k, hk⟩ := List.exists_mem_of_ne_nil _ hS0
      have := ring_ends (E := Es) (S := fun k => k ∈ S) (fun k hk => (hksm k).mp (hSk k hk)) (fun k hk => by
        obtain ⟨a, ha, hka⟩ := hSp k hk
        exact ⟨a, ha, sucs_mem.mp hka⟩) 7 k hk
      rw [ringD]
      cases hz : endsN Es 7 with
      | nil => rw [hz] at this; cases this
      | cons _ _ => rfl
    obtain ⟨ex, tb, cx, rfl, fly, he, htb, heZ, htZ⟩ := p.exc
    obtain ⟨nm, qn, Ns, bs, hdct, sn, sub, ab, col, dd, k0, k1, k2, k3, k5, mN, hC, hN, hni⟩ := cycle_cls B
    refine catchX F₇ hfr hf Lv₆ (X := Z.all (Sd.told ks Es)) (K := fun a => if a ∈ Z'.all σ' then s'.heap.get? a else none) (fun a ha => S₆.obj ha) p.keep p.fr fly he htb (fun a o ea => ?_) (fun a ha => ?_) (catches_own F₇ (g_cycle B) rfl hC rfl) fun sa Ma Fa hKa offa upa => ?_
    · by_cases ha : a ∈ Z'.all σ'
      · rw [if_pos ha] at ea
        refine ⟨ea, ?_, fun h => ?_, fun h => heZ (h ▸ ha), fun h => htZ (h ▸ ha)⟩
        · rcases p.new a ha with h | h
          · obtain ⟨o', e', _⟩ := S₆.obj h; exact .inl ⟨o', e'⟩
          · exact .inr h
        · rcases p.new a ha with h' | h'
          · exact dZ a h h'
          · obtain ⟨o', e', _⟩ := Lv₆.obj h
            rw [(F₇.mu _ _ e').1] at h'; (have q_ := oSN h'; clear h'; exact q_.elim)
      · rw [if_neg ha] at ea; (have q_ := oNS ea; clear ea; exact q_.elim)
    · obtain ⟨o, e', _⟩ := p.at'.obj (p.old a ha)
      exact ⟨o, by rw [if_pos (p.old a ha)]; exact e'⟩
    refine st_assignS Fa fun sb Rb lb Fb => st_nil ⟨rfl, Rb, Ma, Z', σ', Fb.toL _ ⟨rfl, rfl, rfl, rfl, rfl, rfl, ?_, trivial⟩, p.at'.on fun a o ha ea => hKa a o (by rw [if_pos ha]; exact ea), hσ, p.self, l₇.trans lb, offa, upa, fun a ha => ?_⟩
    · rw [hans]; rfl
    · rcases p.new a ha with h | h
      · exact .inl h
      · right
        cases z : M₆ a with
        | none => rfl
        | some o => rw [(F₇.mu a o z).1] at h; (have q_ := oSN h; clear h; exact q_.elim)
  rintro s₇ ⟨R₈, M₇, Z₇, σ₇, F₇, S₇, hσ₇, hz₇, l₇, off₇, up₇, new₇⟩
  subst hEe
  replace F₇ := F₇.toL [(Str.ofString "rows", rowsDN rows), (Str.ofString "picks", encI picks), (Str.ofString "sorter", .val (.ref Z₇.s)), (Str.ofString "_law_tell", .val (.ref ft)), (Str.ofString "_law_lay", .val (.ref fl)), (Str.ofString "lasts", .val (.ref D)), (Str.ofString "answer", ringD (endsN (stepsN rows) 7))] ⟨rfl, rfl, by rw [hz₇]; rfl, rfl, rfl, rfl, rfl, trivial⟩
  have PL₀ : Play (stepsN rows) σ₇ [] [] (ks.filter fun k => decide ((Sd.told ks (stepsN rows)).np k = 0)) := by
    rw [hσ₇]
    exact Play.start (E := stepsN rows) (σ := Sd.told ks (stepsN rows)) (fun k _ => rfl) (fun j _ => rfl) (by show ks.Nodup; rw [← hks0]; exact List.nodup_range) rfl rfl
  have hks₇ : σ₇.ks = ks := by rw [hσ₇]; rfl
  clear hσ₇
  have U₇ : UpTo (frs Out) Mu M₇ := U₅.trans (U₆.trans up₇)
  have Lv₇ := Lv.up U₇
  have D₆ : D ∉ Z.all (Sd.told ks (stepsN rows)) ++ frs Out := fun h => (List.mem_append.mp h).elim nDZ nDO
  have e₇ := off₇ D _ D₆ e
  have P₆ : M₆ 162 = some (tabObj lt₄.toArray) := off₆ _ _ (fun h => (List.mem_cons.mp h).elim nPD fun h => (List.mem_append.mp h).elim nPZ hPO) P₅
  have P₇ : M₇ 162 = some (tabObj lt₄.toArray) := off₇ _ _ (fun h => (List.mem_append.mp h).elim nPZ hPO) P₆
  have dis₇ : ∀ a o, M₆ a = some o → a ∉ Z.all (Sd.told ks (stepsN rows)) → a ∉ Z₇.all σ₇ := fun a o ea ha h => by
    rcases new₇ a h with h | h
    · exact ha h
    · rw [ea] at h; (have q_ := oSN h; clear h; exact q_.elim)
  have nDZ₇ := dis₇ D _ e nDZ
  have nPZ₇ := dis₇ 162 _ P₆ nPZ
  have dZ₇ : ∀ a ∈ frs Out, a ∉ Z₇.all σ₇ := fun a ha => by
    obtain ⟨o, ea, _⟩ := Lv₆.obj ha
    exact dis₇ a o ea (dZ a ha)
  have hT₂ := (hT₂.mono l₆).mono l₇
  replace q := q.mono l₇
  clear dis₇ new₇ off₇ up₇ P₆ D₆ e S₆ hdd F₆ U₆ Lv₆ off₆ l₆ l₇ hz₇ P₅ D₅ S₅ U₅ Lv₅ F₅ hT₁ l₅ l₄ l₃ l₂ l₁ dZ nPZ nDZ hd₆ td₆ md₆
  refine st_assign (d := .lst (encN [])) F₇ rm (ev_list evAll_nil) fun s₈ R₉ l₈ F₈ => ?_
  refine st_list_new F₈ fun s₉ R₁₀ Dw l₉ hDw _ F₉ => ?_
  refine st_list_new F₉ fun s₁₀ R₁₁ Dc l₁₀ hDc _ F₁₀ => ?_
  have mDw : M₇ Dw = none := F₈.noMu hDw
  have mDc' := F₉.noMu hDc
  have nWC : Dc ≠ Dw := fun h => by rw [h, Reg.set_self] at mDc'; (have q_ := oSN mDc'; clear mDc'; exact q_.elim)
  have mDc : M₇ Dc = none := by rw [Reg.set_ne _ _ nWC] at mDc'; exact mDc'
  obtain ⟨M₁₀, hM₁₀⟩ : ∃ M : Reg, M = (M₇.set Dw (lstObj [] 0)).set Dc (lstObj [] 0) := ⟨_, rfl⟩
  rw [← hM₁₀] at F₁₀
  have g₁₀ : ∀ a o, M₇ a = some o → M₁₀ a = some o := fun a o ea => by
    rw [hM₁₀, Reg.set_ne _ _ (fun h : a = Dc => by rw [h, mDc] at ea; (have q_ := oNS ea; clear ea; exact q_.elim)), Reg.set_ne _ _ (fun h : a = Dw => by rw [h, mDw] at ea; (have q_ := oNS ea; clear ea; exact q_.elim))]; exact ea
  have w₁₀ : M₁₀ Dw = some (lstObj [] 0) := by rw [hM₁₀, Reg.set_ne _ _ nWC.symm, Reg.set_self]
  have c₁₀ : M₁₀ Dc = some (lstObj [] 0) := by rw [hM₁₀, Reg.set_self]
  have S₁₀ : SAt C aT aN M₁₀ Z₇ σ₇ := S₇.on fun a o _ ea => g₁₀ a o ea
  have nWZ : Dw ∉ Z₇.all σ₇ := fun h => by obtain ⟨o, ea, _⟩ := S₇.obj h; rw [mDw] at ea; (have q_ := oNS ea; clear ea; exact q_.elim)
  have nCZ : Dc ∉ Z₇.all σ₇ := fun h => by obtain ⟨o, ea, _⟩ := S₇.obj h; rw [mDc] at ea; (have q_ := oNS ea; clear ea; exact q_.elim)
  have nDW : D ≠ Dw := fun h => by rw [h, mDw] at e₇; (have q_ := oNS e₇; clear e₇; exact q_.elim)
  have nDC : D ≠ Dc := fun h => by rw [h, mDc] at e₇; (have q_ := oNS e₇; clear e₇; exact q_.elim)
  have nPW : 162 ≠ Dw := fun h => by rw [h, mDw] at P₇; (have q_ := oNS P₇; clear P₇; exact q_.elim)
  have nPC : 162 ≠ Dc := fun h => by rw [h, mDc] at P₇; (have q_ := oNS P₇; clear P₇; exact q_.elim)
  have nOW : Dw ∉ frs Out := fun h => by obtain ⟨o, ea, _⟩ := Lv₇.obj h; rw [mDw] at ea; (have q_ := oNS ea; clear ea; exact q_.elim)
  have nOC : Dc ∉ frs Out := fun h => by obtain ⟨o, ea, _⟩ := Lv₇.obj h; rw [mDc] at ea; (have q_ := oNS ea; clear ea; exact q_.elim)
  have P₁₀ := g₁₀ _ _ P₇
  have e₁₀ := g₁₀ _ _ e₇
  have U₁₀ : UpTo (frs Out) Mu M₁₀ := U₇.trans (.of fun a _ o ea => g₁₀ a o ea)
  have hT₂ := ((hT₂.mono l₈).mono l₉).mono l₁₀
  replace q := ((q.mono l₈).mono l₉).mono l₁₀
  clear g₁₀ hM₁₀ F₉ F₈ mDc' mDc mDw F₇ S₇ U₇ Lv₇ P₇ e₇ hDc hDw l₁₀ l₉ l₈
  have allZ : ∀ σ : Sd, σ.ks = ks → (∃ l, σ.rd = some l) → Z₇.all σ = Z₇.all σ₇ := fun σ h ⟨l, hr⟩ => Srt.all_eq (h.trans hks₇.symm) (by rw [hr, PL₀.rd]; rfl)
  refine st_for (L := picks) (enc := Dat.int) (tds := fun y => [.int y]) [Str.ofString "pick"] (Dw :: Dc :: Z₇.all σ₇) (fun i => ofL [(Str.ofString "rows", rowsDN rows), (Str.ofString "picks", encI picks), (Str.ofString "sorter", .val (.ref Z₇.s)), (Str.ofString "_law_lay", .val (.ref fl)), (Str.ofString "lasts", .val (.ref D)), (Str.ofString "answer", ringD (endsN (stepsN rows) 7)), (Str.ofString "waiting", .lst (encN (leftN rows picks i))), (Str.ofString "waits", .val (.ref Dw)), (Str.ofString "course", .val (.ref Dc))])
    (fun i R M => (∃ vs m, M Dw = some (lstObj vs m) ∧ RdAll R vs (((List.range i).map fun j => freeN rows (courseN rows (picks.take j))).map fun r => .lst (encN r))) ∧ (∃ vs m, M Dc = some (lstObj vs m) ∧ RdAll R vs (encN (courseN rows (picks.take i)))) ∧ ∃ σ l, σ.ks = ks ∧ SAt C aT aN M Z₇ σ ∧ Play (stepsN rows) σ (courseN rows (picks.take i)) (leftN rows picks i) l)
    F₁₀ rm (evIt_lst (ev_name rfl)) (AllIn.le ⟨rfl, rfl, rfl, rfl, rfl, rfl, rfl, rfl, rfl, trivial⟩) (fun a ha => ?_) (by decide +kernel) (fun _ _ => ⟨rfl, rfl⟩)
    (fun i R R' M M' hJ l he => ?_) ⟨⟨[], 0, w₁₀, .nil⟩, ⟨[], 0, c₁₀, .nil⟩, σ₇, _, hks₇, S₁₀, PL₀⟩ ?_ ?_
  · rcases List.mem_cons.mp ha with rfl | ha
    · exact ⟨_, w₁₀⟩
    · rcases List.mem_cons.mp ha with rfl | ha
      · exact ⟨_, c₁₀⟩
      · obtain ⟨o, ea, _⟩ := S₁₀.obj ha; exact ⟨o, ea⟩
  · obtain ⟨⟨ws, mw, ew, qw⟩, ⟨vc, mc, ec, qc⟩, σ, lr, hσk, S', PL⟩ := hJ
    refine ⟨⟨ws, mw, (he Dw (by simp)).trans ew, qw.mono l⟩, ⟨vc, mc, (he Dc (by simp)).trans ec, qc.mono l⟩, σ, lr, hσk, S'.on fun a o ha ea => (he a ?_).trans ea, PL⟩
    rw [allZ σ hσk ⟨_, PL.rd⟩] at ha
    exact List.mem_cons_of_mem _ (List.mem_cons_of_mem _ ha)
  · intro i pick s₁₁ R₁₂ M₁₁ hi l₁₁ off₁₁ F₁₁ ⟨⟨ws, mw, ew, qw⟩, ⟨vc, mc, ec, qc⟩, σ, lr, hσk, S₁₁, PL⟩
    refine cps fun Qf hQf => ?_
    have hi7 : i < 7 := by have := (List.getElem?_eq_some_iff.mp hi).1; omega
    have hci := course_inv rows (picks.take i)
    have hPr := PL.ready
    have hperm := play_free hPr (by show σ.ks = _; rw [hσk, hks0]) hci
    have hPf := hPr.perm hperm
    have hst := @course_stay rows picks i pick hi
    have hcp := @course_pick rows picks i pick hi
    have hpe := @pickN_eq rows picks i pick hi
    have hpm := @pick_mem rows picks i pick hi
    have hln := @left_nil rows picks i
    have hle := left_erase rows picks i
    have hcl : (courseN rows (picks.take i)).length ≤ 7 := by
      have := courseN_len rows (picks.take i)
      rw [List.length_take] at this; omega
    have hwl : ((List.range (i + 1)).map fun j => freeN rows (courseN rows (picks.take j))) = ((List.range i).map fun j => freeN rows (courseN rows (picks.take j))) ++ [freeN rows (courseN rows (picks.take i))] := by
      rw [List.range_succ, List.map_append]; rfl
    have hfl := freeN_len rows (courseN rows (picks.take i))
    have hfs := freeN_sorted rows (courseN rows (picks.take i))
    have hwz : ws.length ≤ sizeLine := by
      have := qw.length
      rw [List.length_map, List.length_map, List.length_range] at this
      exact hsz _ (by omega)
    have hcz : vc.length ≤ sizeLine := by
      have := qc.length
      rw [List.length_map] at this
      exact hsz _ (by omega)
    have hsum : (leftN rows picks i).length + lr.length ≤ 7 := by
      have := hperm.length_eq
      rw [List.length_append] at this; omega
    generalize (List.range i).map (fun j => freeN rows (courseN rows (picks.take j))) = wl at qw hwl
    generalize courseN rows (picks.take i) = cr at *
    generalize leftN rows picks i = wt at *
    generalize pickN rows picks i = x at *
    generalize freeN rows cr = fr at *
    have hZa : Z₇.all σ = Z₇.all σ₇ := allZ σ hσk ⟨_, PL.rd⟩
    obtain ⟨hdh, tdh, mdh, hdd⟩ := S₁₁.d
    refine st_set F₁₁ (callWb F₁₁ rm (ev_glob (g_sorted B.at) rfl) (call_sortedN (ns := wt ++ lr) (ms := fr) hperm hfs (by rw [List.length_append]; omega)) (fun sa Ra la ka Fa => binW (d₁ := .lst (encN wt)) (d₂ := .lst (encN lr)) (d := .lst (encN (wt ++ lr))) Fa rm (ev_name rfl) (fun mu => by rw [show encN (wt ++ lr) = encN wt ++ encN lr from List.map_append]; exact op_cat (hsz _ (by simp [encN]; omega))) (fun sb Rb lb kb Fb => callWt Fb rm (ev_glob (g_list B.at) rfl) (call_listT (ds := encN lr) (hsz _ (by simp [encN]; omega))) (fun sc Rc lc kc Fc => Fc.smeth0 rm B (k_ready C) S₁₁ hdd look_ready (ev_name rfl) ((ready_spec B (l := lr) PL.rd (fun k hk => PL.sub k (by simp [hk])) (by omega)).le (by omega)) fun v s' R' M' Z' σ' d hP' hzs le hv F' S' hn ho hoff => ?_))))
    obtain ⟨hZe, hσ', rfl⟩ := hP'
    have hZe' := hZe.symm
    subst hZe'
    refine ⟨R', M', le, F', hv, fun w₁ s₁ R₁ le₁ F₁ h₁ => ⟨R₁, M', lc.trans (le.trans le₁), F₁, h₁, fun w₂ s₂ R₂ le₂ F₂ h₂ => ⟨R₂, M', lb.trans (lc.trans (le.trans (le₁.trans le₂))), F₂, h₂, fun w₃ s₃ R₃ le₃ F₃ h₃ => ⟨R₃, M', _, F₃, h₃, fun s₄ F₄ => ?_⟩⟩⟩⟩
    have LE : R₁₂.le R₃ := la.trans (lb.trans (lc.trans (le.trans (le₁.trans (le₂.trans le₃)))))
    rw [← hσ'] at hPf
    have hσ'k : σ'.ks = ks := by rw [hσ']; exact hσk
    have hZ' : Z₇.all σ' = Z₇.all σ₇ := allZ σ' hσ'k ⟨_, hPf.rd⟩
    rw [hZa] at hoff
    clear hσ' hPr hn ho F₁ F₂ F₃ F' h₁ h₂ h₃ hzs hv hperm PL S₁₁ hdd
    have hnw : ∀ {a : Addr}, a ∈ Z₇.all σ₇ → a ≠ Dw := fun ha h => nWZ (h ▸ ha)
    have hnc : ∀ {a : Addr}, a ∈ Z₇.all σ₇ → a ≠ Dc := fun ha h => nCZ (h ▸ ha)
    refine st_expr (mlist_append (d := .lst (encN fr)) F₄ rm (ev_name rfl) (ev_name rfl) (hoff Dw _ nWZ ew) hwz fun s₅ R₅ w m' l₅ hw F₅ => ?_) F₄.quiet
    have Sw : SAt C aT aN (M'.set Dw (lstObj (ws ++ [w]) m')) Z₇ σ' := S'.on fun a o ha ea => by
      rw [hZ'] at ha
      rw [Reg.set_ne _ _ (hnw ha)]; exact ea
    have qw' := ((qw.mono (LE.trans l₅)).append (.cons hw .nil))
    have hcM : (M'.set Dw (lstObj (ws ++ [w]) m')) Dc = some (lstObj vc mc) := by
      rw [Reg.set_ne _ _ nWC]; exact hoff Dc _ nCZ ec
    refine st_if F₅ rm (evT_cmp (ev_name rfl) (ev_list evAll_nil) op_ne_nilm) fun s₆ R₆ l₆ F₆ => ?_
    cases hfe : fr.isEmpty with
    | true =>
      have hfr0 : fr = [] := List.isEmpty_iff.mp hfe
      refine st_nil (st_nil (hQf _ _ ⟨R₆, _, LE.trans (l₅.trans l₆), fun a o ha ea => ?_, F₆.toL _ ⟨rfl, rfl, rfl, rfl, rfl, rfl, ?_, rfl, rfl, trivial⟩, ⟨ws ++ [w], m', Reg.set_self _ _ _, ?_⟩, ⟨vc, mc, hcM, ?_⟩, σ', [], hσ'k, Sw, ?_⟩))
      · simp only [List.mem_cons, not_or] at ha
        rw [Reg.set_ne _ _ ha.1]; exact hoff a o ha.2.2 ea
      · show some (Dat.lst (encN fr)) = some (Dat.lst (encN (leftN rows picks (i + 1))))
        rw [hln hfe, hfr0]
      · rw [hwl, List.map_append]; exact qw'.mono l₆
      · rw [hst hfe]; exact RdAll.ofN qc
      · rw [hst hfe, hln hfe, ← hfr0]; exact hfr0 ▸ hPf
    | false =>
      have hxf := hpm hfe
      have hpos : 0 < fr.length := List.length_pos_iff.mpr fun h => by rw [h] at hfe; cases hfe
      have hm0 := Int.fmod_nonneg_of_pos pick (show (0 : Int) < (fr.length : Int) by omega)
      have hm1 := Int.fmod_lt_of_pos pick (show (0 : Int) < (fr.length : Int) by omega)
      have hgd : fr[(pick.fmod fr.length).toNat]? = some x := by
        rw [hpe, List.getD_eq_getElem?_getD, List.getElem?_eq_getElem (show (pick.fmod fr.length).toNat < fr.length by omega)]; rfl
      have hfz : fr.length ≤ sizeLine := hsz _ (by omega)
      have hxk : x ∈ σ'.ks := hPf.sub x (by simp [hxf])
      have hxc : x ∉ cr := fun h => by
        have := hPf.nod
        rw [List.append_nil, List.nodup_append] at this
        exact this.2.2 x h x hxf rfl
      have hnp : σ'.np x = -1 := by rw [hPf.np x hxk, if_neg hxc, if_pos hxf]
      have hin : ∀ j ∈ sucs (stepsN rows) x, j ∈ σ'.ks := fun j hj => hσ'k ▸ (hElow _ (sucs_mem.mp hj)).2
      obtain ⟨l', hl', hPd⟩ := hPf.done hxf hin
      refine st_assign (d := .int (x : Int)) F₆ rm (ev_sub (ev_name rfl) (ev_bin (ev_name rfl) (ev_lenN (l := fr) (g_len B.at) hfz rfl rfl) (op_mod (by omega))) (op_itemm (l := fr) (g := fun (k : Nat) => Dat.int (k : Int)) hgd hm0 hfz)) fun s₇ R₇ l₇ F₇ => ?_
      obtain ⟨hdh, tdh, mdh, hdd⟩ := Sw.d
      refine st_expr (F₇.smeth rm B (k_done C) Sw hdd look_done (ev_name rfl) (evAll_cons (ev_name rfl) evAll_nil) ((done_spec B hPf.rd hxk hnp (fun j hj => ?_) ?_).le (by omega)) (fun v s₈ R₈ M₈ Z₈ σ₈ d hP8 hzs l₈ hv F₈ S₈ hn ho hoff₈ => ?_)) F₇.quiet
      · rw [hPf.su x hxk] at hj
        refine ⟨hin j hj, fun h => ?_⟩
        rw [h] at hj
        exact hxc (cnt_zero.mp (hPf.oz x (List.mem_append_right _ hxf)) _ (sucs_mem.mp hj) rfl)
      · rw [hPf.su x hxk, sucs, List.length_map]
        have := List.length_filter_le (fun e => decide (e.1 = x)) (stepsN rows)
        simp only [List.length_nil]; omega
      obtain ⟨hZe, hσ₈, rfl⟩ := hP8
      have hZe' := hZe.symm
      subst hZe'
      rw [hl'] at hσ₈ hPd
      rw [← hσ₈] at hPd
      rw [hle] at hPd
      have hσ₈k : σ₈.ks = ks := by rw [hσ₈]; exact hσ'k
      rw [hZ'] at hoff₈
      have hZ₈ : Z₇.all σ₈ = Z₇.all σ₇ := allZ σ₈ hσ₈k ⟨_, hPd.rd⟩
      refine st_expr (mlist_append (d := .int (x : Int)) F₈ rm (ev_name rfl) (ev_name rfl) (hoff₈ Dc _ nCZ hcM) hcz fun s₉ R₉ w' m'' l₉ hw' F₉ => ?_) F₈.quiet
      refine st_lc (L := fr) (enc := fun (k : Nat) => Dat.int (k : Int)) (tds := fun (k : Nat) => [.int (k : Int)]) (p := fun k => !(k == x)) (f := fun (k : Nat) => Dat.int (k : Int)) [Str.ofString "name"] F₉ rm (evIt_lst (ev_name rfl)) (by kernel_rfl!) (fun _ _ => ⟨rfl, rfl⟩)
        (fun k _ => evT_cmp (ev_name rfl) (ev_name rfl) (Op2.cast op_ne_int (congrArg Dat.bool (ne_cast k x)))) (fun _ _ _ => ev_name rfl) hfz fun sa Ra la Fa => ?_
      refine st_nil (st_nil (hQf _ _ ⟨Ra, _, LE.trans (l₅.trans (l₆.trans (l₇.trans (l₈.trans (l₉.trans la))))), fun a o ha ea => ?_, Fa.toL _ ⟨rfl, rfl, rfl, rfl, rfl, rfl, ?_, rfl, rfl, trivial⟩, ⟨ws ++ [w], m', ?_, ?_⟩, ⟨vc ++ [w'], m'', Reg.set_self _ _ _, ?_⟩, σ₈, l', hσ₈k, ?_, ?_⟩))
      · simp only [List.mem_cons, not_or] at ha
        rw [Reg.set_ne _ _ ha.2.1]
        exact hoff₈ a o ha.2.2 (by rw [Reg.set_ne _ _ ha.1]; exact hoff a o ha.2.2 ea)
      · show some (Dat.lst _) = some (Dat.lst (encN (leftN rows picks (i + 1))))
        rw [← hle, erase_filter]
        have := hPf.nod
        rw [List.append_nil, List.nodup_append] at this
        exact this.2.1
      · rw [Reg.set_ne _ _ nWC.symm]
        exact hoff₈ Dw _ nWZ (Reg.set_self _ _ _)
      · rw [hwl, List.map_append]; exact qw'.mono (l₆.trans (l₇.trans (l₈.trans (l₉.trans la))))
      · rw [hcp hfe, show encN (cr ++ [x]) = encN cr ++ encN [x] from List.map_append]
        exact (RdAll.ofN qc).append (.cons (hw'.mono la) .nil)
      · exact S₈.on fun a o ha ea => by
          rw [hZ₈] at ha
          rw [Reg.set_ne _ _ (hnc ha)]; exact ea
      · rw [hcp hfe]; exact hPd
  intro s₁₁ R₁₂ M₁₁ l₁₁ off₁₁ F₁₁ ⟨⟨ws, mw, ew, qw⟩, ⟨vc, mc, ec, qc⟩, _⟩
  rw [List.take_length] at qc
  have e₁₁ : M₁₁ D = some (lstObj vs m) := off₁₁ D _ (by simp only [List.mem_cons, not_or]; exact ⟨nDW, nDC, nDZ₇⟩) e₁₀
  have P₁₁ : M₁₁ 162 = some (tabObj lt₄.toArray) := off₁₁ 162 _ (by simp only [List.mem_cons, not_or]; exact ⟨nPW, nPC, nPZ₇⟩) P₁₀
  have U₁₁ : UpTo (frs Out) Mu M₁₁ := U₁₀.trans (.off off₁₁ fun a ha => by
    simp only [List.mem_cons, not_or]
    exact ⟨fun h => nOW (h ▸ ha), fun h => nOC (h ▸ ha), dZ₇ a ha⟩)
  have hcl : (courseN rows picks).length ≤ 7 := by have := courseN_len rows picks; omega
  obtain ⟨R₁₃, M₁₂, l₁₂, hR₁₂, hM₁₂, F₁₂⟩ := F₁₁.freezeAll [D, Dw, Dc] (fun c hc => by
    simp only [List.mem_cons, List.not_mem_nil, or_false] at hc
    rcases hc with rfl | rfl | rfl
    · exact ⟨⟨_, e₁₁⟩, fun h => (List.mem_cons.mp h).elim nPD.symm nDO⟩
    · exact ⟨⟨_, ew⟩, fun h => (List.mem_cons.mp h).elim nPW.symm nOW⟩
    · exact ⟨⟨_, ec⟩, fun h => (List.mem_cons.mp h).elim nPC.symm nOC⟩) (by simp [nDW, nDC, nWC.symm])
  have F₁₃ := F₁₂.reread2 (x := Str.ofString "lasts") (d := .val (.ref D)) (d' := .lst (rows.map lastD)) rfl (fun w hw => by
    (have q_ := Rd.valE hw; clear hw; subst q_)
    exact .lst ((hR₁₂ D (by simp)).trans e₁₁) ⟨rfl, rfl⟩ rfl (q.mono (l₁₁.trans l₁₂)))
  have F₁₄ := F₁₃.reread2 (x := Str.ofString "waits") (d := .val (.ref Dw)) (d' := rowsDN (waitsN rows picks)) rfl (fun w hw => by
    (have q_ := Rd.valE hw; clear hw; subst q_)
    exact .lst ((hR₁₂ Dw (by simp)).trans ew) ⟨rfl, rfl⟩ rfl (qw.mono l₁₂))
  have F₁₅ := F₁₄.reread2 (x := Str.ofString "course") (d := .val (.ref Dc)) (d' := .lst (encN (courseN rows picks))) rfl (fun w hw => by
    (have q_ := Rd.valE hw; clear hw; subst q_)
    exact .lst ((hR₁₂ Dc (by simp)).trans ec) ⟨rfl, rfl⟩ rfl (RdAll.ofN qc))
  have F₁₆ := F₁₅.toL [(Str.ofString "rows", rowsDN rows), (Str.ofString "_law_lay", .val (.ref fl)), (Str.ofString "lasts", .lst (rows.map lastD)), (Str.ofString "answer", ringD (endsN (stepsN rows) 7)), (Str.ofString "waits", rowsDN (waitsN rows picks)), (Str.ofString "course", .lst (encN (courseN rows picks)))] ⟨rfl, rfl, rfl, rfl, rfl, rfl, trivial⟩
  have hT₂ := hT₂.mono (l₁₁.trans l₁₂)
  have U₁₂ : UpTo (frs Out) Mu M₁₂ := U₁₁.trans (.of fun a ha o ea => by
    rw [hM₁₂ a (by simp only [List.mem_cons, List.not_mem_nil, or_false, not_or]; exact ⟨fun h => nDO (h ▸ ha), fun h => nOW (h ▸ ha), fun h => nOC (h ▸ ha)⟩)]; exact ea)
  have P₁₂ : M₁₂ 162 = some (tabObj lt₄.toArray) := by
    rw [hM₁₂ 162 (by simp only [List.mem_cons, List.not_mem_nil, or_false, not_or]; exact ⟨nPD, nPW, nPC⟩)]; exact P₁₁
  clear F₁₅ F₁₄ F₁₃ F₁₂ F₁₁ U₁₁ P₁₁ e₁₁ U₁₀ P₁₀ e₁₀ F₁₀ hM₁₂ hR₁₂ off₁₁ qw qc ew ec q S₁₀ w₁₀ c₁₀ PL₀
  have h5 : rows.map (fun _ => ([] : List Nat)) = [[], [], [], [], []] := by
    have : rows.map (fun _ => ([] : List Nat)) = List.replicate rows.length [] := List.map_const' ..
    rw [this, hl]; rfl
  have hn5 : Dat.lst [.lst [], .lst [], .lst [], .lst [], .lst []] = rowsDN (pilesN rows []) := by
    show _ = rowsDN (rows.map fun _ => [])
    rw [h5]; rfl
  obtain ⟨o₁, h150, fd₁, hd₁⟩ : ∃ o, C.h₀.get? 150 = some o ∧ ∃ fd, o.data = .func fd := ⟨_, B.K 150 _ rfl, _, rfl⟩
  obtain ⟨o₂, h142, hc₂⟩ : ∃ o, C.h₀.get? 142 = some o ∧ o.cls ≠ .type "list" := ⟨_, B.K 142 _ rfl, by simp⟩
  refine wpAny_execs_cons (wpAny_Return_some (tup5W (d := rowsDN (pilesN rows (courseN rows picks))) F₁₆ rm (ev_name rfl) (ev_name rfl) (ev_name rfl) (ev_name rfl) (fun sa Ra la ka Fa => ?_) (fun w sb Rb lb Fb hw => ?_)))
  · refine Fa.callH (P := LamP fl _ _ noM) lamP_stab rm (f := 150) (ds := [.val (.ref fl), .lst (encN (courseN rows picks)), rowsDN (pilesN rows [])]) (d := rowsDN (pilesN rows (courseN rows picks))) (ev_glob (g_reduce B.at) rfl) (Fa.ro.base _ _ h150) hd₁ ?_ ?_ ⟨hT₂.mono la, Fa.clo (by kernel_rfl!), fun _ _ e => nomatch e⟩ (fun v sc Rc lc kc hv Fc => ⟨Rc, lc, Fc, hv⟩)
    · refine evAll_cons (ev_name rfl) ?_
      refine evAll_cons (ev_name rfl) ?_
      with_reducible refine evAll_cons ?_ evAll_nil ?_
      · rw [← hn5]
        with_reducible exact ev_nils5
      · intro _; rfl
    · refine (reduce_lam B (n := 6) (L := courseN rows picks) (enc := fun (k : Nat) => Dat.int (k : Int)) (fun i => rowsDN (pilesN rows ((courseN rows picks).take i))) rfl (by rw [List.take_length]) (fun mu => op_is_lst h142 hc₂) fun i k hi => ?_)
      have hk1 : (courseN rows picks).take (i + 1) = (courseN rows picks).take i ++ [k] := by rw [List.take_add_one, hi]; rfl
      rw [hk1, pilesN_step]
      have hpl := pilesN_len rows ((courseN rows picks).take i)
      have hps := pilesN_short rows ((courseN rows picks).take i)
      have htl : ((courseN rows picks).take i).length ≤ 7 := by rw [List.length_take]; omega
      generalize pilesN rows ((courseN rows picks).take i) = pl at hpl hps ⊢
      refine callh_def (n := 5) (xs := [Str.ofString "piles", Str.ofString "name"]) (defFd (by kernel_rfl!) (bind2 (fun v₁ v₂ => by kernel_rfl!))) rfl B.nolimit fun A' env' W' s' ss Rr hsc' rm' Ff => ?_
      refine st_ret Ff rm' (lay_ev (C := C.at noM) B.at (rows := rows) (piles := pl) (k := k) (by kernel_rfl!) rfl rfl rfl rfl hpl (by omega) (fun r hr => by have := hps r hr; omega)) fun s₁ R₁ v l F₁ hv => ⟨v, rfl, F₁.post hv⟩
  · refine hQ _ _ ⟨Rb, M₁₂, _, w, lt₄, rfl, Fb, U₁₂, ?_, P₁₂⟩
    rw [dueD, ← piles_due hlow hp]; exact hw
end
end Mine
end
noncomputable section
open PySem PySem.W PyProof.Rows PySem.SeqAt PySem.MeetsSeq
set_option Elab.async false
set_option autoImplicit false
set_option maxRecDepth 100000
namespace Mine
theorem plain_rows (k : Nat) (l : List (List Nat)) : Plain (k + 2) (rowsDN l) := by
  intro d hd
  obtain ⟨x, _, rfl⟩ := List.mem_map.mp hd
  intro e he
  obtain ⟨k, _, rfl⟩ := List.mem_map.mp he
  cases k <;> simp [Plain]
theorem plain_due (rows : List (List Nat)) (picks : List Int) : Plain 3 (dueD rows picks) := by
  intro d hd
  simp only [List.mem_cons, List.not_mem_nil, or_false] at hd
  rcases hd with rfl | rfl | rfl | rfl | rfl
  · intro e he
    obtain ⟨r, _, rfl⟩ := List.mem_map.mp he
    unfold lastD
    split <;> simp [Plain]
  · unfold ringD
    split <;> simp [Plain]
  · exact plain_rows 0 _
  · intro e he
    obtain ⟨k, _, rfl⟩ := List.mem_map.mp he
    simp [Plain]
  · exact plain_rows 0 _
section
variable {C : Cx} {s₀ : Shared} {R₀ : Reg} {V : List Addr} {sc : Scope} {env : Env} {W : List Addr} {s s' : Shared} {R R' Mu Mu' : Reg} {Δ Δ' : Vars} {n : Nat} {A : Around} {E : Value → Shared → Prop} {Q : Flow → Shared → Prop}
theorem cmpWl {l r : Expr} {op : CmpOp} {p : Pos} {d₁ d₂ d : Dat} {Qv : Value → Shared → Prop} (_ : Fra C s₀ R₀ V sc env W s R Mu Δ) (hr : ∀ mu, Ev (C.at mu) n sc Δ r d₂) (ho : ∀ mu, Op2 (C.at mu) n (compareOp op) d₁ d₂ d) (rm : Room n A)
    (hl : wpAny C.M A (eval l env) (fun v s₁ => ∃ R₁ Mu₁, Fra C s₀ R₀ V sc env W s₁ R₁ Mu₁ Δ ∧ Rd R₁ v d₁ ∧ ∀ w s₂ R₂, R₁.le R₂ → Fra C s₀ R₀ V sc env W s₂ R₂ Mu₁ Δ → Rd R₂ w d → Qv w s₂) NoE s)
    (hm : behindInMarks op r = false := by rfl) :
    wpAny C.M A (eval (.Compare l [op] [r] p) env) Qv E s := by
  refine wpAny_Compare1 (noE hl fun v s₁ q => ?_) hm
  obtain ⟨R₁, Mu₁, F₁, hv, h⟩ := q
  refine F₁.ev rm (hr Mu₁) fun w s₂ R₂ l₂ k₂ hw F₂ => ?_
  exact noE (ho Mu₁ A s₂ R₂ v w rm F₂.rom (hv.mono l₂) hw) fun x s₃ p₃ => h x s₃ _ (l₂.trans (Reg.ext_le F₂.ro.on)) (F₂.ext p₃.1) p₃.2
end
theorem cells3_len (ns : List Int) : (cells3 ns).length = 12 := by simp [cells3, bases3]
section
variable {C : Cx} (B : Base C (K3 C))
include B
theorem law_spec (T : TabBase C 164 162) {ns : List Int} (h63 : ns.length ≤ 63) : VCall C 162 9 180 [.lst (ns.map Dat.int)] (.bool true) := by
  have hsz : ∀ k : Nat, k ≤ 1000 → k ≤ sizeLine := fun k h => by rw [sizeLine_val]; omega
  refine vcall_fn (n := 8) (xs := [Str.ofString "script"]) (es := [.lst (ns.map Dat.int)]) (fnC B rfl (by kernel_rfl!) rfl (by kernel_rfl!)) rfl (fun R s vs ro hr => bnd_all1 hr fun _ hr => bnd_plain ro.on (by kernel_rfl!) hr) ?_
  intro A Out env W s₀ s R R₁ Mu hsc hf hcode hqual hfr Lv hPO rm hP F
  clear hsc
  dsimp only at F
  clear hcode hqual
  refine cps fun Q hQ => ?_
  refine st_lc0 (L := ns.take 24) (enc := Dat.int) (tds := fun k => [.int k]) (f := fun x => .int (x.fmod 14700)) [Str.ofString "x"] F rm (evIt_lst (ev_upto (l := ns) (g := Dat.int) (k := 24) (ev_name rfl) ev_int (by decide) (hsz _ (by omega)))) (by kernel_rfl!) (fun _ _ => ⟨rfl, rfl⟩) (fun x _ => ev_bin (ev_name rfl) ev_int (op_mod (by decide))) (hsz _ (by rw [List.length_take]; omega)) fun s₁ R₂ l₁ F₁ => ?_
  rw [show ((ns.take 24).map fun x => Dat.int (x.fmod 14700)) = ((ns.take 24).map fun x => x.fmod 14700).map Dat.int by rw [List.map_map]; rfl] at F₁
  have hnl : ((ns.take 24).map fun x : Int => x.fmod 14700).length ≤ 24 := by rw [List.length_map, List.length_take]; omega
  generalize ((ns.take 24).map fun x : Int => x.fmod 14700) = nums at F₁ hnl
  refine st_assign (d := encI (cells3 nums)) F₁ rm (ev_callf (ev_glob (g_cells B.at) rfl) (B.K 155 _ rfl) rfl (evAll_cons (ev_name rfl) evAll_nil) ((cells_spec B (ns := nums) (hsz _ (by omega))).le (by omega))) fun s₂ R₃ l₂ F₂ => ?_
  have hcl := cells3_len nums
  generalize hcells : cells3 nums = cells at F₂ hcl
  refine st_assign (d := rowsDN (rowsL cells ((nums.sum).fmod 2 == 1))) F₂ rm (ev_callf (ev_glob (g_rows B.at) rfl) (B.K 160 _ rfl) rfl (evAll_cons (ev_name rfl) (evAll_cons (ev_cmp (ev_bin (ev_callb (ev_glob (g_sum B.at) rfl) (evAll_cons (ev_name rfl) evAll_nil) call_sum) ev_int (op_mod (by decide))) ev_int op_eq_int) evAll_nil)) ((rows_spec B (cells := cells) (by omega)).le (by omega))) fun s₃ R₄ l₃ F₃ => ?_
  have hr5 := rowsL_len cells ((nums.sum).fmod 2 == 1)
  have hr12 := rowsL_short cells ((nums.sum).fmod 2 == 1) (by omega)
  have hlow := rowsL_low cells ((nums.sum).fmod 2 == 1)
  generalize rowsL cells ((nums.sum).fmod 2 == 1) = rows at F₃ hr5 hr12 hlow
  refine st_lc0 (L := cells.take 7) (enc := Dat.int) (tds := fun k => [.int k]) (f := fun x => .int (x.fdiv 35)) [Str.ofString "box"] F₃ rm (evIt_lst (ev_upto (l := cells) (g := Dat.int) (k := 7) (ev_name rfl) ev_int (by decide) (hsz _ (by omega)))) (by kernel_rfl!) (fun _ _ => ⟨rfl, rfl⟩) (fun x _ => ev_bin (ev_name rfl) ev_int (op_div (by decide) (by decide))) (hsz _ (by rw [List.length_take]; omega)) fun s₄ R₅ l₄ F₄ => ?_
  rw [show ((cells.take 7).map fun x => Dat.int (x.fdiv 35)) = ((cells.take 7).map fun x => x.fdiv 35).map Dat.int by rw [List.map_map]; rfl] at F₄
  have hp7 : ((cells.take 7).map fun x : Int => x.fdiv 35).length = 7 := by rw [List.length_map, List.length_take]; omega
  generalize ((cells.take 7).map fun x : Int => x.fdiv 35) = picks at F₄ hp7
  obtain ⟨o₁, h165, fd₁, hd₁⟩ : ∃ o, C.h₀.get? 165 = some o ∧ ∃ fd, o.data = .func fd := ⟨_, B.K 165 _ rfl, _, rfl⟩
  refine wpAny_execs_cons (wpAny_Return_some (cmpWl (d₁ := dueD rows picks) (d₂ := dueD rows picks) (d := .bool true) F₄ (fun mu => ev_callf (ev_glob (g_due B.at) rfl) (B.K 175 _ rfl) rfl (evAll_cons (ev_name rfl) (evAll_cons (ev_name rfl) evAll_nil)) ((due_spec B hr5 hr12 hp7).le (by omega))) (fun mu => op_eq_tup (plain_due rows picks) (by decide)) rm (Call_ (F₄.ev rm (ev_glob (g_play B.at) rfl) fun fv s₅ R₆ l₅ k₅ hfv F₅ => ?_))))
  (have q_ := Rd.valE hfv; clear hfv; subst q_)
  refine callWith_def hd₁ (F₅.evAll rm (evAll_cons (ev_name rfl) (evAll_cons (ev_name rfl) evAll_nil)) fun vs s₆ R₇ l₆ k₆ hvs F₆ => ⟨F₆.ro.on _ _ (F₆.ro.base _ _ h165), F₆.vcall rm hfr hf Lv hP hvs (play_spec B T hr5 hr12 hlow hp7) fun v s₇ R₈ M₇ l' l₇ hv F₇ off₇ up₇ P₇ => ⟨R₈, M₇, F₇, hv, fun w s₈ R₉ l₈ F₈ hw => hQ _ _ ⟨R₉, M₇, _, w, l', rfl, F₈, up₇, hw, P₇⟩⟩⟩) rfl
end
end Mine
end
noncomputable section
open PySem PySem.W PyProof.Rows PySem.SeqAt PySem.MeetsSeq
set_option Elab.async false
set_option autoImplicit false
namespace Mine
theorem well_list {P : Params} {h : Heap} {a : Addr} {vs : List Value} {ns : List Int} (w : Well P h (.ref a) (ofPy (PyData.list (ns.map PyData.int)))) (hl : h.IsList a vs.toArray) (hi : IntsAre vs ns) : ∃ o n, h.get? a = some o ∧ (o.cls = .type "list" ∧ o.dict = none) ∧ o.data = .seq vs.toArray n := by
  obtain ⟨o, ho, hc, n, hd⟩ := hl
  simp only [ofPy] at w
  cases w with
  | list e _ => rw [ho] at e; (have q_ := oSS e; clear e; subst q_); exact ⟨_, n, ho, ⟨rfl, rfl⟩, hd⟩
end Mine
end
noncomputable section
open PySem PySem.W PyProof.Rows PySem.SeqAt PySem.MeetsSeq
set_option Elab.async false
set_option autoImplicit false
set_option maxRecDepth 100000
namespace Mine
theorem good_tab {c : ClaimW} {cl : Str → Option Addr} {mean : ExcName → Option Value} {args : List WData} {s₁ s' : Shared} {v : Value} {P : Addr} (k : KeepsBut [P] s₁ s') (ko : OldK s₁.heap s'.heap) (hv : v = .bool true) (hg : s₁.gens = #[])
    (hr : ∀ cls, c.raises args cls = false) (hp : c.post args (.bool true) args = true) : GoodWG c cl mean args s₁ (.ok (.ret v)) s' := by
  subst hv
  obtain ⟨h', tk, rfl, e⟩ := k
  exact ⟨.inl ⟨_, .bool true, [], rfl, hr, .bool true, hp, fun _ => ⟨List.nodup_nil, by simp⟩⟩, ko, rfl, .of_eq hg⟩
theorem finish3 {p : Program} {loose : List Str} {mean : ExcName → Option Value} {w : World} {s₁ : Shared} {mg mb : Str → Option Value} {fa l : Addr} {vs : List Value} {ns : List Int} {prog : Program} {c : ClaimW} {cl : Str → Option Addr} {mn : ExcName → Option Value} {args : List WData}
    (KX : (hd03.heap_1 w.params).In s₁.heap) (hP : s₁.heap.get? 162 = some (tabObj #[])) (T : Top p loose mean mg mb s₁.heap) (hmg : mg (Str.ofString "law") = some (.ref fa)) (hg : s₁.gens = #[]) (hL : s₁.heap.IsList l vs.toArray) (hI : IntsAre vs ns) (hW : Well w.params s₁.heap (.ref l) (ofPy (PyData.list (ns.map PyData.int))))
    (hlen : ¬ ((63 : Nat) : Int) < (ns.length : Nat)) (hr : ∀ cls, c.raises args cls = false) (hp : c.post args (.bool true) args = true) :
    wpAny (model prog w) callerA (call (.ref fa) [.ref l]) (fun v s' => GoodWG c cl mn args s₁ (.ok (.ret v)) s') (fun e s' => GoodWG c cl mn args s₁ (.error e) s') s₁ := by
  have hCd : CodeHd s₁.heap 164 162 := codeHd_of_K KX (by kernel_rfl!)
  have hT : TabsAt [(164, 162)] s₁.heap := fun q hq => by rw [List.mem_singleton.mp hq]; exact ⟨hCd, hP⟩
  have TG := ghost_top hT T
  let C : Cx := ⟨prog, w, ghostOf s₁.heap [(164, 162)], noM⟩
  have B : Base C (K3 C) := ⟨ghost_K hT KX (by kernel_rfl!), _, _, _, _, topRead_of TG⟩
  have gn : C.h₀.get? 162 = none := hideAll_none _ (by simp)
  have TB : TabBase C 164 162 := by
    obtain ⟨bm, ob, b1, b2, b3, b4, b5, b6⟩ := TG.bmain
    refine ⟨mg, TG.g, ⟨bm, ob, b1, b2, fun q => ?_, fun q => ?_, b3, b4, b5, b6⟩, (ghost_code hT).1, fun q => ?_⟩
    · obtain ⟨o, es, ep, e, hd, _⟩ := TG.g
      rw [q, e] at b3; (have q_ := oSS b3; clear b3; subst q_); rw [hd] at b6; cases b6
    · have : C.h₀.get? bm = some ob := b3
      rw [q, gn] at this; (have q_ := oNS this; clear this; exact q_.elim)
    · obtain ⟨o, es, ep, e, hd, _⟩ := TG.g
      have : C.h₀.get? mainGlobals = some o := e
      rw [q, gn] at this; (have q_ := oNS this; clear this; exact q_.elim)
  have hfa := mg_of (n := Str.ofString "law") (v := .ref 180) KX T.g (by kernel_rfl!)
  rw [hmg] at hfa
  cases hfa
  obtain ⟨o, n, ho, hc, hd⟩ := well_list hW hL hI
  have hoG : C.h₀.get? l = some o := ghost_get hT ho fun q => by rw [q] at hc; cases hc.1
  have up : ∀ b ob, C.h₀.get? b = some ob → s₁.heap.get? b = some ob := fun b ob e => of_hideAll _ e
  have ro : Rok (C.at noM) C.h₀.get? s₁.heap := ⟨.refl _, up, fun _ _ e => nomatch e⟩
  refine noE (law_spec B TB (ns := ns) (by omega) callerA [] s₁ C.h₀.get? [.ref l] ⟨rfl, by decide, by decide⟩ rfl (fun e he => nomatch he) ro (.cons (.lst hoG hc hd (Rd.of_ints hI)) .nil) (fun a ha => nomatch ha) gn hP) fun v s' q => ?_
  obtain ⟨k, -, hv, l', hP'⟩ := q
  have kx : Heap.ExtBut 162 s₁.heap s'.heap := fun b ob hb e => k.get (by simpa using hb) e
  have hC' : CodeHd s'.heap 164 162 := (ghost_code hT).1.keeps fun b ob e => kx b ob (fun q => by have : C.h₀.get? b = some ob := e; rw [q, gn] at this; (have q_ := oNS this; clear this; exact q_.elim)) (up b ob e)
  refine good_tab k (.step_table (ps := #[]) (more := l'.toArray) (.refl _) (hCd.tab hP) (hCd.tab hP) (by simpa using hC'.tab hP') kx (by decide)) ?_ hg hr hp
  (have q_ := Rd.boolE hv; clear hv; subst q_); rfl
end Mine
end
open PySem PySem.W PyProof.Rows PySem.SeqAt PySem.MeetsSeq
set_option maxRecDepth 100000 in
set_option maxHeartbeats 8000000 in
theorem PySem.Challenge.cw_mq0331_03_holds : PySem.Challenge.rw_mq0331_03.Holds := by
  refine Mine.hd03 ?_
  k_fill
  intro w s₀ s₁ mg mb G Y fa o pm cd doc dV kV ho hd hcd hD hmg hg args vals as hpre hlay hrd hwl hlo
  have KX := km_in_of Y
  have hP := km_tabs_of Y 162 (by simp)
  refine Ground.open G ?_
  intro T B D TE TW
  clear hcd hd hD
  wrow_args hpre hlay hrd hwl hlo
  exact Mine.finish3 KX hP T hmg hg (by assumption) (by assumption) (by assumption) (by assumption) (fun _ => rfl) (by first | (with_unfolding_all rfl) | decide | simp)
