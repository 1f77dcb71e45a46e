import PyProof.Rows.All
import Wide.All
import OpenK.AllK
import Wide.FinOn
import KE.KItem
import Lean
import PySem.Challenge.RW_mq0331_01
set_option Elab.async false
noncomputable section
open PySem PySem.W PyProof.Rows
set_option Elab.async false
namespace Mine
set_option maxRecDepth 100000
set_option maxHeartbeats 8000000
noncomputable def view1 : Program :=
  { PySem.Challenge.pw_mq0331_01 with main := { PySem.Challenge.pw_mq0331_01.main with body := PySem.Challenge.pw_mq0331_01.main.body.take 1 ++ ((PySem.Challenge.pw_mq0331_01.main.body.drop 2).take 1 ++ ((PySem.Challenge.pw_mq0331_01.main.body.drop 5).take 5 ++ PySem.Challenge.pw_mq0331_01.main.body.drop 11)) } }
local macro_rules
  | `(tactic| o_law) => `(tactic| (refine holds_law (by decide +kernel) fun said => ?_))
local macro_rules
  | `(tactic| o_head $H) => `(tactic| (refine holds_open (q := view1) (loose := [Str.ofString "_initial_missing", Str.ofString "reduce", Str.ofString "_NodeInfo"]) (Xt := fun s => xlAt view1 [] s && recOk (RowW.records (OpenRow.toRowW (OpenLaw.row PySem.Challenge.rw_mq0331_01))) s) (XP := XL view1 []) (Yf := Hook.obs $H) (Ya := Hook.val $H) (YP := Hook.says $H) (N := 2656) ?hl (Hook.of $H) (Hook.keeps $H) (fun s e => xl_of s (Bool.and_eq_true_iff.mp e).1) XL.keeps (by rfl) (by rfl) (by rfl) (fun s e => recFacts_of (Bool.and_eq_true_iff.mp e).2) (by rfl) (by first | assumption | decide +kernel) (by decide +kernel) ⟨rfl, rfl, rfl, rfl, rfl, by decide +kernel⟩ ?hw ?hc; (case hl => (intro w; kernel_rfl))))
open_top hd01 for PySem.Challenge.rw_mq0331_01
end Mine
end
noncomputable section
open PySem PySem.W PyProof.Rows
set_option Elab.async false
namespace Mine

/-! regions: partial heaps that stay as they are -/
noncomputable abbrev Reg := Addr → Option Obj
noncomputable def Reg.le (R R' : Reg) : Prop := ∀ a o, R a = some o → R' a = some o
noncomputable def Reg.on (R : Reg) (h : Heap) : Prop := ∀ a o, R a = some o → h.get? a = some o
noncomputable def hle (h h' : Heap) : Prop := ∀ b o, h.get? b = some o → h'.get? b = some o
noncomputable def Reg.ext (R : Reg) (h h' : Heap) : Reg := fun a => match h.get? a with | some _ => R a | none => h'.get? a
theorem Reg.le.refl (R : Reg) : R.le R := fun _ _ e => e
theorem Reg.le.trans {R R' R'' : Reg} (x : R.le R') (y : R'.le R'') : R.le R'' := fun a o e => y a o (x a o e)
theorem hle.refl (h : Heap) : hle h h := fun _ _ e => e
theorem hle.trans {h h' h'' : Heap} (x : hle h h') (y : hle h' h'') : hle h h'' := fun a o e => y a o (x a o e)
theorem Reg.on.hle {R : Reg} {h h' : Heap} (x : R.on h) (y : hle h h') : R.on h' := fun a o e => y a o (x a o e)
theorem Reg.on.le {R R' : Reg} {h : Heap} (x : R'.on h) (y : R.le R') : R.on h := fun a o e => x a o (y a o e)
theorem Reg.ext_le {R : Reg} {h h' : Heap} (x : R.on h) : R.le (R.ext h h') := fun a o e => by
  simp only [Reg.ext, x a o e]; exact e
theorem Reg.ext_on {R : Reg} {h h' : Heap} (x : R.on h) (y : hle h h') : (R.ext h h').on h' := fun a o e => by
  simp only [Reg.ext] at e
  split at e
  · exact y a o (x a o e)
  · exact e
theorem Reg.ext_ext {R : Reg} {h h' h'' : Heap} (x : hle h h') (y : hle h' h'') : ((R.ext h h').ext h' h'').le (R.ext h h'') := fun a o e => by
  simp only [Reg.ext] at e ⊢
  cases e1 : h.get? a with
  | some o1 => rw [x a o1 e1] at e; simpa [e1] using e
  | none =>
    simp only [e1] at e
    split at e
    · exact y a o e
    · exact e
theorem Reg.ext_mono {R R' : Reg} {h h' : Heap} (x : R.le R') : (R.ext h h').le (R'.ext h h') := fun a o e => by
  simp only [Reg.ext] at e ⊢
  cases e1 : h.get? a with
  | some o1 => simp only [e1] at e ⊢; exact x a o e
  | none => simpa [e1] using e
theorem Reg.ext_step {R : Reg} {h h' h'' : Heap} (x : hle h h') (y : hle h' h'') : (R.ext h h').le (R.ext h h'') := fun a o e => by
  simp only [Reg.ext] at e ⊢
  cases e1 : h.get? a with
  | some o1 => simpa [e1] using e
  | none => simp only [e1] at e; exact y a o e
theorem Reg.new_ext {R : Reg} {h h' : Heap} {a : Addr} {o : Obj} (e : h.get? a = none) (e' : h'.get? a = some o) : R.ext h h' a = some o := by
  simp only [Reg.ext, e]; exact e'

/-! data -/
inductive Dat where
  | none
  | bool (b : Bool)
  | int (i : Int)
  | str (x : Str)
  | val (v : Value)
  | tup (ds : List Dat)
  | lst (ds : List Dat)
  | box (a : Addr) (vs : List Value) (ds : List Dat)
mutual
inductive Rd (R : Reg) : Value → Dat → Prop
  | none : Rd R .none .none
  | bool (b : Bool) : Rd R (.bool b) (.bool b)
  | int (i : Int) (t : Tok) : Rd R (.int i t) (.int i)
  | str (x : Str) (t : Tok) : Rd R (.str x t) (.str x)
  | val (v : Value) : Rd R v (.val v)
  | tup {a : Addr} {o : Obj} {vs : List Value} {n : Nat} {ds : List Dat} : R a = some o → o.cls = .type "tuple" → o.data = .seq vs.toArray n → RdAll R vs ds → Rd R (.ref a) (.tup ds)
  | lst {a : Addr} {o : Obj} {vs : List Value} {n : Nat} {ds : List Dat} : R a = some o → (o.cls = .type "list" ∧ o.dict = none) → o.data = .seq vs.toArray n → RdAll R vs ds → Rd R (.ref a) (.lst ds)
  | box {a : Addr} {vs : List Value} {ds : List Dat} : RdAll R vs ds → Rd R (.ref a) (.box a vs ds)
inductive RdAll (R : Reg) : List Value → List Dat → Prop
  | nil : RdAll R [] []
  | cons {v : Value} {vs : List Value} {d : Dat} {ds : List Dat} : Rd R v d → RdAll R vs ds → RdAll R (v :: vs) (d :: ds)
end
mutual
theorem Rd.mono {R R' : Reg} (hs : R.le R') : ∀ {v : Value} {d : Dat}, Rd R v d → Rd R' v d
  | _, _, .none => .none
  | _, _, .bool b => .bool b
  | _, _, .int i t => .int i t
  | _, _, .str x t => .str x t
  | _, _, .val v => .val v
  | _, _, .tup h c e r => .tup (hs _ _ h) c e (RdAll.mono hs r)
  | _, _, .lst h c e r => .lst (hs _ _ h) c e (RdAll.mono hs r)
  | _, _, .box r => .box (RdAll.mono hs r)
theorem RdAll.mono {R R' : Reg} (hs : R.le R') : ∀ {vs : List Value} {ds : List Dat}, RdAll R vs ds → RdAll R' vs ds
  | _, _, .nil => .nil
  | _, _, .cons h r => .cons (Rd.mono hs h) (RdAll.mono hs r)
end
theorem oNS {α : Type} {b : α} (h : (none : Option α) = some b) : False := by cases h
theorem oSN {α : Type} {b : α} (h : some b = (none : Option α)) : False := by cases h
theorem oSS {α : Type} {a b : α} (h : some a = some b) : a = b := Option.some.inj h
theorem vRR {a b : Addr} (h : Value.ref a = Value.ref b) : a = b := by cases h; rfl
theorem Rd.valE {R : Reg} {v w : Value} (h : Rd R v (.val w)) : w = v := by cases h; rfl
theorem Rd.noneE {R : Reg} {v : Value} (h : Rd R v .none) : Value.none = v := by cases h; rfl
theorem Rd.boolE {R : Reg} {v : Value} {b : Bool} (h : Rd R v (.bool b)) : Value.bool b = v := by cases h; rfl
theorem Rd.intE {R : Reg} {v : Value} {i : Int} (h : Rd R v (.int i)) : ∃ t, Value.int i t = v := by cases h; exact ⟨_, rfl⟩
theorem Rd.strE {R : Reg} {v : Value} {x : Str} (h : Rd R v (.str x)) : ∃ t, Value.str x t = v := by cases h; exact ⟨_, rfl⟩
theorem RdAll.nilE {R : Reg} {vs : List Value} (h : RdAll R vs []) : [] = vs := by cases h; rfl
theorem RdAll.consE {R : Reg} {vs : List Value} {d : Dat} {ds : List Dat} (h : RdAll R vs (d :: ds)) : ∃ v ws, v :: ws = vs ∧ Rd R v d ∧ RdAll R ws ds := by
  cases h with
  | cons a b => exact ⟨_, _, rfl, a, b⟩
section
variable {R : Reg} {v : Value} {d : Dat} {vs ws : List Value} {ds es : List Dat}
theorem RdAll.length (h : RdAll R vs ds) : vs.length = ds.length := by
  induction vs generalizing ds with
  | nil => cases h; rfl
  | cons v vs ih =>
    cases h with
    | cons _ r => rw [List.length_cons, List.length_cons, ih r]
theorem RdAll.append (h : RdAll R vs ds) (k : RdAll R ws es) : RdAll R (vs ++ ws) (ds ++ es) := by
  induction vs generalizing ds with
  | nil => cases h; exact k
  | cons v vs ih =>
    cases h with
    | cons h r => exact .cons h (ih r)
theorem RdAll.get (h : RdAll R vs ds) {k : Nat} {d : Dat} (hk : ds[k]? = some d) : ∃ v, vs[k]? = some v ∧ Rd R v d := by
  induction vs generalizing ds k with
  | nil => cases h; (have q_ := oNS hk; clear hk; exact q_.elim)
  | cons v vs ih =>
    cases h with
    | cons h r =>
      cases k with
      | zero => (have q_ := oSS hk; clear hk; subst q_); exact ⟨v, rfl, h⟩
      | succ k => exact ih r hk
theorem RdAll.get' (h : RdAll R vs ds) {k : Nat} {v : Value} (hk : vs[k]? = some v) : ∃ d, ds[k]? = some d ∧ Rd R v d := by
  induction vs generalizing ds k with
  | nil => (have q_ := oNS hk; clear hk; exact q_.elim)
  | cons v vs ih =>
    cases h with
    | cons h r =>
      cases k with
      | zero => (have q_ := oSS hk; clear hk; subst q_); exact ⟨_, rfl, h⟩
      | succ k => exact ih r hk
theorem RdAll.take (h : RdAll R vs ds) (k : Nat) : RdAll R (vs.take k) (ds.take k) := by
  induction vs generalizing ds k with
  | nil => cases h; simp; exact .nil
  | cons v vs ih =>
    cases h with
    | cons h r =>
      cases k with
      | zero => exact .nil
      | succ k => exact .cons h (ih r k)
theorem RdAll.drop (h : RdAll R vs ds) (k : Nat) : RdAll R (vs.drop k) (ds.drop k) := by
  induction vs generalizing ds k with
  | nil => cases h; simp; exact .nil
  | cons v vs ih =>
    cases h with
    | cons h r =>
      cases k with
      | zero => exact .cons h r
      | succ k => exact ih r k
theorem RdAll.set (h : RdAll R vs ds) (k : Nat) (hv : Rd R v d) : RdAll R (vs.set k v) (ds.set k d) := by
  induction vs generalizing ds k with
  | nil => cases h; exact .nil
  | cons w vs ih =>
    cases h with
    | cons h r =>
      cases k with
      | zero => exact .cons hv r
      | succ k => exact .cons h (ih r k)
theorem Rd.ints : ∀ {vs : List Value} {ns : List Int}, RdAll R vs (ns.map Dat.int) → IntsAre vs ns
  | _, [], h => by (have q_ := RdAll.nilE h; clear h; subst q_); exact .nil
  | _, n :: ns, h => by
    cases h with
    | cons h r => (have q_ := Rd.intE h; clear h; obtain ⟨_, rfl⟩ := q_); exact .cons _ _ (Rd.ints r)
theorem Rd.of_ints : ∀ {vs : List Value} {ns : List Int}, IntsAre vs ns → RdAll R vs (ns.map Dat.int)
  | _, _, .nil => .nil
  | _, _, .cons _ _ r => .cons (.int _ _) (Rd.of_ints r)
theorem Rd.isList {h : Heap} {a : Addr} (hR : R.on h) (x : Rd R (.ref a) (.lst ds)) : ∃ vs : List Value, h.IsList a vs.toArray ∧ RdAll R vs ds := by
  cases x with
  | lst e c hd r => exact ⟨_, ⟨_, hR _ _ e, c.1, _, hd⟩, r⟩
theorem Rd.isTuple {h : Heap} {a : Addr} (hR : R.on h) (x : Rd R (.ref a) (.tup ds)) : ∃ vs : List Value, h.IsTuple a vs.toArray ∧ RdAll R vs ds := by
  cases x with
  | tup e c hd r => exact ⟨_, ⟨_, hR _ _ e, c, _, hd⟩, r⟩
theorem Rd.lst_ref (x : Rd R v (.lst ds)) : ∃ a, v = .ref a := by cases x; exact ⟨_, rfl⟩
theorem Rd.tup_ref (x : Rd R v (.tup ds)) : ∃ a, v = .ref a := by cases x; exact ⟨_, rfl⟩
end

end Mine
end
noncomputable section
open PySem PySem.W PyProof.Rows
set_option Elab.async false
set_option autoImplicit false
namespace Mine

theorem Keeps.hle {s s' : Shared} (k : Keeps s s') : hle s.heap s'.heap := by
  obtain ⟨h', tk, rfl, e⟩ := k; exact e
theorem Keeps.rfl' (s : Shared) : Keeps s s := ⟨s.heap, s.toks, rfl, fun _ _ e => e⟩
theorem Keeps.tr {s s' s'' : Shared} (k : Keeps s s') (k' : Keeps s' s'') : Keeps s s'' := by
  obtain ⟨h', tk, rfl, e⟩ := k
  obtain ⟨h'', tk', rfl, e'⟩ := k'
  exact ⟨h'', tk', rfl, fun b o x => e' b o (e b o x)⟩
theorem Keeps.toks (s : Shared) (t : Nat) : Keeps s { s with toks := t } := ⟨s.heap, t, rfl, fun _ _ e => e⟩
theorem Keeps.push (s : Shared) (o : Obj) : Keeps s { s with heap := s.heap.push o } := ⟨_, s.toks, rfl, fun _ _ e => Heap.get?_push_of_some _ e⟩
theorem fresh_none {h : Heap} : h.get? h.objs.size = none := by
  cases e : h.get? h.objs.size with
  | none => rfl
  | some o => exact absurd (Heap.lt_size e) (Nat.lt_irrefl _)

noncomputable abbrev noM : Reg := fun _ => none
/-! the context: the program, the world, the heap that the law was called on -/
structure Cx where
  prog : Program
  w : World
  h₀ : Heap
  mu : Reg
noncomputable abbrev Cx.at (C : Cx) (mu : Reg) : Cx := { C with mu := mu }
noncomputable abbrev Cx.M (C : Cx) : Model := model C.prog C.w

structure Rok (C : Cx) (R : Reg) (h : Heap) : Prop where
  base : Reg.le C.h₀.get? R
  on : R.on h
  mu : C.mu.on h
theorem Rok.ext {C : Cx} {R : Reg} {h h' : Heap} (x : Rok C R h) (y : hle h h') : Rok C (R.ext h h') h' :=
  ⟨x.base.trans (Reg.ext_le x.on), Reg.ext_on x.on y, x.mu.hle y⟩
theorem Rok.nomu {C : Cx} {R : Reg} {h : Heap} (x : Rok C R h) : Rok (C.at noM) R h := ⟨x.base, x.on, fun _ _ e => nomatch e⟩
theorem Rok.hle0 {C : Cx} {R : Reg} {h : Heap} (x : Rok C R h) : hle C.h₀ h := fun a o e => x.on a o (x.base a o e)

structure Room (n : Nat) (A : Around) : Prop where
  handled : A.handled = none
  depth : A.depth + n ≤ 900
  units : A.units + 10 * n ≤ 9000
theorem Room.le {n k : Nat} {A : Around} (r : Room n A) (h : k ≤ n) : Room k A := ⟨r.handled, by have := r.depth; omega, by have := r.units; omega⟩
theorem Room.in1 {n : Nat} {A : Around} (r : Room (n + 1) A) : Room n A.in1 := ⟨r.handled, by have := r.depth; simp only [Around.in1_depth]; omega, by have := r.units; simp only [Around.in1_units]; omega⟩
theorem Room.deeper {n : Nat} {A : Around} {env : Env} (r : Room (n + 1) A) : Room n (A.deeper env) :=
  ⟨r.handled, by have := r.depth; simp only [Around.deeper]; omega, by have := r.units; simp only [Around.deeper_units]; omega⟩
theorem Room.lt {n : Nat} {A : Around} (r : Room n A) : A.depth < recursionLimit := by have := r.depth; simp only [recursionLimit]; omega
theorem Room.ult {n : Nat} {A : Around} (r : Room n A) : A.units < cLine := by have := r.units; simp only [cLine]; omega
theorem Room.ult1 {n : Nat} {A : Around} (r : Room n A) : A.in1.units < cLine := by have := r.units; simp only [cLine, Around.in1_units]; omega

noncomputable def Post (s : Shared) (R : Reg) (d : Dat) : Value → Shared → Prop := fun v s' => Keeps s s' ∧ Rd (R.ext s.heap s'.heap) v d
theorem Post.step {s s₁ s₂ : Shared} {R : Reg} {d : Dat} {v : Value} (k : Keeps s s₁) (p : Post s₁ (R.ext s.heap s₁.heap) d v s₂) : Post s R d v s₂ :=
  ⟨Keeps.tr k p.1, p.2.mono (Reg.ext_ext (Keeps.hle k) (Keeps.hle p.1))⟩
theorem Post.pure {C : Cx} {s : Shared} {R : Reg} {d : Dat} {v : Value} (x : Rok C R s.heap) (h : Rd R v d) : Post s R d v s := ⟨Keeps.rfl' s, h.mono (Reg.ext_le x.on)⟩

/- nothing is raised -/
noncomputable abbrev NoE : Value → Shared → Prop := fun _ _ => False
theorem noE {α : Type} {M : Model} {A : Around} {t : Sem α} {Q Q' : α → Shared → Prop} {E : Value → Shared → Prop} {s : Shared} (h : wpAny M A t Q NoE s) (hQ : ∀ a s', Q a s' → Q' a s') : wpAny M A t Q' E s :=
  wpAny_mono h hQ fun _ _ f => f.elim

/-! variables -/
noncomputable def Var (env : Env) (h : Heap) (x : Str) (v : Value) : Prop :=
  (env.kindOf x = some .local ∧ ∃ m, h.Ns env.locals m ∧ m x = some v) ∨
  (env.kindOf x = some .cell ∧ ∃ c, env.cells.lookup x = some c ∧ h.IsCell c (some v)) ∨
  (env.kindOf x = some .free ∧ ∃ c, env.cells.lookup x = some c ∧ h.IsCell c (some v))
theorem Var.keeps {env : Env} {h h' : Heap} {x : Str} {v : Value} (y : Var env h x v) (k : hle h h') : Var env h' x v := by
  rcases y with ⟨a, m, b, c⟩ | ⟨a, c, b, d⟩ | ⟨a, c, b, d⟩
  · exact .inl ⟨a, m, b.keeps k, c⟩
  · exact .inr (.inl ⟨a, c, b, d.keeps k⟩)
  · exact .inr (.inr ⟨a, c, b, d.keeps k⟩)

noncomputable abbrev Vars := Str → Option Dat
structure EnvOk (sc : Scope) (env : Env) (h : Heap) (R : Reg) (Δ : Vars) : Prop where
  hsc : env.scope = sc
  fn : sc.kind = .function
  gl : env.globals = mainGlobals
  bl : env.builtins = builtinsNs
  vars : ∀ x d, Δ x = some d → ∃ v, Var env h x v ∧ Rd R v d
theorem EnvOk.keeps {sc : Scope} {env : Env} {h h' : Heap} {R R' : Reg} {Δ : Vars} (x : EnvOk sc env h R Δ) (k : hle h h') (l : R.le R') : EnvOk sc env h' R' Δ :=
  ⟨x.hsc, x.fn, x.gl, x.bl, fun y d e => let ⟨v, a, b⟩ := x.vars y d e; ⟨v, a.keeps k, b.mono l⟩⟩
theorem EnvOk.ext {C : Cx} {sc : Scope} {env : Env} {h h' : Heap} {R : Reg} {Δ : Vars} (x : EnvOk sc env h R Δ) (r : Rok C R h) (k : hle h h') : EnvOk sc env h' (R.ext h h') Δ := x.keeps k (Reg.ext_le r.on)

/-! the judgement: expression e evaluates to data d, and nothing old is changed -/
noncomputable def Ev (C : Cx) (n : Nat) (sc : Scope) (Δ : Vars) (e : Expr) (d : Dat) : Prop :=
  ∀ A env s R, Room n A → Rok C R s.heap → EnvOk sc env s.heap R Δ → wpAny C.M A (eval e env) (Post s R d) NoE s
noncomputable def EvT (C : Cx) (n : Nat) (sc : Scope) (Δ : Vars) (e : Expr) (b : Bool) : Prop :=
  ∀ A env s R, Room n A → Rok C R s.heap → EnvOk sc env s.heap R Δ → wpAny C.M A (isTrue e env (eval e env)) (fun c s' => Keeps s s' ∧ c = b) NoE s
/- an operation upon two data -/
noncomputable def Op2 (C : Cx) (n : Nat) (t : Value → Value → Sem Value) (d₁ d₂ d : Dat) : Prop :=
  ∀ A s R v₁ v₂, Room n A → Rok C R s.heap → Rd R v₁ d₁ → Rd R v₂ d₂ → wpAny C.M A (t v₁ v₂) (Post s R d) NoE s
noncomputable def Op1 (C : Cx) (n : Nat) (t : Value → Sem Value) (d₁ d : Dat) : Prop :=
  ∀ A s R v₁, Room n A → Rok C R s.heap → Rd R v₁ d₁ → wpAny C.M A (t v₁) (Post s R d) NoE s

section
variable {C : Cx} {n : Nat} {sc : Scope} {Δ : Vars}

theorem Ev.le {k : Nat} {e : Expr} {d : Dat} (h : Ev C k sc Δ e d) (hk : k ≤ n) : Ev C n sc Δ e d := fun A env s R r => h A env s R (r.le hk)
theorem EvT.le {k : Nat} {e : Expr} {b : Bool} (h : EvT C k sc Δ e b) (hk : k ≤ n) : EvT C n sc Δ e b := fun A env s R r => h A env s R (r.le hk)

theorem wpAny_var {A : Around} {E : Value → Shared → Prop} {s : Shared} {env : Env} {x : Str} {v : Value} {Q : Value → Shared → Prop} (hk : env.scope.kind = .function) (h : Var env s.heap x v) (hQ : Q v s) (hn : (x == ("__classdict__" : Str)) = false) :
    wpAny C.M A (loadName env x) Q E s := by
  rcases h with ⟨a, m, b, c⟩ | ⟨a, c, b, d⟩ | ⟨a, c, b, d⟩
  · exact wpAny_loadName_local hk a b c hQ
  · exact wpAny_loadName_cell hk a b d hQ
  · exact wpAny_loadName_free hk a b d hQ hn

theorem ev_name {x : Str} {p : Pos} {d : Dat} (h : Δ x = some d) (hx : ((x == ("__debug__" : Str)) || (x == ("__classdict__" : Str))) = false := by decide +kernel) : Ev C n sc Δ (.Name x p) d := by
  intro A env s R r ro eo
  obtain ⟨v, hv, hd⟩ := eo.vars x d h
  obtain ⟨h1, h2⟩ := Bool.or_eq_false_iff.mp hx
  exact wpAny_Name (wpAny_var (eo.hsc ▸ eo.fn) hv (Post.pure ro hd) h2) h1

/- a name of the module or a built-in name -/
noncomputable def GlobIs (C : Cx) (x : Str) (v : Value) : Prop :=
  ∀ A env s (Q : Value → Shared → Prop) E, env.scope.kind = .function → env.kindOf x = some .globalImplicit → env.globals = mainGlobals → env.builtins = builtinsNs → hle C.h₀ s.heap → Q v s → wpAny C.M A (loadName env x) Q E s
theorem ev_glob {x : Str} {p : Pos} {v : Value} (g : GlobIs C x v) (hk : sc.names.lookup x = some .globalImplicit) (hx : (x == ("__debug__" : Str)) = false := by decide +kernel) : Ev C n sc Δ (.Name x p) (.val v) := by
  intro A env s R r ro eo
  exact wpAny_Name (g A env s _ _ (eo.hsc ▸ eo.fn) (by rw [← eo.hsc] at hk; exact hk) eo.gl eo.bl ro.hle0 (Post.pure ro (.val v))) hx

theorem ev_int {i : Int} {k : Nat} {p : Pos} : Ev C n sc Δ (.Constant (.int i) k p) (.int i) := by
  intro A env s R r ro eo
  exact wpAny_Constant_int ⟨Keeps.toks _ _, .int _ _⟩
theorem ev_none {k : Nat} {p : Pos} : Ev C n sc Δ (.Constant .none k p) .none := by
  intro A env s R r ro eo
  exact wpAny_Constant_none ⟨Keeps.rfl' _, .none⟩
theorem ev_bool {b : Bool} {k : Nat} {p : Pos} : Ev C n sc Δ (.Constant (.bool b) k p) (.bool b) := by
  intro A env s R r ro eo
  exact wpAny_Constant_bool ⟨Keeps.rfl' _, .bool _⟩
theorem ev_str {x : Str} {k : Nat} {p : Pos} : Ev C n sc Δ (.Constant (.str x) k p) (.str x) := by
  intro A env s R r ro eo
  exact wpAny_Constant_str ⟨Keeps.toks _ _, .str _ _⟩

/- two expressions, then an operation -/
theorem ev2 {l r : Expr} {d₁ d₂ d : Dat} {t : Value → Value → Sem Value} {A : Around} {env : Env} {s : Shared} {R : Reg} (h₁ : Ev C n sc Δ l d₁) (h₂ : Ev C n sc Δ r d₂) (ho : Op2 C n t d₁ d₂ d)
    (rm : Room n A) (ro : Rok C R s.heap) (eo : EnvOk sc env s.heap R Δ) :
    wpAny C.M A (eval l env) (fun a s₁ => wpAny C.M A (eval r env) (fun b s₂ => wpAny C.M A (t a b) (Post s R d) NoE s₂) NoE s₁) NoE s := by
  refine noE (h₁ A env s R rm ro eo) fun a s₁ p₁ => ?_
  have k₁ := Keeps.hle p₁.1
  refine noE (h₂ A env s₁ _ rm (ro.ext k₁) (eo.ext ro k₁)) fun b s₂ p₂ => ?_
  have p₂' := Post.step p₁.1 p₂
  have k₂ := Keeps.hle p₂'.1
  refine noE (ho A s₂ _ a b rm (ro.ext k₂) (p₁.2.mono (Reg.ext_step k₁ (Keeps.hle p₂.1))) p₂'.2) fun v s₃ p₃ => Post.step p₂'.1 p₃

theorem ev_bin {l r : Expr} {op : Operator} {p : Pos} {d₁ d₂ d : Dat} (h₁ : Ev C n sc Δ l d₁) (h₂ : Ev C n sc Δ r d₂) (ho : Op2 C n (binaryOp op) d₁ d₂ d) : Ev C n sc Δ (.BinOp l op r p) d := by
  intro A env s R rm ro eo
  exact wpAny_BinOp (ev2 h₁ h₂ ho rm ro eo)
theorem ev_cmp {l r : Expr} {op : CmpOp} {p : Pos} {d₁ d₂ d : Dat} (h₁ : Ev C n sc Δ l d₁) (h₂ : Ev C n sc Δ r d₂) (ho : Op2 C n (compareOp op) d₁ d₂ d) (hm : behindInMarks op r = false := by rfl) : Ev C n sc Δ (.Compare l [op] [r] p) d := by
  intro A env s R rm ro eo
  exact wpAny_Compare1 (ev2 h₁ h₂ ho rm ro eo) hm
theorem evT_cmp {l r : Expr} {op : CmpOp} {p : Pos} {d₁ d₂ : Dat} {b : Bool} (h₁ : Ev C n sc Δ l d₁) (h₂ : Ev C n sc Δ r d₂) (ho : Op2 C n (compareOp op) d₁ d₂ (.bool b)) (hm : behindInMarks op r = false := by rfl) : EvT C n sc Δ (.Compare l [op] [r] p) b := by
  intro A env s R rm ro eo
  refine wpAny_isTrue_Compare1 (wpAny_mono (ev2 h₁ h₂ ho rm ro eo) (fun a s₁ q => wpAny_mono q (fun a₂ s₂ q₂ => wpAny_mono q₂ (fun v s₃ q₃ => ?_) fun _ _ f => f) fun _ _ f => f) fun _ _ f => f) hm
  obtain ⟨k, hr⟩ := q₃
  (have q_ := Rd.boolE hr; clear hr; subst q_)
  exact wpAny_truthy_bool ⟨k, rfl⟩
theorem ev_un {x : Expr} {op : UnaryOp} {p : Pos} {d₁ d : Dat} (h₁ : Ev C n sc Δ x d₁) (ho : Op1 C n (unaryOp op) d₁ d) : Ev C n sc Δ (.UnaryOp op x p) d := by
  intro A env s R rm ro eo
  refine wpAny_UnaryOp (noE (h₁ A env s R rm ro eo) fun a s₁ p₁ => ?_)
  have k₁ := Keeps.hle p₁.1
  exact noE (ho A s₁ _ a rm (ro.ext k₁) p₁.2) fun v s₃ p₃ => Post.step p₁.1 p₃
theorem evT_plain {e : Expr} {d : Dat} {b : Bool} (h : Ev C n sc Δ e d) (ht : ∀ A s R v, Room n A → Rok C R s.heap → Rd R v d → wpAny C.M A (truthy v) (fun c s' => Keeps s s' ∧ c = b) NoE s)
    (he : ∀ env whole, isTrue e env whole = (do let v ← whole; standAt e.pos; holding [v] (truthy v)) := by intro _ _; rfl) : EvT C n sc Δ e b := by
  intro A env s R rm ro eo
  refine wpAny_isTrue_value (noE (h A env s R rm ro eo) fun a s₁ p₁ => ?_) (he _ _)
  have k₁ := Keeps.hle p₁.1
  exact noE (ht A s₁ _ a rm (ro.ext k₁) p₁.2) fun v s₃ p₃ => ⟨Keeps.tr p₁.1 p₃.1, p₃.2⟩
theorem evT_not {x : Expr} {p : Pos} {b : Bool} (h : EvT C n sc Δ x b) : EvT C n sc Δ (.UnaryOp .Not x p) (!b) := by
  intro A env s R rm ro eo
  exact wpAny_isTrue_Not (noE (h A env s R rm ro eo) fun a s₁ p₁ => ⟨p₁.1, by rw [p₁.2]⟩)
theorem ev_ifexp {t a b : Expr} {p : Pos} {c : Bool} {d : Dat} (ht : EvT C n sc Δ t c) (ha : c = true → Ev C n sc Δ a d) (hb : c = false → Ev C n sc Δ b d) : Ev C n sc Δ (.IfExp t a b p) d := by
  intro A env s R rm ro eo
  refine wpAny_IfExp (noE (ht A env s R rm ro eo) fun c' s₁ p₁ => ?_)
  have k₁ := Keeps.hle p₁.1
  have e := p₁.2
  subst e
  cases c' with
  | true => exact noE (ha rfl A env s₁ _ rm (ro.ext k₁) (eo.ext ro k₁)) fun v s₃ p₃ => Post.step p₁.1 p₃
  | false => exact noE (hb rfl A env s₁ _ rm (ro.ext k₁) (eo.ext ro k₁)) fun v s₃ p₃ => Post.step p₁.1 p₃
end

/-! ints -/
section
variable {C : Cx} {n : Nat} {a b : Int}
theorem Op2.ofInt {t : Value → Value → Sem Value} {c : Int} (h : ∀ A s t₁ t₂ Q, Room n A → hle C.h₀ s.heap → Q (.int c s.toks) { s with toks := s.toks + 1 } → wpAny C.M A (t (.int a t₁) (.int b t₂)) Q NoE s) : Op2 C n t (.int a) (.int b) (.int c) := by
  intro A s R v₁ v₂ rm ro h₁ h₂
  (have q_ := Rd.intE h₁; clear h₁; obtain ⟨_, rfl⟩ := q_); (have q_ := Rd.intE h₂; clear h₂; obtain ⟨_, rfl⟩ := q_)
  exact h A s _ _ _ rm ro.hle0 ⟨Keeps.toks _ _, .int _ _⟩
theorem Op2.ofBool {t : Value → Value → Sem Value} {c : Bool} (h : ∀ A s t₁ t₂ Q, Q (.bool c) s → wpAny C.M A (t (.int a t₁) (.int b t₂)) Q NoE s) : Op2 C n t (.int a) (.int b) (.bool c) := by
  intro A s R v₁ v₂ rm ro h₁ h₂
  (have q_ := Rd.intE h₁; clear h₁; obtain ⟨_, rfl⟩ := q_); (have q_ := Rd.intE h₂; clear h₂; obtain ⟨_, rfl⟩ := q_)
  exact h A s _ _ _ ⟨Keeps.rfl' _, .bool _⟩
theorem op_add : Op2 C n (binaryOp .Add) (.int a) (.int b) (.int (a + b)) := Op2.ofInt fun _ _ _ _ _ _ _ q => add_int q
theorem op_sub : Op2 C n (binaryOp .Sub) (.int a) (.int b) (.int (a - b)) := Op2.ofInt fun _ _ _ _ _ _ _ q => sub_int q
theorem op_mul (h : IntMulOk a b) : Op2 C n (binaryOp .Mult) (.int a) (.int b) (.int (a * b)) := Op2.ofInt fun _ _ _ _ _ _ _ q => mul_int q h
theorem op_mod (h : b ≠ 0) : Op2 C n (binaryOp .Mod) (.int a) (.int b) (.int (a.fmod b)) := Op2.ofInt fun _ _ _ _ _ _ _ q => mod_int' h q
theorem op_div (h : b ≠ 0) (hs : b.natAbs < 1073741824) : Op2 C n (binaryOp .FloorDiv) (.int a) (.int b) (.int (a.fdiv b)) := Op2.ofInt fun _ _ _ _ _ _ _ q => floordiv_int h q (Or.inl (PyProof.noPylong_small hs))
theorem op_pow (h : 0 ≤ b) (h2 : b ≤ 1000000) (ha : a.natAbs < 2 ^ 64) : Op2 C n (binaryOp .Pow) (.int a) (.int b) (.int (a ^ b.toNat)) := Op2.ofInt fun _ _ _ _ _ _ _ q => pow_int_small h h2 ha q
theorem op_rsh (h : 0 ≤ b) : Op2 C n (binaryOp .RShift) (.int a) (.int b) (.int (a.fdiv (2 ^ b.toNat))) := Op2.ofInt fun _ _ _ _ _ _ _ q => rshift_int h q
theorem op_and : Op2 C n (binaryOp .BitAnd) (.int a) (.int b) (.int (Builtin.bitAnd a b)) := Op2.ofInt fun _ _ _ _ _ _ _ q => and_int q
theorem op_iadd : Op2 C n (inplaceOp .Add) (.int a) (.int b) (.int (a + b)) := Op2.ofInt fun _ _ _ _ _ _ _ q => iadd_int q
theorem op_isub : Op2 C n (inplaceOp .Sub) (.int a) (.int b) (.int (a - b)) := Op2.ofInt fun _ _ _ _ _ _ _ q => isub_int q
theorem op_lt : Op2 C n (compareOp .Lt) (.int a) (.int b) (.bool (decide (a < b))) := Op2.ofBool fun _ _ _ _ _ q => lt_int q
theorem op_neg : Op1 C n (unaryOp .USub) (.int a) (.int (-a)) := by
  intro A s R v₁ rm ro h₁
  (have q_ := Rd.intE h₁; clear h₁; obtain ⟨_, rfl⟩ := q_)
  exact neg_int ⟨Keeps.toks _ _, .int _ _⟩
end
end Mine
end
noncomputable section
open PySem PySem.W PyProof.Rows PySem.SeqAt PySem.MeetsSeq
set_option Elab.async false
set_option autoImplicit false
namespace Mine

/- data without opaque values, of a depth at most k -/
noncomputable def Plain : Nat → Dat → Prop
  | _, .none => True
  | _, .bool _ => True
  | _, .int _ => True
  | _, .str _ => True
  | k + 1, .tup ds => ∀ d ∈ ds, Plain k d
  | k + 1, .lst ds => ∀ d ∈ ds, Plain k d
  | _, _ => False
theorem RdAll.mem {R : Reg} {vs : List Value} {ds : List Dat} (h : RdAll R vs ds) {v : Value} (hv : v ∈ vs) : ∃ d ∈ ds, Rd R v d := by
  obtain ⟨k, hk⟩ := List.mem_iff_getElem?.mp hv
  obtain ⟨d, hd, hr⟩ := h.get' hk
  exact ⟨d, List.mem_of_getElem? hd, hr⟩
theorem all_range_true (n : Nat) : (List.range n).all (fun _ => true) = true := by simp
section
variable {R : Reg} {s : Shared}
theorem eq_same : ∀ (k : Nat) (d : Dat), Plain k d → R.on s.heap → ∀ (A : Around) (v v' : Value), A.units + k < cLine → Rd R v d → Rd R v' d → EqAt A s v v' true
  | _, .none, _, _, _, _, _, _, h, h' => by (have q_ := Rd.noneE h; clear h; subst q_); (have q_ := Rd.noneE h'; clear h'; subst q_); exact EqAt.same _
  | _, .bool b, _, _, _, _, _, _, h, h' => by (have q_ := Rd.boolE h; clear h; subst q_); (have q_ := Rd.boolE h'; clear h'; subst q_); exact EqAt.same _
  | _, .int i, _, _, _, _, _, _, h, h' => by
    (have q_ := Rd.intE h; clear h; obtain ⟨_, rfl⟩ := q_); (have q_ := Rd.intE h'; clear h'; obtain ⟨_, rfl⟩ := q_)
    have := EqAt.int_int (A := ‹Around›) (s := s) i ‹Tok› i ‹Tok›
    simpa using EqAt.int_int (s := s) i _ i _
  | _, .str x, _, _, _, _, _, _, h, h' => by
    (have q_ := Rd.strE h; clear h; obtain ⟨_, rfl⟩ := q_); (have q_ := Rd.strE h'; clear h'; obtain ⟨_, rfl⟩ := q_)
    simpa using EqAt.str_str (s := s) x _ x _
  | _, .val _, p, _, _, _, _, _, _, _ => by simp [Plain] at p
  | _, .box _ _ _, p, _, _, _, _, _, _, _ => by simp [Plain] at p
  | 0, .tup ds, p, _, _, _, _, _, _, _ => by simp [Plain] at p
  | 0, .lst ds, p, _, _, _, _, _, _, _ => by simp [Plain] at p
  | k + 1, .tup ds, p, ro, A, _, _, hu, h, h' => by
    simp only [Plain] at p
    obtain ⟨a, rfl⟩ := h.tup_ref
    obtain ⟨b, rfl⟩ := h'.tup_ref
    by_cases e : a = b
    · subst e; exact EqAt.same _
    · obtain ⟨vs, t, r⟩ := h.isTuple ro
      obtain ⟨ws, t', r'⟩ := h'.isTuple ro
      have hl : vs.length = ws.length := r.length.trans r'.length.symm
      have := RcAt.tuples (A := A) (e := fun _ => true) t t' (by omega) (fun j h1 h2 => by
        have hv : vs[j]? = some (vs.toArray[j]) := by simp at h1; simp [h1]
        have hw : ws[j]? = some (ws.toArray[j]) := by simp at h2; simp [h2]
        obtain ⟨d, hd, x⟩ := r.get' hv
        obtain ⟨d', hd', x'⟩ := r'.get' hw
        rw [hd] at hd'; (have q_ := oSS hd'; clear hd'; subst q_)
        exact eq_same k d (p d (List.mem_of_getElem? hd)) ro A.in1 _ _ (by simp only [Around.in1_units]; omega) x x')
      refine EqAt.of_refs e ?_
      rw [all_range_true] at this
      simpa [hl] using this
  | k + 1, .lst ds, p, ro, A, _, _, hu, h, h' => by
    simp only [Plain] at p
    obtain ⟨a, rfl⟩ := h.lst_ref
    obtain ⟨b, rfl⟩ := h'.lst_ref
    by_cases e : a = b
    · subst e; exact EqAt.same _
    · obtain ⟨vs, t, r⟩ := h.isList ro
      obtain ⟨ws, t', r'⟩ := h'.isList ro
      have hl : vs.length = ws.length := r.length.trans r'.length.symm
      have := RcAt.lists (A := A) (e := fun _ => true) t t' (by simpa using hl) (by omega) (fun j h1 h2 => by
        have hv : vs[j]? = some (vs.toArray[j]) := by simp at h1; simp [h1]
        have hw : ws[j]? = some (ws.toArray[j]) := by simp at h2; simp [h2]
        obtain ⟨d, hd, x⟩ := r.get' hv
        obtain ⟨d', hd', x'⟩ := r'.get' hw
        rw [hd] at hd'; (have q_ := oSS hd'; clear hd'; subst q_)
        exact eq_same k d (p d (List.mem_of_getElem? hd)) ro A.in1 _ _ (by simp only [Around.in1_units]; omega) x x')
      refine EqAt.of_refs e ?_
      rw [all_range_true] at this
      exact this
end

section
variable {C : Cx} {n : Nat}
theorem Room.k {n : Nat} {A : Around} (r : Room n A) {k : Nat} (hk : k ≤ 100) : A.units + k < cLine := by have := r.units; simp only [cLine]; omega

/- two lists of like data are equal -/
theorem op_eq_lst {k : Nat} {ds : List Dat} (p : Plain (k + 1) (.lst ds)) (hk : k ≤ 90) : Op2 C n (compareOp .Eq) (.lst ds) (.lst ds) (.bool true) := by
  intro A s R v₁ v₂ rm ro h₁ h₂
  obtain ⟨a, rfl⟩ := h₁.lst_ref
  obtain ⟨b, rfl⟩ := h₂.lst_ref
  obtain ⟨vs, t, r⟩ := h₁.isList ro.on
  obtain ⟨ws, t', r'⟩ := h₂.isList ro.on
  simp only [Plain] at p
  refine eq_listAt (e := fun _ => true) t t' (by simpa using r.length.trans r'.length.symm) rm.ult (fun j h1 h2 => ?_) ?_
  · have hv : vs[j]? = some (vs.toArray[j]) := by simp at h1; simp [h1]
    have hw : ws[j]? = some (ws.toArray[j]) := by simp at h2; simp [h2]
    obtain ⟨d, hd, x⟩ := r.get' hv
    obtain ⟨d', hd', x'⟩ := r'.get' hw
    rw [hd] at hd'; (have q_ := oSS hd'; clear hd'; subst q_)
    exact eq_same k d (p d (List.mem_of_getElem? hd)) ro.on A.in1 _ _ (by have := rm.k (k := k + 1) (by omega); simp only [Around.in1_units]; omega) x x'
  · rw [all_range_true]; exact ⟨Keeps.rfl' _, .bool _⟩
theorem op_eq_tup {k : Nat} {ds : List Dat} (p : Plain (k + 1) (.tup ds)) (hk : k ≤ 90) : Op2 C n (compareOp .Eq) (.tup ds) (.tup ds) (.bool true) := by
  intro A s R v₁ v₂ rm ro h₁ h₂
  obtain ⟨a, rfl⟩ := h₁.tup_ref
  obtain ⟨b, rfl⟩ := h₂.tup_ref
  obtain ⟨vs, t, r⟩ := h₁.isTuple ro.on
  obtain ⟨ws, t', r'⟩ := h₂.isTuple ro.on
  simp only [Plain] at p
  refine eq_tupleAt (e := fun _ => true) t t' rm.ult (fun j h1 h2 => ?_) ?_
  · have hv : vs[j]? = some (vs.toArray[j]) := by simp at h1; simp [h1]
    have hw : ws[j]? = some (ws.toArray[j]) := by simp at h2; simp [h2]
    obtain ⟨d, hd, x⟩ := r.get' hv
    obtain ⟨d', hd', x'⟩ := r'.get' hw
    rw [hd] at hd'; (have q_ := oSS hd'; clear hd'; subst q_)
    exact eq_same k d (p d (List.mem_of_getElem? hd)) ro.on A.in1 _ _ (by have := rm.k (k := k + 1) (by omega); simp only [Around.in1_units]; omega) x x'
  · rw [all_range_true]
    have : vs.toArray.size = ws.toArray.size := by simpa using r.length.trans r'.length.symm
    rw [this]; simp only [beq_self_eq_true, Bool.and_self]; exact ⟨Keeps.rfl' _, .bool _⟩
theorem op_ne_lst {k : Nat} {ds : List Dat} (p : Plain (k + 1) (.lst ds)) (hk : k ≤ 90) : Op2 C n (compareOp .NotEq) (.lst ds) (.lst ds) (.bool false) := by
  intro A s R v₁ v₂ rm ro h₁ h₂
  obtain ⟨a, rfl⟩ := h₁.lst_ref
  obtain ⟨b, rfl⟩ := h₂.lst_ref
  obtain ⟨vs, t, r⟩ := h₁.isList ro.on
  obtain ⟨ws, t', r'⟩ := h₂.isList ro.on
  simp only [Plain] at p
  refine RcNeAt.lists (e := fun _ => true) t t' (by simpa using r.length.trans r'.length.symm) rm.ult (fun j h1 h2 => ?_) _ _ _ _ ?_
  · have hv : vs[j]? = some (vs.toArray[j]) := by simp at h1; simp [h1]
    have hw : ws[j]? = some (ws.toArray[j]) := by simp at h2; simp [h2]
    obtain ⟨d, hd, x⟩ := r.get' hv
    obtain ⟨d', hd', x'⟩ := r'.get' hw
    rw [hd] at hd'; (have q_ := oSS hd'; clear hd'; subst q_)
    exact eq_same k d (p d (List.mem_of_getElem? hd)) ro.on A.in1 _ _ (by have := rm.k (k := k + 1) (by omega); simp only [Around.in1_units]; omega) x x'
  · rw [all_range_true]; exact ⟨Keeps.rfl' _, .bool _⟩
/- a list against the empty one -/
theorem op_eq_nil {ds : List Dat} : Op2 C n (compareOp .Eq) (.lst ds) (.lst []) (.bool ds.isEmpty) := by
  intro A s R v₁ v₂ rm ro h₁ h₂
  obtain ⟨a, rfl⟩ := h₁.lst_ref
  obtain ⟨b, rfl⟩ := h₂.lst_ref
  obtain ⟨vs, t, r⟩ := h₁.isList ro.on
  obtain ⟨ws, t', r'⟩ := h₂.isList ro.on
  (have q_ := RdAll.nilE r'; clear r'; subst q_)
  cases r with
  | nil => exact eq_listAt (e := fun _ => true) t t' rfl rm.ult (fun j h1 _ => absurd h1 (Nat.not_lt_zero _)) ⟨Keeps.rfl' _, .bool _⟩
  | cons x r => exact eq_list_lengthsAt t t' (by simp) rm.ult ⟨Keeps.rfl' _, .bool _⟩
theorem op_ne_nil {ds : List Dat} : Op2 C n (compareOp .NotEq) (.lst ds) (.lst []) (.bool (!ds.isEmpty)) := by
  intro A s R v₁ v₂ rm ro h₁ h₂
  obtain ⟨a, rfl⟩ := h₁.lst_ref
  obtain ⟨b, rfl⟩ := h₂.lst_ref
  obtain ⟨vs, t, r⟩ := h₁.isList ro.on
  obtain ⟨ws, t', r'⟩ := h₂.isList ro.on
  (have q_ := RdAll.nilE r'; clear r'; subst q_)
  cases r with
  | nil => exact RcNeAt.lists (e := fun _ => true) t t' rfl rm.ult (fun j h1 _ => absurd h1 (Nat.not_lt_zero _)) _ _ _ _ ⟨Keeps.rfl' _, .bool _⟩
  | cons x r => exact RcNeAt.lists_lengths t t' (by simp) rm.ult _ _ _ _ ⟨Keeps.rfl' _, .bool _⟩
theorem op_eq_int {a b : Int} : Op2 C n (compareOp .Eq) (.int a) (.int b) (.bool (a == b)) := Op2.ofBool fun _ _ _ _ _ q => eq_int q
theorem op_ne_int {a b : Int} : Op2 C n (compareOp .NotEq) (.int a) (.int b) (.bool (a != b)) := Op2.ofBool fun _ _ _ _ _ q => ne_int q

/- membership: x among ints -/
theorem any_ints {R : Reg} {vs : List Value} {ns : List Int} (x : Int) (h : RdAll R vs (ns.map Dat.int)) : vs.any (fun v => match v with | .int i _ => i == x | _ => false) = ns.contains x := by
  induction ns generalizing vs with
  | nil => (have q_ := RdAll.nilE h; clear h; subst q_); rfl
  | cons m ms ih =>
    cases h with
    | cons h r =>
      (have q_ := Rd.intE h; clear h; obtain ⟨_, rfl⟩ := q_)
      rw [List.any_cons, ih r, List.contains_cons]
      simp only [Bool.beq_comm]
theorem op_in_ints {x : Int} {ns : List Int} : Op2 C n (compareOp .In) (.int x) (.lst (ns.map Dat.int)) (.bool (ns.contains x)) := by
  intro A s R v₁ v₂ rm ro h₁ h₂
  obtain ⟨b, rfl⟩ := h₂.lst_ref
  obtain ⟨vs, t, r⟩ := h₂.isList ro.on
  cases h₁ with
  | int _ t₁ =>
    refine in_listAt (fun v => match v with | .int i _ => i == x | _ => false) t (fun y hy => ?_) ?_
    · obtain ⟨d, hd, hr⟩ := r.mem (by simpa using hy)
      obtain ⟨i, _, rfl⟩ := List.mem_map.mp hd
      (have q_ := Rd.intE hr; clear hr; obtain ⟨_, rfl⟩ := q_)
      exact EqAt.int_int _ _ _ _
    · have := any_ints x r
      simp only [List.any_toArray, this]; exact ⟨Keeps.rfl' _, .bool _⟩
theorem op_notin_ints {x : Int} {ns : List Int} : Op2 C n (compareOp .NotIn) (.int x) (.lst (ns.map Dat.int)) (.bool (!ns.contains x)) := by
  intro A s R v₁ v₂ rm ro h₁ h₂
  obtain ⟨b, rfl⟩ := h₂.lst_ref
  obtain ⟨vs, t, r⟩ := h₂.isList ro.on
  cases h₁ with
  | int _ t₁ =>
    refine notIn_listAt (fun v => match v with | .int i _ => i == x | _ => false) t (fun y hy => ?_) ?_
    · obtain ⟨d, hd, hr⟩ := r.mem (by simpa using hy)
      obtain ⟨i, _, rfl⟩ := List.mem_map.mp hd
      (have q_ := Rd.intE hr; clear hr; obtain ⟨_, rfl⟩ := q_)
      exact EqAt.int_int _ _ _ _
    · have := any_ints x r
      simp only [List.any_toArray, this]; exact ⟨Keeps.rfl' _, .bool _⟩
end

/-! displays -/
noncomputable def EvAll (C : Cx) (n : Nat) (sc : Scope) (Δ : Vars) (es : List Expr) (ds : List Dat) : Prop :=
  ∀ A env s R (p : Pos), Room n A → Rok C R s.heap → EnvOk sc env s.heap R Δ → wpAny C.M A (spliced (backTo p (starEach es env))) (fun vs s' => Keeps s s' ∧ RdAll (R.ext s.heap s'.heap) vs ds) NoE s
section
variable {C : Cx} {n : Nat} {sc : Scope} {Δ : Vars}
theorem evAll_nil : EvAll C n sc Δ [] [] := by
  intro A env s R p rm ro eo
  exact wpAny_items_nil ⟨Keeps.rfl' _, .nil⟩
theorem evAll_cons {e : Expr} {es : List Expr} {d : Dat} {ds : List Dat} (h : Ev C n sc Δ e d) (r : EvAll C n sc Δ es ds) (he : ∀ env, starEach (e :: es) env = (false, eval e env) :: starEach es env := by intro _; rfl) : EvAll C n sc Δ (e :: es) (d :: ds) := by
  intro A env s R p rm ro eo
  refine wpAny_items_cons (noE (h A env s R rm ro eo) fun v s₁ p₁ => ?_) (he env)
  have k₁ := Keeps.hle p₁.1
  refine noE (r A env s₁ _ p rm (ro.ext k₁) (eo.ext ro k₁)) fun vs s₂ p₂ => ?_
  have k₂ := Keeps.hle p₂.1
  exact ⟨Keeps.tr p₁.1 p₂.1, .cons (p₁.2.mono (Reg.ext_step k₁ k₂)) (p₂.2.mono (Reg.ext_ext k₁ k₂))⟩
theorem Post.new {C : Cx} {s s₁ : Shared} {R : Reg} {d : Dat} {o : Obj} (k : Keeps s s₁) (ro : Rok C R s.heap) (ho : o.isFreed = false) (h : ∀ R' : Reg, (R.ext s.heap s₁.heap).le R' → R' s₁.heap.objs.size = some o → Rd R' (.ref s₁.heap.objs.size) d) :
    Post s R d (.ref s₁.heap.objs.size) { s₁ with heap := s₁.heap.push o } := by
  have k' := Keeps.push s₁ o
  refine ⟨Keeps.tr k k', h _ (Reg.ext_step (Keeps.hle k) (Keeps.hle k')) ?_⟩
  refine Reg.new_ext ?_ (Heap.get?_push_size _ ho)
  cases e : s.heap.get? s₁.heap.objs.size with
  | none => rfl
  | some o' => have := Keeps.hle k _ _ e; rw [fresh_none] at this; (have q_ := oNS this; clear this; exact q_.elim)
theorem ev_list {es : List Expr} {p : Pos} {ds : List Dat} (h : EvAll C n sc Δ es ds) (hsz : ds.length ≤ sizeLine := by simp [sizeLine]) : Ev C n sc Δ (.List es p) (.lst ds) := by
  intro A env s R rm ro eo
  refine wpAny_List (noE (h A env s R p rm ro eo) fun vs s₁ p₁ => ⟨by rw [p₁.2.length]; exact hsz, ?_⟩)
  exact Post.new p₁.1 ro rfl fun R' hl e => .lst e ⟨rfl, rfl⟩ rfl (p₁.2.mono hl)
theorem ev_tuple {es : List Expr} {k : Nat} {p : Pos} {ds : List Dat} (h : EvAll C n sc Δ es ds) (hsz : ds.length ≤ sizeLine := by simp [sizeLine]) : Ev C n sc Δ (.Tuple es k p) (.tup ds) := by
  intro A env s R rm ro eo
  refine wpAny_Tuple (noE (h A env s R p rm ro eo) fun vs s₁ p₁ => ⟨by rw [p₁.2.length]; exact hsz, ?_⟩)
  exact Post.new p₁.1 ro rfl fun R' hl e => .tup e rfl rfl (p₁.2.mono hl)

/-! items and cuts -/
theorem ev_sub {v i : Expr} {p : Pos} {d₁ d₂ d : Dat} (h₁ : Ev C n sc Δ v d₁) (h₂ : Ev C n sc Δ i d₂) (ho : Op2 C n (subscriptTail v i) d₁ d₂ d) : Ev C n sc Δ (.Subscript v i p) d := by
  intro A env s R rm ro eo
  exact Subscript_ (ev2 h₁ h₂ ho rm ro eo)
theorem op_item_lst {v i : Expr} {k : Int} {ds : List Dat} {d : Dat} (hx : ds[k.toNat]? = some d) (h0 : 0 ≤ k) (hlen : ds.length ≤ sizeLine)
    (hs : ∀ o u, subscripted i false o (.int k u) = operate [o, .int k u] (getItem o (.int k u)) := by intro _ _; rfl) : Op2 C n (subscriptTail v i) (.lst ds) (.int k) d := by
  intro A s R v₁ v₂ rm ro h₁ h₂
  obtain ⟨b, rfl⟩ := h₁.lst_ref
  obtain ⟨vs, t, r⟩ := h₁.isList ro.on
  (have q_ := Rd.intE h₂; clear h₂; obtain ⟨_, rfl⟩ := q_)
  obtain ⟨w, hw, hd⟩ := r.get hx
  have hk := (List.getElem?_eq_some_iff.mp hx).1
  exact tail_any t.typeIs slot_list_getitem.lookup (wpAny_getItem_list t h0 (by rw [sizeLine_eq] at hlen; omega) (by simpa using hw) (Post.pure ro hd)) (hs _ _)
theorem op_item_lst_neg {v i : Expr} {k : Int} {ds : List Dat} {d : Dat} (hx : ds[(k + ds.length).toNat]? = some d) (h0 : k < 0) (h1 : -(ds.length : Int) ≤ k) (hlen : ds.length ≤ sizeLine)
    (hs : ∀ o u, subscripted i false o (.int k u) = operate [o, .int k u] (getItem o (.int k u)) := by intro _ _; rfl) : Op2 C n (subscriptTail v i) (.lst ds) (.int k) d := by
  intro A s R v₁ v₂ rm ro h₁ h₂
  obtain ⟨b, rfl⟩ := h₁.lst_ref
  obtain ⟨vs, t, r⟩ := h₁.isList ro.on
  (have q_ := Rd.intE h₂; clear h₂; obtain ⟨_, rfl⟩ := q_)
  obtain ⟨w, hw, hd⟩ := r.get hx
  have hl := r.length
  exact tail_any t.typeIs slot_list_getitem.lookup (wpAny_getItem_list_neg t h0 (by simp [hl]; omega) (by rw [sizeLine_eq] at hlen; omega) (by simpa [hl] using hw) (Post.pure ro hd)) (hs _ _)
theorem op_item_tup {v i : Expr} {k : Int} {ds : List Dat} {d : Dat} (hx : ds[k.toNat]? = some d) (h0 : 0 ≤ k) (hlen : ds.length ≤ sizeLine)
    (hs : ∀ o u, subscripted i false o (.int k u) = operate [o, .int k u] (getItem o (.int k u)) := by intro _ _; rfl) : Op2 C n (subscriptTail v i) (.tup ds) (.int k) d := by
  intro A s R v₁ v₂ rm ro h₁ h₂
  obtain ⟨b, rfl⟩ := h₁.tup_ref
  obtain ⟨vs, t, r⟩ := h₁.isTuple ro.on
  (have q_ := Rd.intE h₂; clear h₂; obtain ⟨_, rfl⟩ := q_)
  obtain ⟨w, hw, hd⟩ := r.get hx
  have hk := (List.getElem?_eq_some_iff.mp hx).1
  have hl := r.length
  refine item_tupleT (j := k.toNat) t (by omega) (by rw [sizeLine_eq] at hlen; omega) ?_ hw (Post.pure ro hd) (hs _ _)
  unfold seqIndex?
  simp only [show ¬ k < 0 from by omega, if_false]
  rw [if_pos (by simp; omega)]

noncomputable def pick (ds : List Dat) (lo hi st : Option Int) : List Dat :=
  (sliceRange (sliceBounds lo hi st ds.length).1 (sliceBounds lo hi st ds.length).2.1 (sliceBounds lo hi st ds.length).2.2).filterMap (ds[·]?)
theorem RdAll.picks {R : Reg} {vs : List Value} {ds : List Dat} (h : RdAll R vs ds) (is : List Nat) : RdAll R (is.filterMap (vs[·]?)) (is.filterMap (ds[·]?)) := by
  induction is with
  | nil => exact .nil
  | cons i is ih =>
    rw [List.filterMap_cons, List.filterMap_cons]
    cases e : vs[i]? with
    | none =>
      have : ds[i]? = none := by rw [List.getElem?_eq_none_iff] at e ⊢; rw [← h.length]; exact e
      rw [this]; exact ih
    | some v =>
      obtain ⟨d, hd, hr⟩ := h.get' e
      rw [hd]; exact .cons hr ih
theorem RdAll.pick {R : Reg} {vs : List Value} {ds : List Dat} (h : RdAll R vs ds) (lo hi st : Option Int) : ∃ ws : List Value, slicePick vs.toArray lo hi st = ws.toArray ∧ RdAll R ws (pick ds lo hi st) := by
  refine ⟨_, rfl, ?_⟩
  unfold Mine.pick
  rw [show vs.toArray.size = ds.length from by simpa using h.length]
  simpa using h.picks _
/- a part of a cut -/
noncomputable def EvPart (C : Cx) (n : Nat) (sc : Scope) (Δ : Vars) : Option Expr → Option Int → Prop
  | none, none => True
  | some e, some i => Ev C n sc Δ e (.int i)
  | _, _ => False
theorem evPart {x : Option Expr} {k : Option Int} {A : Around} {env : Env} {s : Shared} {R : Reg} (h : EvPart C n sc Δ x k) (rm : Room n A) (ro : Rok C R s.heap) (eo : EnvOk sc env s.heap R Δ) :
    wpAny C.M A (evalPart x env) (fun v s' => Keeps s s' ∧ IsPart v k) NoE s := by
  cases x with
  | none =>
    cases k with
    | none => rw [evalPart_none]; exact wpAny_pure ⟨Keeps.rfl' _, .none⟩
    | some i => exact h.elim
  | some e =>
    cases k with
    | none => exact h.elim
    | some i =>
      rw [evalPart_some]
      refine noE (h A env s R rm ro eo) fun v s₁ p => ⟨p.1, ?_⟩
      have := p.2
      (have q_ := Rd.intE this; clear this; obtain ⟨_, rfl⟩ := q_); exact .int _ _
theorem ev_cut {v : Expr} {lo hi st : Option Expr} {a b c : Option Int} {p q : Pos} {ds : List Dat} (h : Ev C n sc Δ v (.lst ds)) (ha : EvPart C n sc Δ lo a) (hb : EvPart C n sc Δ hi b) (hc : EvPart C n sc Δ st c) (h0 : c ≠ some 0)
    (hlen : ds.length ≤ sizeLine) : Ev C n sc Δ (.Subscript v (.Slice lo hi st p) q) (.lst (pick ds a b c)) := by
  intro A env s R rm ro eo
  refine Subscript_ (noE (h A env s R rm ro eo) fun o s₁ p₁ => ?_)
  have k₁ := Keeps.hle p₁.1
  refine wpAny_Slice (noE (evPart ha rm (ro.ext k₁) (eo.ext ro k₁)) fun vl s₂ p₂ => ?_)
  have K₂ := Keeps.tr p₁.1 p₂.1
  refine noE (evPart hb rm (ro.ext (Keeps.hle K₂)) (eo.ext ro (Keeps.hle K₂))) fun vu s₃ p₃ => ?_
  have K₃ := Keeps.tr K₂ p₃.1
  refine noE (evPart hc rm (ro.ext (Keeps.hle K₃)) (eo.ext ro (Keeps.hle K₃))) fun vs s₄ p₄ => ?_
  have K₄ := Keeps.tr K₃ p₄.1
  have hd : Rd (R.ext s.heap s₄.heap) o (.lst ds) := p₁.2.mono (Reg.ext_step k₁ (Keeps.hle (Keeps.tr p₂.1 (Keeps.tr p₃.1 p₄.1))))
  obtain ⟨l, rfl⟩ := hd.lst_ref
  obtain ⟨ws, t, r⟩ := hd.isList (ro.ext (Keeps.hle K₄)).on
  have K₅ := Keeps.tr K₄ (Keeps.push s₄ { cls := .type "slice", data := .fields #[vl, vu, vs] })
  have t' := t.push ({ cls := .type "slice", data := .fields #[vl, vu, vs] } : Obj)
  have hg : wpAny C.M A (getItem (.ref l) (.ref s₄.heap.objs.size)) (Post s R (.lst (pick ds a b c))) NoE { s₄ with heap := s₄.heap.push { cls := .type "slice", data := .fields #[vl, vu, vs] } } := by
    refine wpAny_getItem_list_slice t' (Heap.IsSliceOf.new ..) p₂.2 p₃.2 p₄.2 h0 ?_ (by simpa [r.length] using hlen)
    obtain ⟨xs, e, rx⟩ := r.pick a b c
    rw [e]
    exact Post.new K₅ ro rfl fun R' hl e' => .lst e' ⟨rfl, rfl⟩ rfl (rx.mono ((Reg.ext_step (Keeps.hle K₄) (Keeps.hle (Keeps.push s₄ _))).trans hl))
  cases st with
  | none => exact tail_any (s := { s₄ with heap := s₄.heap.push { cls := .type "slice", data := .fields #[vl, vu, vs] } }) t'.typeIs slot_list_getitem.lookup hg rfl
  | some st => exact tail_any (s := { s₄ with heap := s₄.heap.push { cls := .type "slice", data := .fields #[vl, vu, vs] } }) t'.typeIs slot_list_getitem.lookup hg rfl

/-! lists laid together -/
theorem op_cat {ds es : List Dat} (hlen : ds.length + es.length ≤ sizeLine) : Op2 C n (binaryOp .Add) (.lst ds) (.lst es) (.lst (ds ++ es)) := by
  intro A s R v₁ v₂ rm ro h₁ h₂
  obtain ⟨l, rfl⟩ := h₁.lst_ref
  obtain ⟨b, rfl⟩ := h₂.lst_ref
  obtain ⟨vs, hl, r⟩ := h₁.isList ro.on
  obtain ⟨ws, hb, r'⟩ := h₂.isList ro.on
  obtain ⟨⟨cls, dd, data, sl⟩, ho, hc, n, hd⟩ := id hl
  obtain ⟨⟨cls2, dd2, data2, sl2⟩, ho2, hc2, n2, hd2⟩ := id hb
  simp only at hc hd hc2 hd2
  subst hc hd hc2 hd2
  refine concat_meets ⟨_, ho, rfl⟩ ⟨_, ho2, rfl⟩ noFill_list_add seq_list_add PySem.F.slot_list_add PySem.F.entry_list_add (PySem.F.args_list_add_2 _ _) (list_addW l b vs.toArray ws.toArray n n2 dd dd2 sl sl2 (by simpa [r.length, r'.length] using hlen)) ⟨ho, ho2, ?_⟩
  rw [show vs.toArray ++ ws.toArray = (vs ++ ws).toArray from by simp]
  exact Post.new (Keeps.rfl' _) ro rfl fun R' hl e => .lst e ⟨rfl, rfl⟩ rfl ((r.append r').mono ((Reg.ext_le ro.on).trans hl))
end
end Mine
end
noncomputable section
open PySem PySem.W PyProof.Rows PySem.SeqAt PySem.MeetsSeq
set_option Elab.async false
set_option autoImplicit false
namespace Mine

noncomputable def KeepsBut (W : List Addr) (s s' : Shared) : Prop := ∃ h' tk, s' = { s with heap := h', toks := tk } ∧ ∀ b o, b ∉ W → s.heap.get? b = some o → h'.get? b = some o
theorem KeepsBut.rfl' (W : List Addr) (s : Shared) : KeepsBut W s s := ⟨s.heap, s.toks, rfl, fun _ _ _ e => e⟩
theorem KeepsBut.tr {W : List Addr} {s s' s'' : Shared} (k : KeepsBut W s s') (k' : KeepsBut W s' s'') : KeepsBut W s s'' := by
  obtain ⟨h', tk, rfl, e⟩ := k
  obtain ⟨h'', tk', rfl, e'⟩ := k'
  exact ⟨h'', tk', rfl, fun b o hb x => e' b o hb (e b o hb x)⟩
theorem KeepsBut.of {W : List Addr} {s s' : Shared} (k : Keeps s s') : KeepsBut W s s' := by
  obtain ⟨h', tk, rfl, e⟩ := k
  exact ⟨h', tk, rfl, fun b o _ x => e b o x⟩
theorem KeepsBut.get {W : List Addr} {s s' : Shared} (k : KeepsBut W s s') {b : Addr} {o : Obj} (hb : b ∉ W) (e : s.heap.get? b = some o) : s'.heap.get? b = some o := by
  obtain ⟨h', tk, rfl, f⟩ := k; exact f b o hb e
theorem KeepsBut.sub {W W' : List Addr} {s s' : Shared} (k : KeepsBut W s s') (h : ∀ a ∈ W, a ∈ W') : KeepsBut W' s s' := by
  obtain ⟨h', tk, rfl, f⟩ := k; exact ⟨h', tk, rfl, fun b o hb e => f b o (fun x => hb (h b x)) e⟩
/- what is new may be written -/
theorem KeepsBut.keeps {W : List Addr} {s₀ s s' : Shared} (k : KeepsBut W s s') (k₀ : Keeps s₀ s) (hn : ∀ a ∈ W, s₀.heap.get? a = none) : Keeps s₀ s' := by
  obtain ⟨h, tk, rfl, e⟩ := k₀
  obtain ⟨h', tk', rfl, f⟩ := k
  refine ⟨h', tk', rfl, fun b o x => f b o (fun hb => ?_) (e b o x)⟩
  rw [hn b hb] at x; (have q_ := oNS x; clear x; exact q_.elim)
theorem KeepsBut.reg {W : List Addr} {s s' : Shared} {R : Reg} (k : KeepsBut W s s') (ro : R.on s.heap) (hW : ∀ a ∈ W, R a = none) : R.on s'.heap := fun a o e =>
  k.get (fun hb => by rw [hW a hb] at e; (have q_ := oNS e; clear e; exact q_.elim)) (ro a o e)

noncomputable def upd (Δ : Vars) (x : Str) (d : Dat) : Vars := fun y => if y = x then some d else Δ y
noncomputable def updAll (Δ : Vars) : List Str → List Dat → Vars
  | x :: xs, d :: ds => updAll (upd Δ x d) xs ds
  | _, _ => Δ

structure EnvW (sc : Scope) (env : Env) (h : Heap) (R : Reg) (Δ : Vars) (W : List Addr) : Prop where
  ok : EnvOk sc env h R Δ
  ns : ∃ m, h.Ns env.locals m
  locW : env.locals ∈ W
  alive : ∀ c ∈ W, c ≠ env.locals → ∃ v, h.IsCell c v
  offR : ∀ a ∈ W, R a = none
  inj : ∀ x y c, c ∈ W → env.cells.lookup x = some c → env.cells.lookup y = some c → x = y
  locne : ∀ x, env.cells.lookup x ≠ some env.locals
  calive : ∀ x c, env.cells.lookup x = some c → ∃ v, h.IsCell c v
/- a name that may be stored -/
noncomputable def Stor (sc : Scope) (env : Env) (W : List Addr) (x : Str) : Prop :=
  sc.names.lookup x = some .local ∨ (sc.names.lookup x = some .cell ∧ ∃ c, env.cells.lookup x = some c ∧ c ∈ W)

section
variable {C : Cx} {sc : Scope} {env : Env} {R R' : Reg} {Δ : Vars} {W : List Addr}
theorem EnvW.keeps {h h' : Heap} (e : EnvW sc env h R Δ W) (k : hle h h') (l : R.le R') (hW : ∀ a ∈ W, R' a = none) : EnvW sc env h' R' Δ W :=
  ⟨e.ok.keeps k l, let ⟨m, x⟩ := e.ns; ⟨m, x.keeps k⟩, e.locW, fun c hc hn => let ⟨v, x⟩ := e.alive c hc hn; ⟨v, x.keeps k⟩, hW, e.inj, e.locne, fun x c h => let ⟨o, z⟩ := e.calive x c h; ⟨o, z.keeps k⟩⟩
theorem EnvW.isW {h : Heap} (e : EnvW sc env h R Δ W) {a : Addr} (ha : a ∈ W) : ∃ o, h.get? a = some o := by
  by_cases hn : a = env.locals
  · subst hn; obtain ⟨m, o, es, ep, x, _⟩ := e.ns; exact ⟨o, x⟩
  · obtain ⟨v, o, x, _⟩ := e.alive a ha hn; exact ⟨o, x⟩
theorem ext_off {h h' : Heap} {a : Addr} {o : Obj} (x : h.get? a = some o) (hR : R a = none) : R.ext h h' a = none := by
  simp only [Reg.ext, x]; exact hR
theorem EnvW.ext {h h' : Heap} (e : EnvW sc env h R Δ W) (ro : Rok C R h) (k : hle h h') : EnvW sc env h' (R.ext h h') Δ W :=
  e.keeps k (Reg.ext_le ro.on) fun a ha => let ⟨_, x⟩ := e.isW ha; ext_off x (e.offR a ha)

theorem EnvW.store {A : Around} {E : Value → Shared → Prop} {s : Shared} {x : Str} {v : Value} {d : Dat} {Q : Unit → Shared → Prop} (e : EnvW sc env s.heap R Δ W) (hx : Stor sc env W x) (hd : Rd R v d)
    (hQ : ∀ s', KeepsBut W s s' → EnvW sc env s'.heap R (upd Δ x d) W → Q () s') : wpAny C.M A (storeName env x v) Q E s := by
  have hk : env.scope.kind = .function := e.ok.hsc ▸ e.ok.fn
  rcases hx with hx | ⟨hx, c, hc, hcW⟩
  · have hl : env.kindOf x = some .local := by rw [← e.ok.hsc] at hx; exact hx
    obtain ⟨m, hm⟩ := e.ns
    refine wpAny_storeName_local hl hm (fun h' hn hs => hQ _ ⟨h', s.toks + 1, rfl, fun b o hb eb => hs.extBut b o (fun h => hb (h ▸ e.locW)) eb⟩ ?_) (by rw [hk]; rfl)
    refine ⟨⟨e.ok.hsc, e.ok.fn, e.ok.gl, e.ok.bl, fun y dy ey => ?_⟩, ⟨_, hn⟩, e.locW, fun c hc hne => let ⟨v, z⟩ := e.alive c hc hne; ⟨v, z.sameBut hs hne⟩, e.offR, e.inj, e.locne, fun x c h => let ⟨o, z⟩ := e.calive x c h; ⟨o, z.sameBut hs (fun q => e.locne x (q ▸ h))⟩⟩
    simp only [upd] at ey
    split at ey
    · rename_i hy; subst hy; (have q_ := oSS ey; clear ey; subst q_)
      exact ⟨v, .inl ⟨hl, _, hn, by simp⟩, hd⟩
    · rename_i hy
      obtain ⟨u, hu, hr⟩ := e.ok.vars y dy ey
      refine ⟨u, ?_, hr⟩
      rcases hu with ⟨a1, m1, a2, a3⟩ | ⟨a1, c1, a2, a3⟩ | ⟨a1, c1, a2, a3⟩
      · have : m1 = m := by rw [a2.eq_nsMap, hm.eq_nsMap]
        subst this
        exact .inl ⟨a1, _, hn, by simp [hy, a3]⟩
      · exact .inr (.inl ⟨a1, c1, a2, a3.sameBut hs fun h => e.locne y (h ▸ a2)⟩)
      · exact .inr (.inr ⟨a1, c1, a2, a3.sameBut hs fun h => e.locne y (h ▸ a2)⟩)
  · have hl : env.kindOf x = some .cell := by rw [← e.ok.hsc] at hx; exact hx
    have hne : c ≠ env.locals := fun h => e.locne x (h ▸ hc)
    obtain ⟨v₀, hv₀⟩ := e.alive c hcW hne
    refine wpAny_storeName_cell hk hl hc hv₀ fun h' hn hs => hQ _ ⟨h', s.toks, rfl, fun b o hb eb => hs.extBut b o (fun h => hb (h ▸ hcW)) eb⟩ ?_
    obtain ⟨m, hm⟩ := e.ns
    refine ⟨⟨e.ok.hsc, e.ok.fn, e.ok.gl, e.ok.bl, fun y dy ey => ?_⟩, ⟨m, hm.sameBut hs (Ne.symm hne)⟩, e.locW, fun c' hc' hne' => ?_, e.offR, e.inj, e.locne, fun y c' h => ?_⟩
    · simp only [upd] at ey
      split at ey
      · rename_i hy; subst hy; (have q_ := oSS ey; clear ey; subst q_)
        exact ⟨v, .inr (.inl ⟨hl, c, hc, hn⟩), hd⟩
      · rename_i hy
        obtain ⟨u, hu, hr⟩ := e.ok.vars y dy ey
        refine ⟨u, ?_, hr⟩
        rcases hu with ⟨a1, m1, a2, a3⟩ | ⟨a1, c1, a2, a3⟩ | ⟨a1, c1, a2, a3⟩
        · exact .inl ⟨a1, m1, a2.sameBut hs (Ne.symm hne), a3⟩
        · exact .inr (.inl ⟨a1, c1, a2, a3.sameBut hs fun h => hy (e.inj _ _ _ hcW (h ▸ a2) hc)⟩)
        · exact .inr (.inr ⟨a1, c1, a2, a3.sameBut hs fun h => hy (e.inj _ _ _ hcW (h ▸ a2) hc)⟩)
    · by_cases hcc : c' = c
      · subst hcc; exact ⟨_, hn⟩
      · obtain ⟨v, z⟩ := e.alive c' hc' hne'; exact ⟨v, z.sameBut hs hcc⟩
    · by_cases hcc : c' = c
      · subst hcc; exact ⟨_, hn⟩
      · obtain ⟨o, z⟩ := e.calive y c' h; exact ⟨o, z.sameBut hs hcc⟩

/- the names of a target, and what they get -/
noncomputable def Tgt : Expr → Dat → List Str → List Dat → Prop
  | .Name x _, d, xs, ds => xs = [x] ∧ ds = [d]
  | .Tuple es _ _, .tup ds', xs, ds => ds = ds' ∧ es.length = ds.length ∧ ∃ ps : List Pos, ps.length = xs.length ∧ es = (xs.zip ps).map (fun x => Expr.Name x.1 x.2)
  | _, _, _, _ => False

theorem assign_names {A : Around} {E : Value → Shared → Prop} : ∀ (xs : List (Str × Pos)) (vs : List Value) (ds : List Dat) (Δ : Vars) (s : Shared) (Q : Unit → Shared → Prop), EnvW sc env s.heap R Δ W → (∀ x ∈ xs, Stor sc env W x.1) → RdAll R vs ds → xs.length = ds.length →
    (∀ s', KeepsBut W s s' → EnvW sc env s'.heap R (updAll Δ (xs.map (·.1)) ds) W → Q () s') → wpAny C.M A (assignInOrder (xs.map fun x => assign (.Name x.1 x.2) env) vs) Q E s
  | [], _, ds, Δ, s, Q, e, _, r, hl, hQ => by
    cases ds with
    | nil => (have q_ := RdAll.nilE r; clear r; subst q_); exact wpAny_pure (hQ s (.rfl' _ _) e)
    | cons d ds => cases hl
  | x :: xs, vs, ds, Δ, s, Q, e, hs, r, hl, hQ => by
    cases r with
    | nil => cases hl
    | cons h r =>
      show wpAny C.M A (do holding _ (assign (.Name x.1 x.2) env _); assignInOrder _ _) Q E s
      refine wpAny_bind (wpAny_holding (wpAny_assign_Name (e.store (hs x List.mem_cons_self) h fun s' k e' => ?_)))
      exact assign_names xs _ _ _ s' Q e' (fun y hy => hs y (List.mem_cons_of_mem _ hy)) r (by simpa using hl) fun s'' k' e'' => hQ s'' (k.tr k') e''

theorem assignEach_names (xs : List (Str × Pos)) (env : Env) : assignEach (xs.map fun x => Expr.Name x.1 x.2) env = xs.map fun x => (false, assign (.Name x.1 x.2) env) := by
  induction xs with
  | nil => rfl
  | cons x xs ih =>
    show (false, assign (.Name x.1 x.2) env) :: assignEach (xs.map fun x => Expr.Name x.1 x.2) env = _
    rw [ih]; rfl

theorem assign_tgt {A : Around} {E : Value → Shared → Prop} {s : Shared} {t : Expr} {d : Dat} {xs : List Str} {ds : List Dat} {v : Value} {Q : Unit → Shared → Prop} (hh : A.handled = none) (hT : Tgt t d xs ds) (ro : Rok C R s.heap) (e : EnvW sc env s.heap R Δ W)
    (hs : ∀ x ∈ xs, Stor sc env W x) (hd : Rd R v d) (hQ : ∀ s', KeepsBut W s s' → EnvW sc env s'.heap R (updAll Δ xs ds) W → Q () s') : wpAny C.M A (assign t env v) Q E s := by
  cases t <;> try exact hT.elim
  case Name x p =>
    obtain ⟨rfl, rfl⟩ := hT
    exact wpAny_assign_Name (e.store (hs x (by simp)) hd hQ)
  case Tuple es k p =>
    cases d <;> try exact hT.elim
    case tup ds' =>
      obtain ⟨rfl, hl, ps, hp, rfl⟩ := hT
      obtain ⟨a, rfl⟩ := hd.tup_ref
      obtain ⟨vs, t, r⟩ := hd.isTuple ro.on
      have hlen : (xs.zip ps).length = ds.length := by simpa using hl
      refine wpAny_assign_Tuple hh t ?_ ?_ fun h' hx => ?_
      · rw [assignEach_names]; simp [hlen, r.length] at hl ⊢
      · rw [assignEach_names, List.findIdx?_map]; simp
      · rw [assignEach_names]
        have k : Keeps s { s with heap := h' } := ⟨h', s.toks, rfl, fun b o eb => hx b o (fun h => by rw [h, fresh_none] at eb; (have q_ := oNS eb; clear eb; exact q_.elim)) eb⟩
        have hzip : (xs.zip ps).map (·.1) = xs := by
          rw [List.map_fst_zip]; omega
        rw [List.map_map]
        refine assign_names (xs.zip ps) vs ds Δ _ Q (e.keeps (Keeps.hle k) (Reg.le.refl R) e.offR) (fun x hx => hs x.1 (List.of_mem_zip hx).1) r (by omega) fun s' k' e' => hQ s' ((KeepsBut.of k).tr k') ?_
        rw [hzip] at e'; exact e'
end
end Mine
end
noncomputable section
open PySem PySem.W PyProof.Rows PySem.SeqAt PySem.MeetsSeq
set_option Elab.async false
set_option autoImplicit false
namespace Mine

noncomputable def Reg.minus (R : Reg) (W : List Addr) : Reg := fun a => if a ∈ W then none else R a
theorem Reg.minus_le {R : Reg} {W : List Addr} : (R.minus W).le R := fun a o e => by
  simp only [Reg.minus] at e; split at e
  · (have q_ := oNS e; clear e; exact q_.elim)
  · exact e
theorem Reg.minus_off {R : Reg} {W : List Addr} {a : Addr} (h : a ∈ W) : R.minus W a = none := by simp [Reg.minus, h]
theorem Reg.minus_some {R : Reg} {W : List Addr} {a : Addr} {o : Obj} (h : a ∉ W) (e : R a = some o) : R.minus W a = some o := by simp [Reg.minus, h, e]

/-! the region of a loop that began at s: all that is new but what the loop writes -/
noncomputable def Rl (s : Shared) (R : Reg) (W : List Addr) (h : Heap) : Reg := (R.ext s.heap h).minus W
section
variable {C : Cx} {s s₁ s₂ : Shared} {R : Reg} {W : List Addr}
theorem rl_base {h : Heap} (ro : R.on s.heap) (hW : ∀ a ∈ W, s.heap.get? a = none) : R.le (Rl s R W h) := fun a o e =>
  Reg.minus_some (fun h => by have := ro a o e; rw [hW a h] at this; (have q_ := oNS this; clear this; exact q_.elim)) (Reg.ext_le ro a o e)
theorem rl_on {h : Heap} (ro : R.on s.heap) (k : hle s.heap h) : (Rl s R W h).on h := fun a o e => Reg.ext_on ro k a o (Reg.minus_le a o e)
theorem rl_rok {h : Heap} (ro : Rok C R s.heap) (hW : ∀ a ∈ W, s.heap.get? a = none) (k : hle s.heap h) : Rok C (Rl s R W h) h := ⟨ro.base.trans (rl_base ro.on hW), rl_on ro.on k, ro.mu.hle k⟩
theorem rl_step (k₁ : Keeps s s₁) (k₂ : Keeps s s₂) (k : KeepsBut W s₁ s₂) (al : ∀ a ∈ W, ∃ o, s₁.heap.get? a = some o) : ((Rl s R W s₁.heap).ext s₁.heap s₂.heap).le (Rl s R W s₂.heap) := fun a o e => by
  simp only [Reg.ext] at e
  split at e
  · rename_i o' e'
    simp only [Rl, Reg.minus] at e ⊢
    split at e
    · (have q_ := oNS e; clear e; exact q_.elim)
    · rename_i hn
      simp only [hn, if_false]
      simp only [Reg.ext] at e ⊢
      split at e
      · exact e
      · exact k.get hn e
  · rename_i e'
    have hn : a ∉ W := fun h => by obtain ⟨o', x⟩ := al a h; rw [x] at e'; (have q_ := oSN e'; clear e'; exact q_.elim)
    have hs : s.heap.get? a = none := by
      cases x : s.heap.get? a with
      | none => rfl
      | some o' => rw [Keeps.hle k₁ a o' x] at e'; (have q_ := oSN e'; clear e'; exact q_.elim)
    refine Reg.minus_some hn ?_
    simp only [Reg.ext, hs]; exact e
theorem rl_le (k₁ : Keeps s s₁) (k : KeepsBut W s₁ s₂) : (Rl s R W s₁.heap).le (Rl s R W s₂.heap) := fun a o e => by
  simp only [Rl, Reg.minus] at e ⊢
  split at e
  · (have q_ := oNS e; clear e; exact q_.elim)
  · rename_i hn
    simp only [hn, if_false]
    simp only [Reg.ext] at e ⊢
    split at e
    · exact e
    · exact k.get hn e
theorem rl_out (k : KeepsBut W s₁ s₂) : (Rl s R W s₁.heap).le (R.ext s.heap s₂.heap) := fun a o e => by
  simp only [Rl, Reg.minus] at e
  split at e
  · (have q_ := oNS e; clear e; exact q_.elim)
  · rename_i hn
    simp only [Reg.ext] at e ⊢
    split at e
    · exact e
    · exact k.get hn e
end

/-! iterators -/
structure Iter (C : Cx) (it : Value) (wr : List Addr) (ds : List Dat) (R₀ : Reg) (St : Nat → Heap → Prop) : Prop where
  frame : ∀ i h h', St i h → (∀ b ∈ wr, ∀ o, h.get? b = some o → h'.get? b = some o) → R₀.on h' → C.mu.on h' → St i h'
  alive : ∀ i h, St i h → ∀ b ∈ wr, ∃ o, h.get? b = some o
  next : ∀ A i s R d, A.handled = none → ds[i]? = some d → St i s.heap → R₀.le R → R.on s.heap → (∀ a ∈ wr, R a = none) →
    wpAny C.M A (pyNext it) (fun r s' => ∃ v, r = some v ∧ St (i + 1) s'.heap ∧ KeepsBut wr s s' ∧ Rd (R.ext s.heap s'.heap) v d) NoE s
  done : ∀ A s, A.handled = none → St ds.length s.heap → wpAny C.M A (pyNext it) (fun r s' => r = none ∧ KeepsBut wr s s') NoE s
  self : ∀ A i s (Q : Value → Shared → Prop) E, St i s.heap → Q it s → wpAny C.M A (pyIter it) Q E s
  letgo : ∀ A i s t v (Q : Unit → Shared → Prop) E, (∀ x p, t = .Name x p → True) → St i s.heap → (∀ s', St i s'.heap → KeepsBut wr s s' → Q () s') → wpAny C.M A (letOwnedTupleGo t it v) Q E s

theorem letgo_plain {M : Model} {A : Around} {E : Value → Shared → Prop} {s : Shared} {t : Expr} {I : Addr} {o : Obj} {n : String} {v : Value} {Q : Unit → Shared → Prop} (ho : s.heap.get? I = some o) (hc : o.cls = .type n)
    (hn : ["enumerate", "zip", "dict_itemiterator", "dict_reverseitemiterator", "odict_iterator", "itertools.zip_longest", "itertools.pairwise"].contains n = false) (hQ : Q () s) : wpAny M A (letOwnedTupleGo t (.ref I) v) Q E s := by
  have key : ∀ a, wpAny M A (do
      let o ← load I
      match o.cls, o.data with
      | .type n, .fields vs =>
        if ["enumerate", "zip", "dict_itemiterator", "dict_reverseitemiterator", "odict_iterator", "itertools.zip_longest", "itertools.pairwise"].contains n && vs[0]? == some (rawInt a) then
          rule "for.unpacks-the-owned-tuple"
          updateField I 0 .none
      | _, _ => pure ()) Q E s := by
    intro a
    refine wpAny_bind (wpAny_load ho ?_)
    rw [hc]
    cases o.data <;> try exact wpAny_pure hQ
    rename_i vs
    show wpAny M A (if (["enumerate", "zip", "dict_itemiterator", "dict_reverseitemiterator", "odict_iterator", "itertools.zip_longest", "itertools.pairwise"].contains n && vs[0]? == some (rawInt a)) = true then _ else _) Q E s
    rw [if_neg (by rw [hn]; simp)]
    exact wpAny_pure hQ
  unfold letOwnedTupleGo
  split
  · split
    · rename_i e; cases e; exact key _
    · exact wpAny_pure hQ
  · split
    · rename_i e; cases e; exact key _
    · exact wpAny_pure hQ
  · exact wpAny_pure hQ

theorem iter_list {C : Cx} {I l : Addr} {vs : List Value} {ds : List Dat} {R₀ : Reg} {o : Obj} {n : Nat} (hl : R₀ l = some o) (hc : o.cls = .type "list") (hd : o.data = .seq vs.toArray n) (hr : RdAll R₀ vs ds) (hI : R₀ I = none) :
    Iter C (.ref I) [I] ds R₀ (fun i h => h.IsListIter I l i ∧ h.IsList l vs.toArray) where
  frame := fun i h h' st hk ho _ => ⟨st.1.at fun o e => hk I (by simp) o e, ⟨_, ho _ _ hl, hc, _, hd⟩⟩
  alive := fun i h st b hb => by
    obtain ⟨o, x, _⟩ := st.1
    rw [List.mem_singleton.mp hb]; exact ⟨o, x⟩
  next := fun A i s R d hh hi st hle ho hW => by
    obtain ⟨v, hv, hdv⟩ := hr.get hi
    have hne : l ≠ I := fun h => by rw [h, hI] at hl; (have q_ := oNS hl; clear hl; exact q_.elim)
    refine wpAny_pyNext_list_item st.1 st.2 (x := v) (by simpa using hv) fun h' hit' hs' => ?_
    refine ⟨v, rfl, ⟨hit', st.2.extBut hs'.extBut hne⟩, ⟨h', s.toks, rfl, fun b o hb e => hs'.extBut b o (fun h => hb (by simp [h])) e⟩, hdv.mono (hle.trans (Reg.ext_le ho))⟩
  done := fun A s hh st => by
    refine wpAny_pyNext_list_end hh st.1 st.2 (by simp [hr.length]) fun h' he' => ⟨rfl, h', s.toks, rfl, fun b o hb e => he' b o (fun h => hb (by simp [h])) e⟩
  self := fun A i s Q E st hQ => wpAny_pyIter_listiter st.1 hQ
  letgo := fun A i s t v Q E _ st hQ => by
    obtain ⟨o, ho, hc, _⟩ := st.1
    exact letgo_plain ho hc (by decide) (hQ s st (.rfl' _ _))

/- an expression whose value is gone through: its items are ds -/
noncomputable def EvIt (C : Cx) (n : Nat) (sc : Scope) (Δ : Vars) (e : Expr) (ds : List Dat) : Prop :=
  ∀ A env s R, Room n A → Rok C R s.heap → EnvOk sc env s.heap R Δ → wpAny C.M A (eval e env) (fun x s₁ => wpAny C.M A (pyIter x) (fun it s₂ =>
    Keeps s s₂ ∧ ∃ wr St, Iter C it wr ds ((R.ext s.heap s₂.heap).minus wr) St ∧ St 0 s₂.heap ∧ (∀ a ∈ wr, s.heap.get? a = none)) NoE s₁) NoE s
section
variable {C : Cx} {n : Nat} {sc : Scope} {Δ : Vars}
theorem evIt_lst {e : Expr} {ds : List Dat} (h : Ev C n sc Δ e (.lst ds)) : EvIt C n sc Δ e ds := by
  intro A env s R rm ro eo
  refine noE (h A env s R rm ro eo) fun x s₁ p₁ => ?_
  have k₁ := Keeps.hle p₁.1
  obtain ⟨l, rfl⟩ := p₁.2.lst_ref
  have hx := p₁.2
  cases hx with
  | lst hl hc hd hr =>
    rename_i o vs n
    have hlh := (ro.ext k₁).on _ _ hl
    have hL : s₁.heap.IsList l vs.toArray := ⟨o, hlh, hc.1, n, hd⟩
    refine wpAny_pyIter_list hL ?_
    have kp := Keeps.push s₁ { cls := .type "list_iterator", data := .fields #[.ref l, .int 0 0] }
    have hsn : s.heap.get? s₁.heap.objs.size = none := by
      cases e : s.heap.get? s₁.heap.objs.size with
      | none => rfl
      | some o' => have := k₁ _ _ e; rw [fresh_none] at this; (have q_ := oNS this; clear this; exact q_.elim)
    have hne : l ≠ s₁.heap.objs.size := fun h => by rw [h, fresh_none] at hlh; (have q_ := oNS hlh; clear hlh; exact q_.elim)
    have up : (R.ext s.heap s₁.heap).le ((R.ext s.heap (s₁.heap.push { cls := .type "list_iterator", data := .fields #[.ref l, .int 0 0] })).minus [s₁.heap.objs.size]) := fun a o e =>
      Reg.minus_some (fun h => by
        have := (ro.ext k₁).on a o e
        rw [List.mem_singleton.mp h, fresh_none] at this; (have q_ := oNS this; clear this; exact q_.elim)) (Reg.ext_step k₁ (Keeps.hle kp) a o e)
    refine ⟨Keeps.tr p₁.1 kp, [s₁.heap.objs.size], _, iter_list (up _ _ hl) hc.1 hd (hr.mono up) (Reg.minus_off (by simp)), ⟨⟨_, Heap.get?_push_size _ rfl, rfl, rfl⟩, hL.push _⟩, fun a ha => by rw [List.mem_singleton.mp ha]; exact hsn⟩
end
end Mine
end
noncomputable section
open PySem PySem.W PyProof.Rows PySem.SeqAt PySem.MeetsSeq
set_option Elab.async false
set_option autoImplicit false
namespace Mine

/-! the closure of a comprehension, and its frame -/
noncomputable def clFrom (env : Env) : List (Str × NameKind) → List (Str × Addr) → List (Str × Addr)
  | [], acc => acc
  | (n, k) :: r, acc => if k == .free then clFrom env r ((n, (env.cells.lookup n).getD 0) :: acc) else clFrom env r acc
theorem forIn_cl (env : Env) (f : Str × NameKind → List (Str × Addr) → Sem (ForInStep (List (Str × Addr))))
    (hf : ∀ n k cs, f (n, k) cs = if k == .free then (do let a ← cellOf env n; pure (.yield ((n, a) :: cs))) else pure (.yield cs)) :
    ∀ (names : List (Str × NameKind)) (acc : List (Str × Addr)), (∀ p ∈ names, p.2 = .free → (env.cells.lookup p.1).isSome = true) → forIn names acc f = pure (clFrom env names acc)
  | [], acc, _ => by rw [List.forIn_nil]; rfl
  | (n, k) :: r, acc, h => by
    rw [List.forIn_cons, hf]
    unfold clFrom
    by_cases hk : (k == NameKind.free) = true
    · rw [if_pos hk, if_pos hk]
      obtain ⟨c, hc⟩ := Option.isSome_iff_exists.mp (h (n, k) List.mem_cons_self (by simpa using hk))
      have e : cellOf env n = pure c := by unfold cellOf; rw [hc]
      rw [e, hc]
      exact forIn_cl env f hf r _ fun p hp => h p (List.mem_cons_of_mem _ hp)
    · rw [if_neg hk, if_neg hk]
      exact forIn_cl env f hf r _ fun p hp => h p (List.mem_cons_of_mem _ hp)
theorem closure_eq {scope : Scope} {env : Env} (h : ∀ p ∈ scope.names, p.2 = .free → (env.cells.lookup p.1).isSome = true) : closureFor scope env = pure (clFrom env scope.names []) := by
  have := forIn_cl env (fun (p : Str × NameKind) (cs : List (Str × Addr)) => if p.2 == NameKind.free then (do let a ← cellOf env p.1; pure (ForInStep.yield ((p.1, a) :: cs))) else pure (ForInStep.yield cs)) (fun n k cs => rfl) scope.names [] h
  show (forIn scope.names [] (fun (p : Str × NameKind) (cs : List (Str × Addr)) => if p.2 == NameKind.free then (do let a ← cellOf env p.1; pure (ForInStep.yield ((p.1, a) :: cs))) else pure (ForInStep.yield cs)) >>= fun cs => pure cs) = _
  rw [this]; rfl
theorem clFrom_lookup {env : Env} {x : Str} {c : Addr} : ∀ (names : List (Str × NameKind)) (acc : List (Str × Addr)), (∀ p ∈ names, p.2 = .free → (env.cells.lookup p.1).isSome = true) → (clFrom env names acc).lookup x = some c →
    ((x, NameKind.free) ∈ names ∧ env.cells.lookup x = some c) ∨ acc.lookup x = some c
  | [], acc, _, e => .inr e
  | (n, k) :: r, acc, h, e => by
    unfold clFrom at e
    by_cases hk : (k == NameKind.free) = true
    · rw [if_pos hk] at e
      obtain ⟨c', hc⟩ := Option.isSome_iff_exists.mp (h (n, k) List.mem_cons_self (by simpa using hk))
      rcases clFrom_lookup r _ (fun p hp => h p (List.mem_cons_of_mem _ hp)) e with q | q
      · exact .inl ⟨List.mem_cons_of_mem _ q.1, q.2⟩
      · rw [List.lookup_cons] at q
        by_cases hx : (x == n) = true
        · simp only [hx, hc, Option.getD_some] at q
          have hxn := eq_of_beq hx
          have hk' : k = .free := by simpa using hk
          subst hxn hk'
          exact .inl ⟨List.mem_cons_self, by rw [hc, ← q]⟩
        · simp only [hx] at q; exact .inr q
    · rw [if_neg hk] at e
      rcases clFrom_lookup r _ (fun p hp => h p (List.mem_cons_of_mem _ hp)) e with q | q
      · exact .inl ⟨List.mem_cons_of_mem _ q.1, q.2⟩
      · exact .inr q
theorem clFrom_some {env : Env} {x : Str} : ∀ (names : List (Str × NameKind)) (acc : List (Str × Addr)), ((x, NameKind.free) ∈ names ∨ (acc.lookup x).isSome = true) → ((clFrom env names acc).lookup x).isSome = true
  | [], acc, h => h.elim (fun h => (nomatch h)) id
  | (n, k) :: r, acc, h => by
    unfold clFrom
    by_cases hk : (k == NameKind.free) = true
    · rw [if_pos hk]
      refine clFrom_some r _ ?_
      rcases h with h | h
      · rcases List.mem_cons.mp h with e | h
        · cases e; exact .inr (by simp [List.lookup_cons])
        · exact .inl h
      · refine .inr ?_
        rw [List.lookup_cons]
        split
        · rfl
        · exact h
    · rw [if_neg hk]
      refine clFrom_some r _ ?_
      rcases h with h | h
      · rcases List.mem_cons.mp h with e | h
        · cases e; exact absurd rfl hk
        · exact .inl h
      · exact .inr h

theorem cellsFrom_acc : ∀ (names : List (Str × NameKind)) (n : Nat) (acc : List (Str × Addr)), cellsFrom n names acc = cellsFrom n names [] ++ acc
  | [], _, _ => rfl
  | (x, k) :: r, n, acc => by
    unfold cellsFrom
    by_cases hk : (k == NameKind.cell) = true
    · rw [if_pos hk, if_pos hk, cellsFrom_acc r (n + 1) ((x, n) :: acc), cellsFrom_acc r (n + 1) [(x, n)], List.append_assoc]; rfl
    · rw [if_neg hk, if_neg hk]; exact cellsFrom_acc r n acc
theorem lookup_append' {x : Str} : ∀ (l l' : List (Str × Addr)), (l ++ l').lookup x = (l.lookup x).or (l'.lookup x)
  | [], l' => by simp
  | (y, c) :: r, l' => by
    rw [List.cons_append, List.lookup_cons, List.lookup_cons]
    split
    · rfl
    · exact lookup_append' r l'

theorem newEnv_comp {M : Model} {A : Around} {E : Value → Shared → Prop} {s : Shared} {scope : Scope} {g : Addr} {cl : List (Str × Addr)} {qual : Str} {env : Env} {Q : Env → Shared → Prop}
    (h : Q (newEnv scope s.heap.objs.size g (cellsFrom (s.heap.objs.size + 1) scope.names cl) qual none .none (some env) builtinsNs) { s with heap := pushCells (s.heap.push { cls := .type "dict", data := .dict #[] }) scope.names }) :
    wpAny M A (newFunctionEnv scope g cl [] qual none .none (some env)) Q E s := by
  simp only [newFunctionEnv, Option.isSome_some, if_true]
  refine wpAny_bind (wpAny_alloc ?_)
  refine wpAny_bind (wpAny_layCells _ (fun name kind cells => by cases hkc : kind == NameKind.cell <;> simp [hkc]) _ _ _ _ ?_)
  rw [show ({ s with heap := s.heap.push { cls := .type "dict", data := .dict #[] } } : Shared).heap.objs.size = s.heap.objs.size + 1 from Heap.size_push ..]
  exact wpAny_pure h

noncomputable def relab (scope sc : Scope) : Scope :=
  { scope with names := scope.names.map fun (n, k) => if (k == .free && sc.kind == .function && sc.names.lookup n == some .cell) then (n, .cell) else (n, k) }
theorem relabel_eq (scope : Scope) (env : Env) : relabel scope env = relab scope env.scope := rfl

theorem lookup_relab {sc : Scope} {x : Str} : ∀ (names : List (Str × NameKind)), (names.map fun (n, k) => if (k == NameKind.free && sc.kind == .function && sc.names.lookup n == some .cell) then (n, NameKind.cell) else (n, k)).lookup x =
    (names.lookup x).map fun k => if (k == NameKind.free && sc.kind == .function && sc.names.lookup x == some .cell) then .cell else k
  | [] => rfl
  | (n, k) :: r => by
    have ih := @lookup_relab sc x r
    rw [List.map_cons]
    show List.lookup x ((if (k == NameKind.free && sc.kind == .function && sc.names.lookup n == some .cell) = true then (n, NameKind.cell) else (n, k)) :: _) = _
    by_cases hx : (x == n) = true
    · have e := eq_of_beq hx
      subst e
      by_cases hc : (k == NameKind.free && sc.kind == .function && sc.names.lookup x == some .cell) = true
      · rw [if_pos hc]; simp only [List.lookup_cons, beq_self_eq_true, Option.map_some]; rw [if_pos hc]
      · rw [if_neg hc]; simp only [List.lookup_cons, beq_self_eq_true, Option.map_some]; rw [if_neg hc]
    · have hx' : (x == n) = false := by simpa using hx
      by_cases hc : (k == NameKind.free && sc.kind == .function && sc.names.lookup n == some .cell) = true
      · rw [if_pos hc]; simp only [List.lookup_cons, hx']; exact ih
      · rw [if_neg hc]; simp only [List.lookup_cons, hx']; exact ih

/- what a comprehension sees of the variables around it -/
noncomputable def inner (scope : Scope) (Δ : Vars) : Vars := fun x => match scope.names.lookup x with | some .free => Δ x | _ => none

structure CompOk (sc scope : Scope) (Δ : Vars) (xs : List Str) : Prop where
  kind : scope.kind = .function
  free : ∀ p ∈ scope.names, p.2 = .free → (Δ p.1).isSome = true ∧ (sc.names.lookup p.1 = some .cell ∨ sc.names.lookup p.1 = some .free)
  names : ∀ p ∈ scope.names, p.2 = .local → scope.names.lookup p.1 = some .local
  tgt : ∀ x ∈ xs, scope.names.lookup x = some .local ∨ scope.names.lookup x = some .cell
  uniq : (scope.names.map (·.1)).Nodup
theorem uniq_kind : ∀ {l : List (Str × NameKind)}, (l.map (·.1)).Nodup → ∀ {x : Str} {k k' : NameKind}, (x, k) ∈ l → (x, k') ∈ l → k = k'
  | p :: r, h, x, k, k', h1, h2 => by
    rw [List.map_cons, List.nodup_cons] at h
    rcases List.mem_cons.mp h1 with e1 | m1 <;> rcases List.mem_cons.mp h2 with e2 | m2
    · rw [← e1] at e2; cases e2; rfl
    · exact absurd (List.mem_map.mpr ⟨_, m2, rfl⟩) (by rw [← e1] at h; exact h.1)
    · exact absurd (List.mem_map.mpr ⟨_, m1, rfl⟩) (by rw [← e2] at h; exact h.1)
    · exact uniq_kind h.2 m1 m2
theorem mem_kind {x : Str} {k : NameKind} : ∀ {l : List (Str × NameKind)}, l.lookup x = some k → (x, k) ∈ l
  | [], h => by (have q_ := oNS h; clear h; exact q_.elim)
  | (n, k') :: r, h => by
    rw [List.lookup_cons] at h
    split at h
    · rename_i hb; (have q_ := oSS h; clear h; subst q_); rw [eq_of_beq hb]; exact List.mem_cons_self
    · exact List.mem_cons_of_mem _ (mem_kind h)
theorem mem_cells {x : Str} {c : Addr} : ∀ {l : List (Str × NameKind)} {n : Nat}, (cellsFrom n l []).lookup x = some c → (x, NameKind.cell) ∈ l
  | [], n, h => by (have q_ := oNS h; clear h; exact q_.elim)
  | (y, k) :: r, n, h => by
    unfold cellsFrom at h
    by_cases hk : (k == NameKind.cell) = true
    · rw [if_pos hk, cellsFrom_acc, lookup_append'] at h
      cases h2 : (cellsFrom (n + 1) r []).lookup x with
      | some c2 => exact List.mem_cons_of_mem _ (mem_cells h2)
      | none =>
        rw [h2] at h
        simp only [Option.none_or, List.lookup_cons] at h
        split at h
        · rename_i hb; rw [eq_of_beq hb, show k = NameKind.cell from by simpa using hk]; exact List.mem_cons_self
        · (have q_ := oNS h; clear h; exact q_.elim)
    · rw [if_neg hk] at h; exact List.mem_cons_of_mem _ (mem_cells h)

theorem cells_some {x : Str} : ∀ (names : List (Str × NameKind)) (n : Nat), names.lookup x = some .cell → ∃ c, (cellsFrom n names []).lookup x = some c := by
  intro names n h
  exact Option.isSome_iff_exists.mp (cellsFrom_some names n [] (.inl h))

noncomputable def FrameAt (W : List Addr) (L : Addr) (h : Heap) : Prop := (∃ m, h.Ns L m) ∧ ∀ c ∈ W, c ≠ L → ∃ v, h.IsCell c v
/- the frame that a comprehension makes for itself -/
theorem comp_frame {C : Cx} {sc scope : Scope} {env : Env} {s₀ s : Shared} {R : Reg} {Δ : Vars} {xs : List Str} {qual : Str} (hc : CompOk sc scope Δ xs) (k₀ : hle s₀.heap s.heap) (eo : EnvOk sc env s₀.heap R Δ) :
    ∃ cl W h', closureFor scope env = pure cl ∧ (∀ A E Q, (∀ cenv, cenv.locals = s.heap.objs.size → cenv.locals ∈ W → FrameAt W cenv.locals h' → (∀ h'' R', hle s₀.heap h'' → FrameAt W cenv.locals h'' → R.le R' → (∀ a ∈ W, R' a = none) → EnvW (relab scope sc) { cenv with scope := relabel scope env } h'' R' (inner scope Δ) W) →
        (∀ x ∈ xs, Stor (relab scope sc) { cenv with scope := relabel scope env } W x) → Q cenv { s with heap := h' }) → wpAny C.M A (newFunctionEnv scope env.globals cl [] qual none .none (some env)) Q E s) ∧
      hle s.heap h' ∧ (∀ a ∈ W, s.heap.get? a = none) := by
  have hcells : ∀ p ∈ scope.names, p.2 = .free → ∃ c v, env.cells.lookup p.1 = some c ∧ s₀.heap.IsCell c (some v) := fun p hp hf => by
    obtain ⟨h1, h2⟩ := hc.free p hp hf
    obtain ⟨d, hd⟩ := Option.isSome_iff_exists.mp h1
    obtain ⟨v, hv, _⟩ := eo.vars _ _ hd
    rcases hv with ⟨a, _⟩ | ⟨a, c, b, e⟩ | ⟨a, c, b, e⟩
    · have a' : sc.names.lookup p.1 = some .local := by rw [← eo.hsc]; exact a
      rcases h2 with h2 | h2 <;> rw [a'] at h2 <;> cases h2
    · exact ⟨c, v, b, e⟩
    · exact ⟨c, v, b, e⟩
  have hsome : ∀ p ∈ scope.names, p.2 = .free → (env.cells.lookup p.1).isSome = true := fun p hp hf => by
    obtain ⟨c, _, e, _⟩ := hcells p hp hf; rw [e]; rfl
  generalize hcl : clFrom env scope.names [] = cl
  have clok : ∀ x c, cl.lookup x = some c → (x, NameKind.free) ∈ scope.names ∧ env.cells.lookup x = some c := fun x c e => by
    rw [← hcl] at e
    rcases clFrom_lookup _ _ hsome e with q | q
    · exact q
    · (have q_ := oNS q; clear q; exact q_.elim)
  have clold : ∀ x c, cl.lookup x = some c → ∃ v, s.heap.IsCell c (some v) := fun x c e => by
    obtain ⟨a, b⟩ := clok x c e
    obtain ⟨c', v, e', z⟩ := hcells _ a rfl
    rw [b] at e'; (have q_ := oSS e'; clear e'; subst q_); exact ⟨v, z.keeps k₀⟩
  have hsize : (s.heap.push { cls := .type "dict", data := .dict #[] }).objs.size = s.heap.objs.size + 1 := Heap.size_push ..
  have own := cellsFrom_ok scope.names (s.heap.push { cls := .type "dict", data := .dict #[] }) (s.heap.objs.size + 1) [] ⟨fun _ _ hm => (nomatch hm), List.Pairwise.nil⟩ (by rw [hsize]; exact Nat.le_refl _)
  rw [hsize] at own
  generalize hown : cellsFrom (s.heap.objs.size + 1) scope.names [] = ow at own
  have keep : hle s.heap (pushCells (s.heap.push { cls := .type "dict", data := .dict #[] }) scope.names) := fun b o e => pushCells_keeps _ _ b o (Heap.get?_push_of_some _ e)
  have fresh : ∀ a, s.heap.objs.size ≤ a → s.heap.get? a = none := fun a ha => by
    cases e : s.heap.get? a with
    | none => rfl
    | some o' => exact absurd (Heap.lt_size e) (Nat.not_lt.mpr ha)
  refine ⟨cl, s.heap.objs.size :: ow.map (·.2), _, by rw [closure_eq hsome, hcl], fun A E Q hQ => newEnv_comp (hQ _ rfl List.mem_cons_self ?_ ?_ ?_), keep, ?_⟩
  · refine ⟨⟨_, (Heap.Ns.new s.heap (.type "dict")).keeps (pushCells_keeps _ _)⟩, fun c hcW hne => ?_⟩
    rcases List.mem_cons.mp hcW with h | h
    · exact absurd h hne
    · obtain ⟨⟨y, c'⟩, hm, rfl⟩ := List.mem_map.mp h
      exact ⟨none, (own.empty _ _ hm).1⟩
  · intro h'' R' k'' fr hle hoff
    rw [cellsFrom_acc, hown]
    have look : ∀ x c, (ow ++ cl).lookup x = some c → ow.lookup x = some c ∨ cl.lookup x = some c := fun x c e => by
      rw [lookup_append'] at e
      cases h1 : ow.lookup x with
      | none => rw [h1] at e; exact .inr (by simpa using e)
      | some c' => rw [h1] at e; exact .inl (by simpa using e)
    have old : ∀ x c, cl.lookup x = some c → c < s.heap.objs.size := fun x c e => let ⟨_, z⟩ := clold x c e; z.lt
    have new : ∀ x c, ow.lookup x = some c → s.heap.objs.size + 1 ≤ c := fun x c e => (own.empty x c (mem_of_lookup e)).2
    refine ⟨⟨by rw [← eo.hsc]; rfl, hc.kind, eo.gl, eo.bl, fun x d hd => ?_⟩, fr.1, List.mem_cons_self, fr.2, hoff, fun x y c hcW hcx hcy => ?_, fun x hx => ?_, fun x c hx => ?_⟩
    · simp only [inner] at hd
      split at hd <;> try (have q_ := oNS hd; clear hd; exact q_.elim)
      rename_i hlk
      obtain ⟨v, hv, hr⟩ := eo.vars x d hd
      refine ⟨v, ?_, hr.mono hle⟩
      have hmem : (x, NameKind.free) ∈ scope.names := mem_kind hlk
      obtain ⟨c, v', hcx, hcell⟩ := hcells _ hmem rfl
      have hv' : v' = v := by
        rcases hv with ⟨a, _⟩ | ⟨a, c2, b, e⟩ | ⟨a, c2, b, e⟩
        · have a' : sc.names.lookup x = some .local := by rw [← eo.hsc]; exact a
          rcases (hc.free _ hmem rfl).2 with h2 | h2 <;> rw [a'] at h2 <;> cases h2
        · rw [hcx] at b; (have q_ := oSS b; clear b; subst q_)
          obtain ⟨o1, e1, d1⟩ := hcell; obtain ⟨o2, e2, d2⟩ := e
          rw [e1] at e2; (have q_ := oSS e2; clear e2; subst q_); rw [d1] at d2; cases d2; rfl
        · rw [hcx] at b; (have q_ := oSS b; clear b; subst q_)
          obtain ⟨o1, e1, d1⟩ := hcell; obtain ⟨o2, e2, d2⟩ := e
          rw [e1] at e2; (have q_ := oSS e2; clear e2; subst q_); rw [d1] at d2; cases d2; rfl
      subst hv'
      have hncell : ow.lookup x = none := by
        cases h1 : ow.lookup x with
        | none => rfl
        | some c' =>
          exfalso
          rw [← hown] at h1
          have := uniq_kind hc.uniq hmem (mem_cells h1)
          cases this
      have hclx : cl.lookup x = some c := by
        obtain ⟨c', e'⟩ := Option.isSome_iff_exists.mp (clFrom_some (env := env) scope.names [] (.inl hmem))
        rw [hcl] at e'
        have := (clok x c' e').2
        rw [hcx] at this; (have q_ := oSS this; clear this; subst q_); exact e'
      have hlook : (ow ++ cl).lookup x = some c := by rw [lookup_append', hncell, hclx]; rfl
      have hkind : Env.kindOf { newEnv scope s.heap.objs.size env.globals (ow ++ cl) qual none .none (some env) builtinsNs with scope := relabel scope env } x = some .cell ∨
          Env.kindOf { newEnv scope s.heap.objs.size env.globals (ow ++ cl) qual none .none (some env) builtinsNs with scope := relabel scope env } x = some .free := by
        show List.lookup x (scope.names.map _) = _ ∨ List.lookup x (scope.names.map _) = _
        have e := lookup_relab (sc := env.scope) (x := x) scope.names
        rw [hlk, Option.map_some] at e
        by_cases hq : (NameKind.free == NameKind.free && env.scope.kind == .function && env.scope.names.lookup x == some .cell) = true
        · rw [if_pos hq] at e; exact .inl e
        · rw [if_neg hq] at e; exact .inr e
      rcases hkind with q | q
      · exact .inr (.inl ⟨q, c, hlook, hcell.keeps k''⟩)
      · exact .inr (.inr ⟨q, c, hlook, hcell.keeps k''⟩)
    · have big : s.heap.objs.size ≤ c := by
        rcases List.mem_cons.mp hcW with h | h
        · exact Nat.le_of_eq h.symm
        · obtain ⟨⟨y', c'⟩, hm, rfl⟩ := List.mem_map.mp h
          exact Nat.le_of_succ_le (own.empty _ _ hm).2
      rcases look x _ hcx with h1 | h1
      · rcases look y _ hcy with h2 | h2
        · exact name_of_addr own.apart (mem_of_lookup h1) (mem_of_lookup h2)
        · exact absurd (old _ _ h2) (Nat.not_lt.mpr big)
      · exact absurd (old _ _ h1) (Nat.not_lt.mpr big)
    · rcases look x _ hx with h | h
      · have := new _ _ h
        exact absurd this (Nat.not_le.mpr (Nat.lt_succ_self _))
      · exact absurd (old _ _ h) (Nat.lt_irrefl _)
    · rcases look x _ hx with h | h
      · have hm := mem_of_lookup h
        obtain ⟨v, o, z, zd⟩ := fr.2 c (List.mem_cons_of_mem _ (List.mem_map.mpr ⟨_, hm, rfl⟩)) (fun q => by
          have h9 := new _ _ h
          have q' : c = s.heap.objs.size := q
          rw [q'] at h9
          exact Nat.not_succ_le_self _ h9)
        exact ⟨v, o, z, zd⟩
      · obtain ⟨a, b⟩ := clok x c h
        obtain ⟨c', v, e', o, z, zd⟩ := hcells _ a rfl
        rw [b] at e'; (have q_ := oSS e'; clear e'; subst q_)
        exact ⟨_, o, k'' _ _ z, zd⟩
  · intro x hx
    rw [cellsFrom_acc, hown]
    rcases hc.tgt x hx with h | h
    · left
      show List.lookup x (scope.names.map _) = _
      rw [lookup_relab, h]; rfl
    · right
      refine ⟨?_, ?_⟩
      · show List.lookup x (scope.names.map _) = _
        rw [lookup_relab, h]; rfl
      · obtain ⟨c, hcx⟩ := cells_some scope.names (s.heap.objs.size + 1) h
        rw [hown] at hcx
        exact ⟨c, by show (ow ++ cl).lookup x = some c; rw [lookup_append', hcx]; rfl, List.mem_cons_of_mem _ (List.mem_map.mpr ⟨_, mem_of_lookup hcx, rfl⟩)⟩
  · intro a ha
    rcases List.mem_cons.mp ha with h | h
    · rw [h]; exact fresh _ (Nat.le_refl _)
    · obtain ⟨⟨y, c'⟩, hm, rfl⟩ := List.mem_map.mp h
      exact fresh _ (Nat.le_of_succ_le (own.empty _ _ hm).2)
end Mine
end
noncomputable section
open PySem PySem.W PyProof.Rows PySem.SeqAt PySem.MeetsSeq
set_option Elab.async false
set_option autoImplicit false
namespace Mine

/- the tests of a comprehension: none or one -/
noncomputable def EvTs (C : Cx) (n : Nat) (sc : Scope) (Δ : Vars) : List Expr → Bool → Prop
  | [], b => b = true
  | [c], b => EvT C n sc Δ c b
  | _, _ => False

theorem FrameAt.but {W V : List Addr} {L : Addr} {s s' : Shared} (f : FrameAt W L s.heap) (k : KeepsBut V s s') (hL : L ∉ V) (hW : ∀ a ∈ W, a ∉ V) : FrameAt W L s'.heap :=
  ⟨let ⟨m, x⟩ := f.1; ⟨m, x.at' fun o e => k.get hL e⟩, fun c hc hn => by
    obtain ⟨v, o, x, d⟩ := f.2 c hc hn
    exact ⟨v, o, k.get (hW c hc) x, d⟩⟩
theorem EnvW.frame {sc : Scope} {env : Env} {h : Heap} {R : Reg} {Δ : Vars} {W : List Addr} (e : EnvW sc env h R Δ W) : FrameAt W env.locals h := ⟨e.ns, e.alive⟩

theorem tests_run {C : Cx} {n : Nat} {sc : Scope} {Δ : Vars} {ifs : List Expr} {b : Bool} {A : Around} {env : Env} {s : Shared} {R : Reg} (h : EvTs C n sc Δ ifs b) (rm : Room n A) (ro : Rok C R s.heap) (eo : EnvOk sc env s.heap R Δ) :
    wpAny C.M A (forIn ifs true fun c r => if r = true then do let ok ← isTrue c env (eval c env); pure (ForInStep.yield ok) else pure (ForInStep.yield r)) (fun ok s' => Keeps s s' ∧ ok = b) NoE s := by
  match ifs, h with
  | [], h => exact wpAny_tests_nil ⟨Keeps.rfl' _, h.symm⟩
  | [c], h => exact wpAny_tests_one (h A env s R rm ro eo)

theorem comp_loop {α : Type} {C : Cx} {n : Nat} {sc : Scope} {Δ : Vars} {L : List α} {enc : α → Dat} {tds : α → List Dat} {p : α → Bool} {f : α → Dat} {xs : List Str} {A : Around} {s s₁ : Shared} {R R₀ : Reg} {it : Value} {wr W : List Addr} {St : Nat → Heap → Prop} {D : Addr} {cenv : Env}
    {elt target iter : Expr} {ifs : List Expr} {scope : Scope} {pos : Pos} {RR : Result → Shared → Prop} (rm : Room n A) (ro : Rok C R s.heap) (k₁ : Keeps s s₁) (It : Iter C it wr (L.map enc) R₀ St) (hst : St 0 s₁.heap) (hR₀ : R₀.le (Rl s R (wr ++ D :: W) s₁.heap))
    (fresh : ∀ a ∈ wr ++ D :: W, s.heap.get? a = none) (hDr : D ∉ wr) (hDW : D ∉ W) (hWr : ∀ a ∈ W, a ∉ wr) (hLW : cenv.locals ∈ W) (hD : s₁.heap.PlainList D #[]) (fr : FrameAt W cenv.locals s₁.heap)
    (hE : ∀ h'' R', hle s.heap h'' → FrameAt W cenv.locals h'' → R.le R' → (∀ a ∈ W, R' a = none) → EnvW sc cenv h'' R' Δ W) (hS : ∀ x ∈ xs, Stor sc cenv W x)
    (hT : ∀ a ∈ L, Tgt target (enc a) xs (tds a)) (ht : ∀ a ∈ L, EvTs C n sc (updAll Δ xs (tds a)) ifs (p a)) (he : ∀ a ∈ L, p a = true → Ev C n sc (updAll Δ xs (tds a)) elt (f a)) (hlen : L.length ≤ sizeLine)
    (hRR : ∀ s' (ys : Array Value), Keeps s s' → s'.heap.PlainList D ys → RdAll (Rl s R (wr ++ D :: W) s'.heap) ys.toList ((L.filter p).map f) → FrameAt W cenv.locals s'.heap → RR (.ok .next) s') :
    codeAny C.M A (.compLoop (.ListComp elt [⟨target, iter, ifs, 0⟩] scope pos) 0 it (.ref D) cenv) RR s₁ := by
  generalize hV : wr ++ D :: W = V at *
  have inV : ∀ a, a ∈ V ↔ a ∈ wr ∨ a = D ∨ a ∈ W := fun a => by rw [← hV]; simp
  have wrV : ∀ a ∈ wr, a ∈ V := fun a h => (inV a).mpr (.inl h)
  have WV : ∀ a ∈ W, a ∈ V := fun a h => (inV a).mpr (.inr (.inr h))
  have DV : D ∈ V := (inV D).mpr (.inr (.inl rfl))
  refine codeAny_loop rfl (fun k s' => ∃ i ys, i ≤ L.length ∧ k = L.length + 1 - i ∧ Keeps s s' ∧ KeepsBut V s₁ s' ∧ St i s'.heap ∧ s'.heap.PlainList D ys ∧ RdAll (Rl s R V s'.heap) ys.toList (((L.take i).filter p).map f) ∧ FrameAt W cenv.locals s'.heap) (fun k s' hI => ?_) (L.length + 1)
    ⟨0, #[], Nat.zero_le _, rfl, k₁, .rfl' _ _, hst, hD, .nil, fr⟩
  obtain ⟨i, ys, hi, rfl, kS, kV, st, hl, hr, fr'⟩ := hI
  have alV : ∀ {s' : Shared} {i : Nat} {ys : Array Value}, St i s'.heap → s'.heap.PlainList D ys → FrameAt W cenv.locals s'.heap → ∀ a ∈ V, ∃ o, s'.heap.get? a = some o := fun st hl fr a ha => by
    rcases (inV a).mp ha with h | rfl | h
    · exact It.alive _ _ st a h
    · obtain ⟨n, e⟩ := hl; exact ⟨_, e⟩
    · by_cases hn : a = cenv.locals
      · subst hn; obtain ⟨m, o, _, _, e, _⟩ := fr.1; exact ⟨o, e⟩
      · obtain ⟨v, o, e, _⟩ := fr.2 a h hn; exact ⟨o, e⟩
  have rlV : ∀ {h : Heap} (a : Addr), a ∈ V → Rl s R V h a = none := fun a h => Reg.minus_off h
  have r0 : ∀ {s' : Shared}, KeepsBut V s₁ s' → R₀.le (Rl s R V s'.heap) := fun kV => hR₀.trans (rl_le k₁ kV)
  show wpAny C.M A ((compTurn (.ListComp elt [⟨target, iter, ifs, 0⟩] scope pos) 0 it (.ref D) cenv).onRaise (fun x => do noteFrame x cenv; theTreesLotGoes x)) _ _ s'
  refine wpAny_noted ?_
  rw [compTurn_list]
  refine wpAny_bind (wpAny_standAt (wpAny_bind ?_))
  by_cases hlt : i < L.length
  · have hg : (L.map enc)[i]? = some (enc L[i]) := by simp [hlt]
    have hmem : L[i] ∈ L := List.getElem_mem hlt
    refine noE (It.next A i s' (Rl s R V s'.heap) _ rm.handled hg st (r0 kV) (rl_on ro.on (Keeps.hle kS)) (fun a ha => rlV a (wrV a ha))) fun r s₂ h₂ => ?_
    obtain ⟨v, rfl, st₂, kb₂, hv⟩ := h₂
    have kb₂' : KeepsBut V s' s₂ := kb₂.sub wrV
    have kS₂ : Keeps s s₂ := kb₂'.keeps kS fresh
    have al := alV st hl fr'
    have hv' : Rd (Rl s R V s₂.heap) v (enc L[i]) := hv.mono (rl_step kS kS₂ kb₂' al)
    have hl₂ : s₂.heap.PlainList D ys := hl.at fun o e => kb₂.get hDr e
    have fr₂ : FrameAt W cenv.locals s₂.heap := fr'.but kb₂ (hWr _ hLW) hWr
    refine wpAny_bind (It.letgo A (i + 1) s₂ target v _ _ (fun _ _ _ => trivial) st₂ fun s₃ st₃ kb₃ => ?_)
    have kb₃' : KeepsBut V s₂ s₃ := kb₃.sub wrV
    have kS₃ : Keeps s s₃ := kb₃'.keeps kS₂ fresh
    have hl₃ : s₃.heap.PlainList D ys := hl₂.at fun o e => kb₃.get hDr e
    have fr₃ : FrameAt W cenv.locals s₃.heap := fr₂.but kb₃ (hWr _ hLW) hWr
    have up₃ := rl_le (R := R) kS₂ kb₃'
    have E₃ := hE s₃.heap (Rl s R V s₃.heap) (Keeps.hle kS₃) fr₃ (rl_base ro.on fresh) (fun a ha => rlV a (WV a ha))
    refine wpAny_bind (assign_tgt rm.handled (hT _ hmem) (rl_rok ro fresh (Keeps.hle kS₃)) E₃ hS (hv'.mono up₃) fun s₄ kb₄ E₄ => ?_)
    have kb₄' : KeepsBut V s₃ s₄ := kb₄.sub WV
    have kS₄ : Keeps s s₄ := kb₄'.keeps kS₃ fresh
    have hl₄ : s₄.heap.PlainList D ys := hl₃.at fun o e => kb₄.get hDW e
    have fr₄ := E₄.frame
    have up₄ := rl_le (R := R) kS₃ kb₄'
    have E₄' : EnvW sc cenv s₄.heap (Rl s R V s₄.heap) (updAll Δ xs (tds L[i])) W := E₄.keeps (hle.refl _) up₄ (fun a ha => rlV a (WV a ha))
    have st₄ : St (i + 1) s₄.heap := It.frame _ _ _ st₃ (fun b hb o e => kb₄.get (fun h => hWr b h hb) e) ((rl_on ro.on (Keeps.hle kS₄)).le (r0 (kV.tr (kb₂'.tr (kb₃'.tr kb₄'))))) (ro.mu.hle (Keeps.hle kS₄))
    refine wpAny_bind (noE (tests_run (ht _ hmem) rm (rl_rok ro fresh (Keeps.hle kS₄)) E₄'.ok) fun ok s₅ h₅ => ?_)
    obtain ⟨k₅, rfl⟩ := h₅
    have kS₅ := Keeps.tr kS₄ k₅
    have E₅ := E₄'.ext (rl_rok ro fresh (Keeps.hle kS₄)) (Keeps.hle k₅)
    have al₄ := alV st₄ hl₄ fr₄
    have up₅ := rl_step (R := R) kS₄ kS₅ (KeepsBut.of k₅) al₄
    have up₅' := (Reg.ext_le (h' := s₅.heap) (rl_on (W := V) ro.on (Keeps.hle kS₄))).trans up₅
    have E₅' : EnvW sc cenv s₅.heap (Rl s R V s₅.heap) (updAll Δ xs (tds L[i])) W := E₅.keeps (hle.refl _) up₅ (fun a ha => rlV a (WV a ha))
    have hl₅ : s₅.heap.PlainList D ys := hl₄.at fun o e => Keeps.hle k₅ _ _ e
    have st₅ : St (i + 1) s₅.heap := It.frame _ _ _ st₄ (fun b hb o e => Keeps.hle k₅ _ _ e) ((rl_on ro.on (Keeps.hle kS₅)).le (r0 (kV.tr (kb₂'.tr (kb₃'.tr (kb₄'.tr (KeepsBut.of k₅))))))) (ro.mu.hle (Keeps.hle kS₅))
    have hr₅ : RdAll (Rl s R V s₅.heap) ys.toList (((L.take i).filter p).map f) := hr.mono ((rl_le kS kb₂').trans (up₃.trans (up₄.trans up₅')))
    have kV₅ := kV.tr (kb₂'.tr (kb₃'.tr (kb₄'.tr (KeepsBut.of k₅))))
    have htk : L.take (i + 1) = L.take i ++ [L[i]] := by simp
    cases hp : p L[i] with
    | false =>
      exact wpAny_pure ⟨rfl, L.length + 1 - (i + 1), by omega, i + 1, ys, hlt, rfl, kS₅, kV₅, st₅, hl₅, by rw [htk, List.filter_append]; simpa [hp] using hr₅, E₅'.frame⟩
    | true =>
      refine wpAny_bind (wpAny_bind (noE (he _ hmem hp A cenv s₅ _ rm (rl_rok ro fresh (Keeps.hle kS₅)) E₅'.ok) fun y s₆ h₆ => ?_))
      obtain ⟨k₆, hy⟩ := h₆
      have kS₆ := Keeps.tr kS₅ k₆
      have al₅ := alV st₅ hl₅ E₅'.frame
      have up₆ := rl_step (R := R) kS₅ kS₆ (KeepsBut.of k₆) al₅
      have up₆' := (Reg.ext_le (h' := s₆.heap) (rl_on (W := V) ro.on (Keeps.hle kS₅))).trans up₆
      have hl₆ : s₆.heap.PlainList D ys := hl₅.at fun o e => Keeps.hle k₆ _ _ e
      have hr₆ := hr₅.mono up₆'
      have hys : ys.size ≤ sizeLine := by
        have e1 := hr₆.length
        have e2 : (((L.take i).filter p).map f).length ≤ (L.take i).length := by rw [List.length_map]; exact List.length_filter_le _ _
        have e3 : (L.take i).length ≤ L.length := by rw [List.length_take]; omega
        have e4 : ys.toList.length = ys.size := by simp
        omega
      refine wpAny_bind (wpAny_list_append_plain (hsz := hys) hl₆ fun h₇ hl₇ hs₇ => wpAny_pure (wpAny_pure ⟨rfl, L.length + 1 - (i + 1), by omega, i + 1, ys.push y, hlt, rfl, ?_⟩))
      have kb₇ : KeepsBut [D] s₆ { s₆ with heap := h₇ } := ⟨h₇, s₆.toks, rfl, fun b o hb e => hs₇.extBut b o (by simpa using hb) e⟩
      have kb₇' : KeepsBut V s₆ { s₆ with heap := h₇ } := kb₇.sub fun a ha => by rw [List.mem_singleton.mp ha]; exact DV
      have kS₇ := kb₇'.keeps kS₆ fresh
      have st₆ : St (i + 1) s₆.heap := It.frame _ _ _ st₅ (fun b hb o e => Keeps.hle k₆ _ _ e) ((rl_on ro.on (Keeps.hle kS₆)).le (r0 (kV₅.tr (KeepsBut.of k₆)))) (ro.mu.hle (Keeps.hle kS₆))
      refine ⟨kS₇, kV₅.tr ((KeepsBut.of k₆).tr kb₇'), It.frame _ _ _ st₆ (fun b hb o e => kb₇.get (fun h => hDr (List.mem_singleton.mp h ▸ hb)) e) ((rl_on ro.on (Keeps.hle kS₇)).le (r0 (kV₅.tr ((KeepsBut.of k₆).tr kb₇')))) (ro.mu.hle (Keeps.hle kS₇)), hl₇, ?_, ?_⟩
      · have up₇ := rl_le (R := R) kS₆ kb₇'
        rw [htk, List.filter_append, List.map_append, Array.toList_push]
        refine (hr₆.mono up₇).append ?_
        simp only [List.filter_cons, hp, if_true, List.filter_nil, List.map_cons, List.map_nil]
        exact .cons ((hy.mono up₆).mono up₇) .nil
      · have fr₆ : FrameAt W cenv.locals s₆.heap := E₅'.frame.but (KeepsBut.of (W := []) k₆) (by simp) (by simp)
        exact fr₆.but kb₇ (fun h => hDW (List.mem_singleton.mp h ▸ hLW)) fun a ha h => hDW (List.mem_singleton.mp h ▸ ha)
  · have hin : i = L.length := by omega
    subst hin
    refine noE (It.done A s' rm.handled (by simpa using st)) fun r s₂ h₂ => ?_
    obtain ⟨rfl, kb₂⟩ := h₂
    have kb₂' : KeepsBut V s' s₂ := kb₂.sub wrV
    have kS₂ : Keeps s s₂ := kb₂'.keeps kS fresh
    refine wpAny_pure (hRR s₂ ys kS₂ (hl.at fun o e => kb₂.get hDr e) ?_ (fr'.but kb₂ (hWr _ hLW) hWr))
    · have := hr.mono (rl_le (R := R) kS kb₂')
      rwa [List.take_length] at this

theorem none_of_fresh {s s' : Shared} (k : Keeps s s') {a : Addr} (h : s'.heap.get? a = none) : s.heap.get? a = none := by
  cases e : s.heap.get? a with
  | none => rfl
  | some o => rw [Keeps.hle k _ _ e] at h; (have q_ := oSN h; clear h; exact q_.elim)

/- the run of a comprehension with one for: what stands behind it -/
theorem comp_run {α : Type} {C : Cx} {n : Nat} {sc scope : Scope} {Δ : Vars} {L : List α} {enc : α → Dat} {tds : α → List Dat} {p : α → Bool} {f : α → Dat} {xs : List Str} {A : Around} {E : Value → Shared → Prop} {s : Shared} {R : Reg} {env : Env}
    {elt target iter : Expr} {ifs : List Expr} {pos : Pos} {use : Option (Value → Sem Unit)} {Q : Value → Shared → Prop} {ps : Pos} (rm : Room n A) (ro : Rok C R s.heap) (eo : EnvOk sc env s.heap R Δ) (hit : EvIt C n sc Δ iter (L.map enc)) (hc : CompOk sc scope Δ xs)
    (hT : ∀ a ∈ L, Tgt target (enc a) xs (tds a)) (ht : ∀ a ∈ L, EvTs C n (relab scope sc) (updAll (inner scope Δ) xs (tds a)) ifs (p a)) (he : ∀ a ∈ L, p a = true → Ev C n (relab scope sc) (updAll (inner scope Δ) xs (tds a)) elt (f a)) (hlen : L.length ≤ sizeLine)
    (hs : ∀ x, foldedSetIterable iter env x = pure x)
    (hQ : ∀ D C' s', Keeps s s' → s.heap.get? C' = none → s.heap.get? D = none → D ≠ C' → (∃ m, s'.heap.Ns C' m) → (∃ o n ys, s'.heap.get? D = some o ∧ (o.cls = .type "list" ∧ o.dict = none) ∧ o.data = .seq ys n ∧ RdAll ((R.ext s.heap s'.heap).minus [C', D]) ys.toList ((L.filter p).map f) ∧ o = { cls := .type "list", data := .seq ys n }) → compPost C.M A E use Q (.ref D) C' (.ok .next) s') :
    wpAny C.M A (comprehension (.ListComp elt [⟨target, iter, ifs, 0⟩] scope pos) scope env ps (newList []) false (eval iter env) use) Q E s := by
  have key : ∀ {s₂ : Shared} {it : Value} {wr : List Addr} {St : Nat → Heap → Prop}, Keeps s s₂ → Iter C it wr (L.map enc) ((R.ext s.heap s₂.heap).minus wr) St → St 0 s₂.heap → (∀ a ∈ wr, s.heap.get? a = none) →
      ∀ cl, closureFor scope env = pure cl → wpAny C.M A (newList []) (fun acc s₃ => wpAny C.M A (newFunctionEnv scope env.globals cl [] env.qual none .none (some env)) (fun cenv s₄ =>
        codeAny C.M A (.compStart (.ListComp elt [⟨target, iter, ifs, 0⟩] scope pos) 0 it acc { cenv with scope := relabel scope env }) (compPost C.M A E use Q acc cenv.locals) s₄) E s₃) E s₂ := by
    intro s₂ it wr St k₂ It st hw cl hcl
    refine wpAny_newObj_type ?_
    generalize hs₃ : ({ s₂ with heap := s₂.heap.push { cls := .type "list", data := .seq ([] : List Value).toArray } } : Shared) = s₃
    have k23 : Keeps s₂ s₃ := by rw [← hs₃]; exact Keeps.push _ _
    have k₃ := Keeps.tr k₂ k23
    have hDn : s₂.heap.get? s₂.heap.objs.size = none := fresh_none
    have hD₃ : s₃.heap.PlainList s₂.heap.objs.size #[] := by rw [← hs₃]; exact ⟨0, Heap.get?_push_size _ rfl⟩
    generalize s₂.heap.objs.size = D at *
    obtain ⟨cl', W, h', e1, hnew, kp, hfr⟩ := comp_frame (C := C) (s₀ := s) (s := s₃) (qual := env.qual) hc (Keeps.hle k₃) eo
    rw [hcl] at e1
    have e2 : cl = cl' := by injection e1
    subst e2
    refine hnew A E _ fun cenv hloc hLW fr hE hS => ?_
    have k34 : Keeps s₃ { s₃ with heap := h' } := ⟨h', s₃.toks, rfl, kp⟩
    have k₄ := Keeps.tr k₃ k34
    have hDs : s.heap.get? D = none := none_of_fresh k₂ hDn
    have hDr : D ∉ wr := fun h => by obtain ⟨o, x⟩ := It.alive _ _ st D h; rw [hDn] at x; (have q_ := oNS x; clear x; exact q_.elim)
    have hWr : ∀ a ∈ W, a ∉ wr := fun a ha h => by
      obtain ⟨o, x⟩ := It.alive _ _ st a h
      have := Keeps.hle k23 _ _ x
      rw [hfr a ha] at this; (have q_ := oNS this; clear this; exact q_.elim)
    have hDW : D ∉ W := fun h => by obtain ⟨n, x⟩ := hD₃; rw [hfr D h] at x; (have q_ := oNS x; clear x; exact q_.elim)
    have fresh : ∀ a ∈ wr ++ D :: W, s.heap.get? a = none := fun a ha => by
      rcases List.mem_append.mp ha with h | h
      · exact hw a h
      · rcases List.mem_cons.mp h with rfl | h
        · exact hDs
        · exact none_of_fresh k₃ (hfr a h)
    have It' := It
    have loop : codeAny C.M A (.compLoop (.ListComp elt [⟨target, iter, ifs, 0⟩] scope pos) 0 it (.ref D) { cenv with scope := relabel scope env }) (compPost C.M A E use Q (.ref D) cenv.locals) { s₃ with heap := h' } := by
      have hReg : ((R.ext s.heap s₂.heap).minus wr).le (Rl s R (wr ++ D :: W) h') := fun a o e => by
        have e' := Reg.minus_le a o e
        have hal := (ro.ext (Keeps.hle k₂)).on a o e'
        refine Reg.minus_some (fun h => ?_) (Reg.ext_step (Keeps.hle k₂) (Keeps.hle (Keeps.tr k23 k34)) a o e')
        rcases List.mem_append.mp h with h | h
        · rw [Reg.minus_off h] at e; (have q_ := oNS e; clear e; exact q_.elim)
        · rcases List.mem_cons.mp h with rfl | h
          · rw [hDn] at hal; (have q_ := oNS hal; clear hal; exact q_.elim)
          · have := Keeps.hle k23 _ _ hal
            rw [hfr a h] at this; (have q_ := oNS this; clear this; exact q_.elim)
      have st' : St 0 h' := It.frame _ _ _ st (fun b _ o e => Keeps.hle (Keeps.tr k23 k34) _ _ e) (fun a o e => (rl_on ro.on (Keeps.hle k₄)) a o (hReg a o e)) (ro.mu.hle (Keeps.hle k₄))
      refine comp_loop (C := C) (sc := relab scope sc) (cenv := { cenv with scope := relabel scope env }) (R := R) (s := s) (s₁ := { s₃ with heap := h' }) rm ro k₄ It st' hReg fresh hDr hDW hWr hLW (hD₃.at fun o e => kp _ _ e) fr
        hE hS hT ht he hlen fun s' ys kS hl hr fr' => ?_
      · have hCne : D ≠ cenv.locals := fun h => hDW (h ▸ hLW)
        obtain ⟨nn, hl'⟩ := hl
        refine hQ D cenv.locals s' kS (fresh _ (List.mem_append_right _ (List.mem_cons_of_mem _ hLW))) hDs hCne fr'.1 ⟨_, nn, ys, hl', ⟨rfl, rfl⟩, rfl, hr.mono fun a o e => ?_, rfl⟩
        have hn : a ∉ wr ++ D :: W := fun h => by rw [Rl, Reg.minus_off h] at e; (have q_ := oNS e; clear e; exact q_.elim)
        refine Reg.minus_some (fun h => hn ?_) (Reg.minus_le a o e)
        rcases List.mem_cons.mp h with rfl | h
        · exact List.mem_append_right _ (List.mem_cons_of_mem _ hLW)
        · rw [List.mem_singleton.mp h]; exact List.mem_append_right _ List.mem_cons_self
    have st' : St 0 h' := It.frame _ _ _ st (fun b _ o e => Keeps.hle (Keeps.tr k23 k34) _ _ e) (fun a o e => Keeps.hle (Keeps.tr k23 k34) _ _ ((ro.ext (Keeps.hle k₂)).on a o (Reg.minus_le a o e))) ((ro.mu.hle (Keeps.hle k₂)).hle (Keeps.hle (Keeps.tr k23 k34)))
    exact codeAny_compStart_list loop (It.self A 0 _ _ _ st' loop)
  refine wpAny_comprehension_free (cl := clFrom env scope.names []) rfl hs ?_ hc.kind hc.names ?_
  · refine closure_eq fun q hq hf => ?_
    obtain ⟨h1, h2⟩ := hc.free q hq hf
    obtain ⟨d, hd⟩ := Option.isSome_iff_exists.mp h1
    obtain ⟨v, hv, _⟩ := eo.vars _ _ hd
    rcases hv with ⟨a, _⟩ | ⟨a, c, b, e⟩ | ⟨a, c, b, e⟩
    · have a' : sc.names.lookup q.1 = some .local := by rw [← eo.hsc]; exact a
      rcases h2 with h2 | h2 <;> rw [a'] at h2 <;> cases h2
    · rw [b]; rfl
    · rw [b]; rfl
  · have hclo : closureFor scope env = pure (clFrom env scope.names []) := by
      refine closure_eq fun q hq hf => ?_
      obtain ⟨h1, h2⟩ := hc.free q hq hf
      obtain ⟨d, hd⟩ := Option.isSome_iff_exists.mp h1
      obtain ⟨v, hv, _⟩ := eo.vars _ _ hd
      rcases hv with ⟨a, _⟩ | ⟨a, c, b, e⟩ | ⟨a, c, b, e⟩
      · have a' : sc.names.lookup q.1 = some .local := by rw [← eo.hsc]; exact a
        rcases h2 with h2 | h2 <;> rw [a'] at h2 <;> cases h2
      · rw [b]; rfl
      · rw [b]; rfl
    refine noE (hit A env s R rm ro eo) fun x s₁ h₁ => noE h₁ fun it s₂ h₂ => ?_
    obtain ⟨k₂, wr, St, It, st, hw⟩ := h₂
    exact key k₂ It st hw _ hclo

theorem ev_comp {α : Type} {C : Cx} {n : Nat} {sc scope : Scope} {Δ : Vars} {L : List α} {enc : α → Dat} {tds : α → List Dat} {p : α → Bool} {f : α → Dat} {elt target iter : Expr} {ifs : List Expr} {pos : Pos} (xs : List Str) (hit : EvIt C n sc Δ iter (L.map enc)) (hc : CompOk sc scope Δ xs)
    (hT : ∀ a ∈ L, Tgt target (enc a) xs (tds a)) (ht : ∀ a ∈ L, EvTs C n (relab scope sc) (updAll (inner scope Δ) xs (tds a)) ifs (p a)) (he : ∀ a ∈ L, p a = true → Ev C n (relab scope sc) (updAll (inner scope Δ) xs (tds a)) elt (f a)) (hlen : L.length ≤ sizeLine)
    (hs : ∀ env x, foldedSetIterable iter env x = pure x := by intro _ _; rfl) : Ev C n sc Δ (.ListComp elt [⟨target, iter, ifs, 0⟩] scope pos) (.lst ((L.filter p).map f)) := by
  intro A env s R rm ro eo
  rw [eval_ListComp]
  refine comp_run (use := none) rm ro eo hit hc hT ht he hlen (hs env) fun D C' s' kS hC hD hne hns hl => ?_
  obtain ⟨m, hm⟩ := hns
  obtain ⟨o, nn, ys, ho, hcl, hd, hr, _⟩ := hl
  refine ⟨m, hm, fun h' hs' => ?_⟩
  have kb : KeepsBut [C'] s' { s' with heap := h' } := ⟨h', s'.toks, rfl, fun b o hb e => hs'.extBut b o (by simpa using hb) e⟩
  have kS' := kb.keeps kS fun a ha => by rw [List.mem_singleton.mp ha]; exact hC
  refine ⟨kS', .lst (Reg.new_ext hD (hs'.extBut D o hne ho)) hcl (by rw [hd]) (hr.mono fun a o e => ?_)⟩
  have hn : a ≠ C' := fun h => by rw [h, Reg.minus_off (by simp)] at e; (have q_ := oNS e; clear e; exact q_.elim)
  have e' := Reg.minus_le a o e
  simp only [Reg.ext] at e' ⊢
  split at e'
  · exact e'
  · exact hs'.extBut a o hn e'
end Mine
end
noncomputable section
open PySem PySem.W PyProof.Rows PySem.SeqAt PySem.MeetsSeq
set_option Elab.async false
set_option autoImplicit false
namespace Mine

/- a call of f upon data -/
noncomputable def CallOp (C : Cx) (n : Nat) (f : Value) (ds : List Dat) (d : Dat) : Prop :=
  ∀ A s R vs, Room n A → Rok (C.at noM) R s.heap → RdAll R vs ds → wpAny C.M A (call f vs) (Post s R d) NoE s
theorem CallOp.le {C : Cx} {n k : Nat} {f : Value} {ds : List Dat} {d : Dat} (h : CallOp C k f ds d) (hk : k ≤ n) : CallOp C n f ds d := fun A s R vs r => h A s R vs (r.le hk)

section
variable {C : Cx} {n : Nat} {sc : Scope} {Δ : Vars}
theorem evAll_call {f : Value} {A : Around} {env : Env} {s : Shared} {R : Reg} {p : Pos} {es : List Expr} {ds : List Dat} {d : Dat} (ha : EvAll C n sc Δ es ds) (ho : CallOp C n f ds d) (rm : Room n A) (ro : Rok C R s.heap) (eo : EnvOk sc env s.heap R Δ) :
    wpAny C.M A (spliced (backTo p (starEach es env))) (fun vs s₁ => wpAny C.M A (call f vs) (Post s R d) NoE s₁) NoE s := by
  refine noE (ha A env s R p rm ro eo) fun vs s₁ p₁ => ?_
  exact noE (ho A s₁ _ vs rm (ro.ext (Keeps.hle p₁.1)).nomu p₁.2) fun v s₂ p₂ => Post.step p₁.1 p₂

theorem ev_callb {x : Str} {np p : Pos} {id : String} {e : Expr} {es : List Expr} {ds : List Dat} {d : Dat} (hf : Ev C n sc Δ (.Name x np) (.val (.builtin id))) (ha : EvAll C n sc Δ (e :: es) ds) (ho : CallOp C n (.builtin id) ds d)
    (he : ∀ env, starEach (e :: es) env = (false, eval e env) :: starEach es env := by intro _; rfl) (hp : ∀ env, (backTo p (starEach es env)).any (·.1) = false := by intro _; rfl) : Ev C n sc Δ (.Call (.Name x np) (e :: es) [] p) d := by
  intro A env s R rm ro eo
  refine Call_ (noE (hf A env s R rm ro eo) fun f s₁ p₁ => ?_)
  have hf' := p₁.2
  (have q_ := Rd.valE hf'; clear hf'; subst q_)
  have k₁ := Keeps.hle p₁.1
  exact callWith_builtin1 (noE (evAll_call ha ho rm (ro.ext k₁) (eo.ext ro k₁)) fun vs s₂ q => wpAny_mono q (fun v s₃ q₃ => Post.step p₁.1 q₃) fun _ _ x => x) (he env) (hp env)
theorem ev_callt {x : Str} {np p : Pos} {T : String} {e : Expr} {es : List Expr} {ds : List Dat} {d : Dat} (hf : Ev C n sc Δ (.Name x np) (.val (.type T))) (ha : EvAll C n sc Δ (e :: es) ds) (ho : CallOp C n (.type T) ds d)
    (he : ∀ env, starEach (e :: es) env = (false, eval e env) :: starEach es env := by intro _; rfl) (hp : ∀ env, (backTo p (starEach es env)).any (·.1) = false := by intro _; rfl) : Ev C n sc Δ (.Call (.Name x np) (e :: es) [] p) d := by
  intro A env s R rm ro eo
  refine Call_ (noE (hf A env s R rm ro eo) fun f s₁ p₁ => ?_)
  have hf' := p₁.2
  (have q_ := Rd.valE hf'; clear hf'; subst q_)
  have k₁ := Keeps.hle p₁.1
  exact callWith_type1 (noE (evAll_call ha ho rm (ro.ext k₁) (eo.ext ro k₁)) fun vs s₂ q => wpAny_mono q (fun v s₃ q₃ => Post.step p₁.1 q₃) fun _ _ x => x) (he env) (hp env)
/- a call of a function of the module -/
theorem ev_callf {x : Str} {np p : Pos} {a : Addr} {o : Obj} {fd : FuncData} {e : Expr} {es : List Expr} {ds : List Dat} {d : Dat} (hf : Ev C n sc Δ (.Name x np) (.val (.ref a))) (hfn : C.h₀.get? a = some o) (hdat : o.data = .func fd) (ha : EvAll C n sc Δ (e :: es) ds) (ho : CallOp C n (.ref a) ds d)
    (he : ∀ env, starEach (e :: es) env = (false, eval e env) :: starEach es env := by intro _; rfl) : Ev C n sc Δ (.Call (.Name x np) (e :: es) [] p) d := by
  intro A env s R rm ro eo
  refine Call_ (noE (hf A env s R rm ro eo) fun f s₁ p₁ => ?_)
  have hf' := p₁.2
  (have q_ := Rd.valE hf'; clear hf'; subst q_)
  have k₁ := Keeps.hle p₁.1
  refine callWith_def hdat (noE (ha A env s₁ _ p rm (ro.ext k₁) (eo.ext ro k₁)) fun vs s₂ p₂ => ?_) (he env)
  have k₂ := Keeps.tr p₁.1 p₂.1
  refine ⟨(ro.ext (Keeps.hle k₂)).hle0 _ _ hfn, ?_⟩
  exact noE (ho A s₂ _ vs rm (ro.ext (Keeps.hle k₂)).nomu (p₂.2.mono (Reg.ext_ext k₁ (Keeps.hle p₂.1)))) fun v s₃ p₃ => Post.step k₂ p₃

theorem call_len {ds : List Dat} (hlen : ds.length ≤ sizeLine) : CallOp C n (.builtin "len") [.lst ds] (.int ds.length) := by
  intro A s R vs rm ro h
  have q_ := RdAll.consE h
  clear h
  obtain ⟨_, _, rfl, h, r⟩ := q_
  next =>
    (have q_ := RdAll.nilE r; clear r; subst q_)
    obtain ⟨a, rfl⟩ := h.lst_ref
    obtain ⟨vs, t, r⟩ := h.isList ro.on
    have e : (vs.toArray.size : Int) = ds.length := by simp [r.length]
    refine Calls.call_len_list t (by rw [e]; rw [sizeLine_eq] at hlen; omega) ?_
    rw [e]; exact ⟨Keeps.toks _ _, .int _ _⟩
theorem call_sum {ns : List Int} : CallOp C n (.builtin "sum") [.lst (ns.map Dat.int)] (.int ns.sum) := by
  intro A s R vs rm ro h
  have q_ := RdAll.consE h
  clear h
  obtain ⟨_, _, rfl, h, r⟩ := q_
  next =>
    (have q_ := RdAll.nilE r; clear r; subst q_)
    obtain ⟨a, rfl⟩ := h.lst_ref
    obtain ⟨vs, t, r⟩ := h.isList ro.on
    have hi := Rd.ints r
    have hall := hi.allInts
    obtain ⟨xs, e⟩ := hall.items
    rw [e] at t
    refine sum_intListG rm.handled t fun h' tk t' hk => ?_
    have : preSum (numAt xs) xs.size = ns.sum := by
      rw [preSum_eq, List.take_of_length_le (by simp)]
      have := hi.numsOf
      rw [show vs = vs.toArray.toList from rfl, e, nums_intItems] at this
      rw [this]
    rw [this]
    exact ⟨⟨h', tk, rfl, hk⟩, .int _ _⟩
theorem call_min {a b : Int} : CallOp C n (.builtin "min") [.int a, .int b] (.int (min a b)) := by
  intro A s R vs rm ro h
  have q_ := RdAll.consE h
  clear h
  obtain ⟨_, _, rfl, h, r⟩ := q_
  next =>
    have q_ := RdAll.consE r
    clear r
    obtain ⟨_, _, rfl, h', r⟩ := q_
    next =>
      (have q_ := RdAll.nilE r; clear r; subst q_); (have q_ := Rd.intE h; clear h; obtain ⟨_, rfl⟩ := q_); (have q_ := Rd.intE h'; clear h'; obtain ⟨_, rfl⟩ := q_)
      refine min_two_ints rm.handled fun h' tk hk => ?_
      by_cases c : b < a
      · rw [if_pos c, show min a b = b from by omega]; exact ⟨⟨h', tk, rfl, hk⟩, .int _ _⟩
      · rw [if_neg c, show min a b = a from by omega]; exact ⟨⟨h', tk, rfl, hk⟩, .int _ _⟩
theorem call_max {a b : Int} : CallOp C n (.builtin "max") [.int a, .int b] (.int (max a b)) := by
  intro A s R vs rm ro h
  have q_ := RdAll.consE h
  clear h
  obtain ⟨_, _, rfl, h, r⟩ := q_
  next =>
    have q_ := RdAll.consE r
    clear r
    obtain ⟨_, _, rfl, h', r⟩ := q_
    next =>
      (have q_ := RdAll.nilE r; clear r; subst q_); (have q_ := Rd.intE h; clear h; obtain ⟨_, rfl⟩ := q_); (have q_ := Rd.intE h'; clear h'; obtain ⟨_, rfl⟩ := q_)
      refine max_two_ints rm.handled fun h' tk hk => ?_
      by_cases c : b > a
      · rw [if_pos c, show max a b = b from by omega]; exact ⟨⟨h', tk, rfl, hk⟩, .int _ _⟩
      · rw [if_neg c, show max a b = a from by omega]; exact ⟨⟨h', tk, rfl, hk⟩, .int _ _⟩

/-! ranges -/
noncomputable def rangeI (a b : Int) : List Int := (List.range (b - a).toNat).map fun i => a + (i : Nat)
theorem iter_range {I : Addr} {a : Int} {n : Nat} {R₀ : Reg} : Iter C (.ref I) [I] (((List.range n).map fun i => a + ((i : Nat) : Int)).map Dat.int) R₀ (fun i h => IsRangeIter h I (a + (i : Nat)) ((n : Int) - (i : Nat)) 1) where
  frame := fun i h h' st hk _ _ => hk I (by simp) _ st
  alive := fun i h st b hb => by rw [List.mem_singleton.mp hb]; exact ⟨_, st⟩
  next := fun A i s R d hh hi st hle ho hW => by
    have hlt : i < n := by
      have := (List.getElem?_eq_some_iff.mp hi).1
      simpa using this
    have hd : d = .int (a + (i : Nat)) := by simp [hlt] at hi; exact hi.symm
    subst hd
    refine wpAny_pyNext_range_item st (by omega) fun h' hit' hs' => ?_
    refine ⟨_, rfl, ?_, ⟨h', s.toks + 1, rfl, fun b o hb e => hs'.extBut b o (fun h => hb (by simp [h])) e⟩, .int _ _⟩
    have e1 : a + ((i : Nat) : Int) + 1 = a + ((i + 1 : Nat) : Int) := by omega
    have e2 : (n : Int) - ((i : Nat) : Int) - 1 = (n : Int) - ((i + 1 : Nat) : Int) := by omega
    rw [e1, e2] at hit'; exact hit'
  done := fun A s hh st => by
    refine wpAny_pyNext_range_end hh st (by simp) fun h' he' => ⟨rfl, h', s.toks, rfl, fun b o hb e => he' b o (fun h => hb (by simp [h])) e⟩
  self := fun A i s Q E st hQ => wpAny_pyIter_rangeiter st hQ
  letgo := fun A i s t v Q E _ st hQ => letgo_plain st rfl (by decide) (hQ s st (.rfl' _ _))

/- behind the call of range: its iterator -/
theorem range_it {A : Around} {s s₁ : Shared} {R : Reg} {a b : Int} {t u v : Tok} {o : Obj} (ho : o = { cls := .type "range", data := .fields #[.int a t, .int b u, .int 1 v] }) (k₁ : Keeps s s₁) (ha : -(2 ^ 62) ≤ a ∧ a < 2 ^ 62) (hb : -(2 ^ 62) ≤ b ∧ b < 2 ^ 62) (tk : Nat) :
    wpAny C.M A (pyIter (.ref s₁.heap.objs.size)) (fun it s₂ => Keeps s s₂ ∧ ∃ wr St, Iter C it wr ((rangeI a b).map Dat.int) ((R.ext s.heap s₂.heap).minus wr) St ∧ St 0 s₂.heap ∧ (∀ a ∈ wr, s.heap.get? a = none)) NoE { s₁ with heap := s₁.heap.push o, toks := tk } := by
  subst ho
  have kp : Keeps s₁ { s₁ with heap := s₁.heap.push { cls := .type "range", data := .fields #[.int a t, .int b u, .int 1 v] }, toks := tk } := ⟨_, tk, rfl, fun _ _ e => Heap.get?_push_of_some _ e⟩
  have k₂ := Keeps.tr k₁ kp
  refine wpAny_pyIter_range (IsRange.new s₁.heap a b 1 t u v) (small_one ha.1 ha.2 hb.1 hb.2) ?_
  have kq := Keeps.push { s₁ with heap := s₁.heap.push { cls := .type "range", data := .fields #[.int a t, .int b u, .int 1 v] }, toks := tk } { cls := .type "range_iterator", data := .fields #[rawInt a, rawInt (Builtin.Range.rangeSize a b 1), rawInt 1] }
  have k₃ := Keeps.tr k₂ kq
  refine ⟨k₃, [_], _, iter_range (a := a) (n := (b - a).toNat), ?_, fun x hx => ?_⟩
  · have e : Builtin.Range.rangeSize a b 1 = ((b - a).toNat : Int) := by rw [rangeSize_one]; split <;> omega
    show Heap.get? _ _ = _
    rw [Heap.get?_push_size _ rfl, e]
    simp
  · rw [List.mem_singleton.mp hx]
    exact none_of_fresh k₂ fresh_none
theorem evIt_range1 {x : Str} {np p : Pos} {e : Expr} {b : Int} (hf : Ev C n sc Δ (.Name x np) (.val (.type "range"))) (he : Ev C n sc Δ e (.int b)) (hb : -(2 ^ 62) ≤ b ∧ b < 2 ^ 62)
    (hs : ∀ env, starEach [e] env = [(false, eval e env)] := by intro _; rfl) : EvIt C n sc Δ (.Call (.Name x np) [e] [] p) ((rangeI 0 b).map Dat.int) := by
  intro A env s R rm ro eo
  refine Call_ (noE (hf A env s R rm ro eo) fun f s₁ p₁ => ?_)
  have hf' := p₁.2
  (have q_ := Rd.valE hf'; clear hf'; subst q_)
  have k₁ := Keeps.hle p₁.1
  refine callWith_type1 (wpAny_items_cons (noE (he A env s₁ _ rm (ro.ext k₁) (eo.ext ro k₁)) fun v s₂ p₂ => wpAny_items_nil ?_) (hs env)) (hs env) rfl
  have hv := p₂.2
  (have q_ := Rd.intE hv; clear hv; obtain ⟨_, rfl⟩ := q_)
  refine call_range_1 ?_
  exact range_it rfl (Keeps.tr p₁.1 p₂.1) (by decide) hb _
theorem evIt_range2 {x : Str} {np p : Pos} {e₁ e₂ : Expr} {a b : Int} (hf : Ev C n sc Δ (.Name x np) (.val (.type "range"))) (h₁ : Ev C n sc Δ e₁ (.int a)) (h₂ : Ev C n sc Δ e₂ (.int b)) (ha : -(2 ^ 62) ≤ a ∧ a < 2 ^ 62) (hb : -(2 ^ 62) ≤ b ∧ b < 2 ^ 62)
    (hs : ∀ env, starEach [e₁, e₂] env = [(false, eval e₁ env), (false, eval e₂ env)] := by intro _; rfl) (hs' : ∀ env, starEach [e₂] env = [(false, eval e₂ env)] := by intro _; rfl) : EvIt C n sc Δ (.Call (.Name x np) [e₁, e₂] [] p) ((rangeI a b).map Dat.int) := by
  intro A env s R rm ro eo
  refine Call_ (noE (hf A env s R rm ro eo) fun f s₁ p₁ => ?_)
  have hf' := p₁.2
  (have q_ := Rd.valE hf'; clear hf'; subst q_)
  have k₁ := Keeps.hle p₁.1
  refine callWith_type1 (wpAny_items_cons (noE (h₁ A env s₁ _ rm (ro.ext k₁) (eo.ext ro k₁)) fun v s₂ p₂ => ?_) (by rw [hs, hs'])) (by rw [hs, hs']) (by rw [hs']; rfl)
  have k₂ := Keeps.tr p₁.1 p₂.1
  refine wpAny_items_cons (noE (h₂ A env s₂ _ rm (ro.ext (Keeps.hle k₂)) (eo.ext ro (Keeps.hle k₂))) fun v' s₃ p₃ => wpAny_items_nil ?_) (hs' env)
  have hv := p₂.2
  (have q_ := Rd.intE hv; clear hv; obtain ⟨_, rfl⟩ := q_)
  have hv' := p₃.2
  (have q_ := Rd.intE hv'; clear hv'; obtain ⟨_, rfl⟩ := q_)
  refine call_range_2 ?_
  exact range_it rfl (Keeps.tr k₂ p₃.1) ha hb _
end
end Mine
end
noncomputable section
open PySem PySem.W PyProof.Rows PySem.SeqAt PySem.MeetsSeq
set_option Elab.async false
set_option autoImplicit false
namespace Mine

structure Fra (C : Cx) (s₀ : Shared) (R₀ : Reg) (V : List Addr) (sc : Scope) (env : Env) (W : List Addr) (s : Shared) (R Mu : Reg) (Δ : Vars) : Prop where
  keep : KeepsBut V s₀ s
  vold : ∀ a ∈ V, ∃ o, s₀.heap.get? a = some o
  vnew : ∀ a ∈ V, ∃ o, s.heap.get? a = some o
  ro : Rok (C.at noM) R s.heap
  le : R₀.le R
  sub : ∀ a o, R a = some o → R₀ a = some o ∨ s₀.heap.get? a = none
  ew : EnvW sc env s.heap R Δ W
  fresh : ∀ a ∈ W, s₀.heap.get? a = none
  stor : ∀ x, (sc.names.lookup x = some .local ∨ sc.names.lookup x = some .cell) → Stor sc env W x
  mu : ∀ a o, Mu a = some o → s.heap.get? a = some o ∧ R a = none ∧ a ∉ W ∧ (a ∈ V ∨ s₀.heap.get? a = none)

section
variable {C : Cx} {s₀ : Shared} {R₀ : Reg} {V : List Addr} {sc : Scope} {env : Env} {W : List Addr} {s s' : Shared} {R R' Mu Mu' : Reg} {Δ Δ' : Vars} {n : Nat} {A : Around} {E : Value → Shared → Prop} {Q : Flow → Shared → Prop}

/- what is wanted behind, as a word -/
theorem cps {M : Model} {α : Type} {t : Sem α} {Q₀ E₀ : _} (h : ∀ Q : α → Shared → Prop, (∀ x s, Q₀ x s → Q x s) → wpAny M A t Q E₀ s) : wpAny M A t Q₀ E₀ s := h Q₀ fun _ _ q => q
theorem Fra.rom (F : Fra C s₀ R₀ V sc env W s R Mu Δ) : Rok (C.at Mu) R s.heap := ⟨F.ro.base, F.ro.on, fun a o e => (F.mu a o e).1⟩
theorem Fra.ext (F : Fra C s₀ R₀ V sc env W s R Mu Δ) (k : Keeps s s') : Fra C s₀ R₀ V sc env W s' (R.ext s.heap s'.heap) Mu Δ where
  keep := F.keep.tr (.of k)
  vold := F.vold
  vnew := fun a h => let ⟨o, e⟩ := F.vnew a h; ⟨o, Keeps.hle k _ _ e⟩
  ro := F.ro.ext (Keeps.hle k)
  le := F.le.trans (Reg.ext_le F.ro.on)
  sub := fun a o e => by
    simp only [Reg.ext] at e
    split at e
    · exact F.sub a o e
    · rename_i h
      right
      cases x : s₀.heap.get? a with
      | none => rfl
      | some o' =>
        exfalso
        by_cases hv : a ∈ V
        · obtain ⟨o, e⟩ := F.vnew a hv; rw [h] at e; (have q_ := oNS e; clear e; exact q_.elim)
        · rw [F.keep.get hv x] at h; (have q_ := oSN h; clear h; exact q_.elim)
  ew := F.ew.ext F.ro (Keeps.hle k)
  fresh := F.fresh
  stor := F.stor
  mu := fun a o e => by
    obtain ⟨h1, h2, h3, h4⟩ := F.mu a o e
    exact ⟨Keeps.hle k _ _ h1, ext_off h1 h2, h3, h4⟩
/- fewer variables known -/
theorem Fra.weak (F : Fra C s₀ R₀ V sc env W s R Mu Δ) (h : ∀ x d, Δ' x = some d → Δ x = some d) : Fra C s₀ R₀ V sc env W s R Mu Δ' :=
  { F with ew := { F.ew with ok := { F.ew.ok with vars := fun x d e => F.ew.ok.vars x d (h x d e) } } }
theorem Fra.eo (F : Fra C s₀ R₀ V sc env W s R Mu Δ) : EnvOk sc env s.heap R Δ := F.ew.ok
theorem Fra.wv (F : Fra C s₀ R₀ V sc env W s R Mu Δ) {a : Addr} (h : a ∈ V) : a ∉ W := fun hw => by
  obtain ⟨o, e⟩ := F.vold a h; rw [F.fresh a hw] at e; (have q_ := oNS e; clear e; exact q_.elim)

/- the state behind a change of the frame's own objects -/
theorem Fra.stored (F : Fra C s₀ R₀ V sc env W s R Mu Δ) (k : KeepsBut W s s') (e : EnvW sc env s'.heap R Δ' W) : Fra C s₀ R₀ V sc env W s' R Mu Δ' where
  keep := by
    obtain ⟨h, tk, rfl, x⟩ := F.keep
    obtain ⟨h', tk', rfl, x'⟩ := k
    exact ⟨h', tk', rfl, fun b o hb eb => x' b o (fun hw => by rw [F.fresh b hw] at eb; (have q_ := oNS eb; clear eb; exact q_.elim)) (x b o hb eb)⟩
  vold := F.vold
  vnew := fun a h => let ⟨o, e⟩ := F.vnew a h; ⟨o, k.get (F.wv h) e⟩
  ro := ⟨F.ro.base, k.reg F.ro.on e.offR, (fun _ _ e => nomatch e)⟩
  le := F.le
  sub := F.sub
  ew := e
  fresh := F.fresh
  stor := F.stor
  mu := fun a o e => by
    obtain ⟨h1, h2, h3, h4⟩ := F.mu a o e
    exact ⟨k.get h3 h1, h2, h3, h4⟩
theorem Fra.store {x : Str} {v : Value} {d : Dat} {Q : Unit → Shared → Prop} (F : Fra C s₀ R₀ V sc env W s R Mu Δ) (hd : Rd R v d) (hQ : ∀ s', KeepsBut W s s' → Fra C s₀ R₀ V sc env W s' R Mu (upd Δ x d) → Q () s')
    (hx : sc.names.lookup x = some .local ∨ sc.names.lookup x = some .cell) : wpAny C.M A (storeName env x v) Q E s :=
  F.ew.store (F.stor x hx) hd fun s' k e => hQ s' k (F.stored k e)

/-! statements -/
theorem st_assign {x : Str} {p q : Pos} {e : Expr} {d : Dat} {rest : List Stmt} (F : Fra C s₀ R₀ V sc env W s R Mu Δ) (rm : Room n A) (he : Ev (C.at Mu) n sc Δ e d)
    (k : ∀ s' R', R.le R' → Fra C s₀ R₀ V sc env W s' R' Mu (upd Δ x d) → wpAny C.M A (execs rest env) Q E s')
    (hs : swapsWith e (some (.Name x p)) q.line env = pure false := by rfl) (hx : sc.names.lookup x = some .local ∨ sc.names.lookup x = some .cell := by first | exact Or.inl rfl | exact Or.inr rfl) :
    wpAny C.M A (execs (.Assign [.Name x p] e q :: rest) env) Q E s := by
  refine wpAny_execs_cons (wpAny_Assign_Name (noE (he A env s R rm F.rom F.eo) fun v s₁ p₁ => ?_) hs)
  exact (F.ext p₁.1).store p₁.2 (fun s' _ F' => k s' _ (Reg.ext_le F.ro.on) F') hx

theorem st_comp {α : Type} {L : List α} {enc : α → Dat} {tds : α → List Dat} {p : α → Bool} {f : α → Dat} {elt target iter : Expr} {ifs : List Expr} {pos : Pos} {scope : Scope} {x : Str} {px q : Pos} {rest : List Stmt} (xs : List Str)
    (F : Fra C s₀ R₀ V sc env W s R Mu Δ) (rm : Room n A) (hit : EvIt (C.at Mu) n sc Δ iter (L.map enc)) (hc : CompOk sc scope Δ xs)
    (hT : ∀ a ∈ L, Tgt target (enc a) xs (tds a)) (ht : ∀ a ∈ L, EvTs (C.at Mu) n (relab scope sc) (updAll (inner scope Δ) xs (tds a)) ifs (p a)) (he : ∀ a ∈ L, p a = true → Ev (C.at Mu) n (relab scope sc) (updAll (inner scope Δ) xs (tds a)) elt (f a)) (hlen : L.length ≤ sizeLine)
    (k : ∀ s' R', R.le R' → Fra C s₀ R₀ V sc env W s' R' Mu (upd Δ x (.lst ((L.filter p).map f))) → wpAny C.M A (execs rest env) Q E s')
    (hsw : swapsWith (.ListComp elt [⟨target, iter, ifs, 0⟩] scope pos) (some (.Name x px)) q.line env = pure true)
    (hx : sc.names.lookup x = some .local ∨ sc.names.lookup x = some .cell := by first | exact Or.inl rfl | exact Or.inr rfl)
    (hs : ∀ x, foldedSetIterable iter env x = pure x := by intro _; rfl) :
    wpAny C.M A (execs (.Assign [.Name x px] (.ListComp elt [⟨target, iter, ifs, 0⟩] scope pos) q :: rest) env) Q E s := by
  refine wpAny_execs_cons ?_
  rw [exec_Assign_Name_used _ _ _ _ hsw]
  refine wpAny_bind (wpAny_standAt (wpAny_bind ?_))
  show wpAny C.M A (do let _ ← comprehension (.ListComp elt [⟨target, iter, ifs, 0⟩] scope pos) scope env _ (newList []) false (eval iter env) (some (assign (.Name x px) env))) _ _ s
  refine wpAny_bind (wpAny_mono (comp_run (C := C.at Mu) (use := some (assign (.Name x px) env)) (Q := fun _ s' => ∃ R', R.le R' ∧ Fra C s₀ R₀ V sc env W s' R' Mu (upd Δ x (.lst ((L.filter p).map f)))) (E := E) rm F.rom F.eo hit hc hT ht he hlen hs ?_) (fun _ s' hq => wpAny_pure (wpAny_pure ?_)) fun _ _ e => e)
  · intro D C' s' kS hC hD hne hns hl
    obtain ⟨m, hm⟩ := hns
    obtain ⟨o, nn, ys, ho, hcl, hd, hr, _⟩ := hl
    have hCW : C' ∉ W := fun h => by obtain ⟨o, e⟩ := F.ew.isW h; rw [hC] at e; (have q_ := oNS e; clear e; exact q_.elim)
    have F' := F.ext kS
    have le' : R.le ((R.ext s.heap s'.heap).minus [C']) := fun a o e => Reg.minus_some (fun h => by
      have := F.ro.on a o e
      rw [List.mem_singleton.mp h, hC] at this; (have q_ := oNS this; clear this; exact q_.elim)) (Reg.ext_le F.ro.on a o e)
    have F₂ : Fra C s₀ R₀ V sc env W s' ((R.ext s.heap s'.heap).minus [C']) Mu Δ :=
      { F' with
        ro := ⟨F.ro.base.trans le', fun a o e => F'.ro.on a o (Reg.minus_le a o e), (fun _ _ e => nomatch e)⟩
        le := F.le.trans le'
        sub := fun a o e => F'.sub a o (Reg.minus_le a o e)
        ew := F.ew.keeps (Keeps.hle kS) le' (fun a ha => by
          cases x : (R.ext s.heap s'.heap).minus [C'] a with
          | none => rfl
          | some o => have := F'.ew.offR a ha; rw [Reg.minus_le a o x] at this; (have q_ := oSN this; clear this; exact q_.elim))
        mu := fun a o e => by
          obtain ⟨h1, h2, h3, h4⟩ := F'.mu a o e
          refine ⟨h1, ?_, h3, h4⟩
          cases x : (R.ext s.heap s'.heap).minus [C'] a with
          | none => rfl
          | some o => rw [Reg.minus_le a o x] at h2; cases h2 }
    have hv : Rd ((R.ext s.heap s'.heap).minus [C']) (.ref D) (.lst ((L.filter p).map f)) := by
      refine .lst (Reg.minus_some (by simpa using hne) (Reg.new_ext hD ho)) hcl (by rw [hd]) (hr.mono fun a o e => ?_)
      have hn : a ∉ [C', D] := fun h => by rw [Reg.minus_off h] at e; (have q_ := oNS e; clear e; exact q_.elim)
      exact Reg.minus_some (fun h => hn (by simp at h ⊢; exact .inl h)) (Reg.minus_le a o e)
    show wpAny C.M A (assign (.Name x px) env (.ref D)) _ _ _
    refine wpAny_assign_Name (F₂.store hv (fun s₃ kb₃ F₃ => ?_) hx)
    refine ⟨m, hm.at' fun o e => kb₃.get hCW e, fun h' hs' => ⟨_, le', ?_⟩⟩
    have kb : KeepsBut [C'] s₃ { s₃ with heap := h' } := ⟨h', s₃.toks, rfl, fun b o hb e => hs'.extBut b o (by simpa using hb) e⟩
    have offC : ∀ a ∈ [C'], ((R.ext s.heap s'.heap).minus [C']) a = none := fun a ha => Reg.minus_off ha
    refine { F₃ with
      keep := ?_
      vnew := fun a ha => let ⟨o, e⟩ := F₃.vnew a ha; ⟨o, kb.get (fun h => ?_) e⟩
      ro := ⟨F₃.ro.base, kb.reg F₃.ro.on offC, (fun _ _ e => nomatch e)⟩
      ew := ?_
      mu := fun a o e => ?_ }
    · obtain ⟨hh, tk, rfl, xx⟩ := F₃.keep
      refine ⟨h', tk, rfl, fun b o hb eb => hs'.extBut b o (fun h => ?_) (xx b o hb eb)⟩
      have := F.keep.get hb eb
      rw [h, hC] at this; (have q_ := oNS this; clear this; exact q_.elim)
    · obtain ⟨o, e⟩ := F.vnew a ha
      rw [List.mem_singleton.mp h, hC] at e; (have q_ := oNS e; clear e; exact q_.elim)
    · have e := F₃.ew
      have hCc : ∀ y c, env.cells.lookup y = some c → c ≠ C' := fun y c h h' => by
        obtain ⟨o, _, z, _⟩ := F.ew.calive y c h; rw [h', hC] at z; (have q_ := oNS z; clear z; exact q_.elim)
      refine ⟨⟨e.ok.hsc, e.ok.fn, e.ok.gl, e.ok.bl, fun y dy ey => ?_⟩, let ⟨m, x⟩ := e.ns; ⟨m, x.sameBut hs' fun h => hCW (h ▸ e.locW)⟩, e.locW, fun c hc hn => let ⟨v, x⟩ := e.alive c hc hn; ⟨v, x.sameBut hs' fun h => hCW (h ▸ hc)⟩, e.offR, e.inj, e.locne, fun y c h => let ⟨o, z⟩ := e.calive y c h; ⟨o, z.sameBut hs' (hCc y c h)⟩⟩
      obtain ⟨v, hv, hr⟩ := e.ok.vars y dy ey
      refine ⟨v, ?_, hr⟩
      rcases hv with ⟨a1, m1, a2, a3⟩ | ⟨a1, c1, a2, a3⟩ | ⟨a1, c1, a2, a3⟩
      · exact .inl ⟨a1, m1, a2.sameBut hs' fun h => hCW (h ▸ e.locW), a3⟩
      · exact .inr (.inl ⟨a1, c1, a2, a3.sameBut hs' (hCc _ _ a2)⟩)
      · exact .inr (.inr ⟨a1, c1, a2, a3.sameBut hs' (hCc _ _ a2)⟩)
    · obtain ⟨h1, h2, h3, h4⟩ := F₃.mu a o e
      refine ⟨kb.get (fun h => ?_) h1, h2, h3, h4⟩
      obtain ⟨g1, _⟩ := F.mu a o e
      rw [List.mem_singleton.mp h, hC] at g1; (have q_ := oNS g1; clear g1; exact q_.elim)
  · obtain ⟨R', hR, F'⟩ := hq
    exact k s' R' hR F'
end
end Mine
end
noncomputable section
open PySem PySem.W PyProof.Rows PySem.SeqAt PySem.MeetsSeq
set_option Elab.async false
set_option autoImplicit false
namespace Mine

noncomputable def Reg.set (M : Reg) (a : Addr) (o : Obj) : Reg := fun b => if b = a then some o else M b
noncomputable def Reg.del (M : Reg) (a : Addr) : Reg := fun b => if b = a then none else M b
theorem Reg.set_self (M : Reg) (a : Addr) (o : Obj) : M.set a o a = some o := by simp [Reg.set]
theorem Reg.set_ne (M : Reg) {a b : Addr} (o : Obj) (h : b ≠ a) : M.set a o b = M b := by simp [Reg.set, h]
noncomputable abbrev lstObj (vs : List Value) (n : Nat) : Obj := { cls := .type "list", data := .seq vs.toArray n }

section
variable {C : Cx} {s₀ : Shared} {R₀ : Reg} {V : List Addr} {sc : Scope} {env : Env} {W : List Addr} {s s' : Shared} {R R' Mu Mu' : Reg} {Δ Δ' : Vars} {n : Nat} {A : Around} {E : Value → Shared → Prop} {Q : Flow → Shared → Prop}

/- one mutable object is changed -/
theorem Fra.mut {a : Addr} {o o' : Obj} {h' : Heap} {tk : Nat} (F : Fra C s₀ R₀ V sc env W s R Mu Δ) (hm : Mu a = some o) (hnc : ∀ v, o.data ≠ .cell v) (hs : Heap.SameBut a s.heap h') (ho : h'.get? a = some o') :
    Fra C s₀ R₀ V sc env W { s with heap := h', toks := tk } R (Mu.set a o') Δ := by
  obtain ⟨g1, g2, g3, g4⟩ := F.mu a o hm
  have kb : KeepsBut [a] s { s with heap := h', toks := tk } := ⟨h', tk, rfl, fun b o hb e => hs.extBut b o (by simpa using hb) e⟩
  have hnv : ∀ {c : Addr} {v : Option Value}, s.heap.IsCell c v → c ≠ a := fun x h => by
    obtain ⟨oc, e, d⟩ := x
    rw [h, g1] at e; (have q_ := oSS e; clear e; subst q_); exact hnc _ d
  refine ⟨?_, F.vold, fun b hb => ?_, ⟨F.ro.base, kb.reg F.ro.on fun b hb => by rw [List.mem_singleton.mp hb]; exact g2, (fun _ _ e => nomatch e)⟩, F.le, F.sub, ?_, F.fresh, F.stor, fun b ob e => ?_⟩
  · obtain ⟨h, tk', rfl, x⟩ := F.keep
    refine ⟨h', tk, rfl, fun b o hb eb => hs.extBut b o (fun h => ?_) (x b o hb eb)⟩
    subst h
    rcases g4 with g4 | g4
    · exact hb g4
    · rw [g4] at eb; (have q_ := oNS eb; clear eb; exact q_.elim)
  · by_cases h : b = a
    · subst h; exact ⟨_, ho⟩
    · obtain ⟨o, e⟩ := F.vnew b hb; exact ⟨o, hs.extBut _ _ h e⟩
  · have e := F.ew
    refine ⟨⟨e.ok.hsc, e.ok.fn, e.ok.gl, e.ok.bl, fun y dy ey => ?_⟩, let ⟨m, x⟩ := e.ns; ⟨m, x.sameBut hs fun h => g3 (h ▸ e.locW)⟩, e.locW, fun c hc hn => let ⟨v, x⟩ := e.alive c hc hn; ⟨v, x.sameBut hs fun h => g3 (h ▸ hc)⟩, e.offR, e.inj, e.locne, fun y c h => ?_⟩
    · obtain ⟨v, hv, hr⟩ := e.ok.vars y dy ey
      refine ⟨v, ?_, hr⟩
      rcases hv with ⟨a1, m1, a2, a3⟩ | ⟨a1, c1, a2, a3⟩ | ⟨a1, c1, a2, a3⟩
      · exact .inl ⟨a1, m1, a2.sameBut hs fun h => g3 (h ▸ e.locW), a3⟩
      · exact .inr (.inl ⟨a1, c1, a2, a3.sameBut hs (hnv a3)⟩)
      · exact .inr (.inr ⟨a1, c1, a2, a3.sameBut hs (hnv a3)⟩)
    · obtain ⟨o, z⟩ := e.calive y c h; exact ⟨o, z.sameBut hs (hnv z)⟩
  · by_cases h : b = a
    · subst h; rw [Reg.set_self] at e; (have q_ := oSS e; clear e; subst q_); exact ⟨ho, g2, g3, g4⟩
    · rw [Reg.set_ne _ _ h] at e
      obtain ⟨h1, h2, h3, h4⟩ := F.mu b ob e
      exact ⟨hs.extBut _ _ h h1, h2, h3, h4⟩
/- forget mutable objects -/
theorem Fra.fewer (F : Fra C s₀ R₀ V sc env W s R Mu Δ) (h : Mu'.le Mu) : Fra C s₀ R₀ V sc env W s R Mu' Δ := { F with mu := fun a o e => F.mu a o (h a o e) }
/- an object is taken out of the region -/
theorem Fra.own {a : Addr} {o : Obj} (F : Fra C s₀ R₀ V sc env W s R Mu Δ) (ha : s.heap.get? a = some o) (hR : R a = none) (hW : a ∉ W) (h0 : s₀.heap.get? a = none) : Fra C s₀ R₀ V sc env W s R (Mu.set a o) Δ := by
  have hmu : ∀ b ob, Mu.set a o b = some ob → s.heap.get? b = some ob ∧ R b = none ∧ b ∉ W ∧ (b ∈ V ∨ s₀.heap.get? b = none) := fun b ob e => by
    by_cases h : b = a
    · subst h; rw [Reg.set_self] at e; (have q_ := oSS e; clear e; subst q_); exact ⟨ha, hR, hW, .inr h0⟩
    · rw [Reg.set_ne _ _ h] at e; exact F.mu b ob e
  exact { F with mu := hmu }
/- a mutable object will change no more -/
theorem Fra.freeze {a : Addr} {o : Obj} (F : Fra C s₀ R₀ V sc env W s R Mu Δ) (hm : Mu a = some o) (hv : a ∉ V) : Fra C s₀ R₀ V sc env W s (R.set a o) (Mu.del a) Δ := by
  obtain ⟨g1, g2, g3, g4⟩ := F.mu a o hm
  have le : R.le (R.set a o) := fun b ob e => by
    by_cases h : b = a
    · subst h; rw [g2] at e; (have q_ := oNS e; clear e; exact q_.elim)
    · rw [Reg.set_ne _ _ h]; exact e
  refine { F with ro := ⟨F.ro.base.trans le, fun b ob e => ?_, (fun _ _ e => nomatch e)⟩, le := F.le.trans le, sub := fun b ob e => ?_, ew := F.ew.keeps (hle.refl _) le (fun b hb => ?_), mu := fun b ob e => ?_ }
  · by_cases h : b = a
    · subst h; rw [Reg.set_self] at e; (have q_ := oSS e; clear e; subst q_); exact g1
    · rw [Reg.set_ne _ _ h] at e; exact F.ro.on b ob e
  · by_cases h : b = a
    · subst h; exact .inr (g4.resolve_left hv)
    · rw [Reg.set_ne _ _ h] at e; exact F.sub b ob e
  · have hba : b ≠ a := fun h => g3 (h ▸ hb)
    rw [Reg.set_ne _ _ hba]; exact F.ew.offR b hb
  · by_cases h : b = a
    · subst h; simp [Reg.del] at e
    · simp only [Reg.del, h, if_false] at e
      obtain ⟨h1, h2, h3, h4⟩ := F.mu b ob e
      exact ⟨h1, by rw [Reg.set_ne _ _ h]; exact h2, h3, h4⟩
theorem Fra.freeze_le {a : Addr} {o : Obj} (F : Fra C s₀ R₀ V sc env W s R Mu Δ) (hm : Mu a = some o) : R.le (R.set a o) := fun b ob e => by
  obtain ⟨g1, g2, g3, g4⟩ := F.mu a o hm
  by_cases h : b = a
  · subst h; rw [g2] at e; (have q_ := oNS e; clear e; exact q_.elim)
  · rw [Reg.set_ne _ _ h]; exact e
/- another reading of a variable -/
theorem Fra.reread {x : Str} {v : Value} {d : Dat} (F : Fra C s₀ R₀ V sc env W s R Mu Δ) (hx : Δ x = some (.val v)) (hd : Rd R v d) : Fra C s₀ R₀ V sc env W s R Mu (upd Δ x d) := by
  have hv : ∀ y dy, upd Δ x d y = some dy → ∃ v, Var env s.heap y v ∧ Rd R v dy := fun y dy e => by
    simp only [upd] at e
    split at e
    · rename_i h; subst h; (have q_ := oSS e; clear e; subst q_)
      obtain ⟨v', hv, hr⟩ := F.ew.ok.vars y _ hx
      (have q_ := Rd.valE hr; clear hr; subst q_); exact ⟨_, hv, hd⟩
    · exact F.ew.ok.vars y dy e
  exact { F with ew := { F.ew with ok := { F.ew.ok with vars := hv } } }

theorem st_aug {x : Str} {p q : Pos} {op : Operator} {e : Expr} {d₀ d₁ d : Dat} {rest : List Stmt} (F : Fra C s₀ R₀ V sc env W s R Mu Δ) (rm : Room n A) (hx : Δ x = some d₀) (he : Ev (C.at Mu) n sc Δ e d₁) (ho : Op2 (C.at Mu) n (inplaceOp op) d₀ d₁ d)
    (k : ∀ s' R', R.le R' → Fra C s₀ R₀ V sc env W s' R' Mu (upd Δ x d) → wpAny C.M A (execs rest env) Q E s')
    (hk : sc.names.lookup x = some .local ∨ sc.names.lookup x = some .cell := by first | exact Or.inl rfl | exact Or.inr rfl) (hn : (x == ("__classdict__" : Str)) = false := by decide +kernel) :
    wpAny C.M A (execs (.AugAssign (.Name x p) op e q :: rest) env) Q E s := by
  obtain ⟨v₀, hv₀, hr₀⟩ := F.eo.vars x d₀ hx
  refine wpAny_execs_cons (wpAny_AugAssign_Name (wpAny_var (F.eo.hsc ▸ F.eo.fn) hv₀ ?_ hn))
  refine noE (he A env s R rm F.rom F.eo) fun v s₁ p₁ => ?_
  have F₁ := F.ext p₁.1
  refine noE (ho A s₁ _ v₀ v rm F₁.rom (hr₀.mono (Reg.ext_le F.ro.on)) p₁.2) fun r s₂ p₂ => ?_
  exact (F₁.ext p₂.1).store p₂.2 (fun s' _ F' => k s' _ ((Reg.ext_le F.ro.on).trans (Reg.ext_le F₁.ro.on)) F') hk
theorem st_ret {e : Expr} {d : Dat} {p : Pos} {rest : List Stmt} (F : Fra C s₀ R₀ V sc env W s R Mu Δ) (rm : Room n A) (he : Ev (C.at Mu) n sc Δ e d)
    (k : ∀ s' R' v, R.le R' → Fra C s₀ R₀ V sc env W s' R' Mu Δ → Rd R' v d → Q (.ret v) s') : wpAny C.M A (execs (.Return (some e) p :: rest) env) Q E s := by
  refine wpAny_execs_cons (wpAny_Return_some (noE (he A env s R rm F.rom F.eo) fun v s₁ p₁ => ?_))
  exact k s₁ _ v (Reg.ext_le F.ro.on) (F.ext p₁.1) p₁.2

theorem st_if {t : Expr} {b : Bool} {body orelse rest : List Stmt} {p : Pos} (F : Fra C s₀ R₀ V sc env W s R Mu Δ) (rm : Room n A) (ht : EvT (C.at Mu) n sc Δ t b)
    (k : ∀ s' R', R.le R' → Fra C s₀ R₀ V sc env W s' R' Mu Δ → wpAny C.M A (execs (if b then body else orelse) env) (fun f s₂ => match f with | .next => wpAny C.M A (execs rest env) Q E s₂ | f => Q f s₂) E s') :
    wpAny C.M A (execs (.If t body orelse p :: rest) env) Q E s := by
  refine wpAny_execs_cons (wpAny_If (noE (ht A env s R rm F.rom F.eo) fun c s₁ p₁ => ?_))
  obtain ⟨k₁, rfl⟩ := p₁
  have := k s₁ _ (Reg.ext_le F.ro.on) (F.ext k₁)
  cases c
  · exact this
  · exact this
theorem st_nil (h : Q .next s) : wpAny C.M A (execs [] env) Q E s := wpAny_execs_nil h

/- the entries of a mutable region outside T are kept -/
noncomputable def Reg.keepsOff (T : List Addr) (Mu Mu' : Reg) : Prop := ∀ a o, a ∉ T → Mu a = some o → Mu' a = some o

/- mutable objects are changed, others are made -/
theorem Fra.step {X : List Addr} (F : Fra C s₀ R₀ V sc env W s R Mu Δ) (k : KeepsBut X s s') (hX : ∀ a ∈ X, ∃ o, Mu a = some o) (hX' : ∀ a ∈ X, a ∈ V → ∃ o, s'.heap.get? a = some o) (hcx : ∀ y c, env.cells.lookup y = some c → c ∉ X) :
    Fra C s₀ R₀ V sc env W s' (R.ext s.heap s'.heap) (fun a => if a ∈ X then s'.heap.get? a else Mu a) Δ := by
  have offW : ∀ a ∈ X, a ∉ W := fun a ha => by obtain ⟨o, e⟩ := hX a ha; exact (F.mu a o e).2.2.1
  have onR : ∀ a o, R a = some o → a ∉ X := fun a o e h => by obtain ⟨o', e'⟩ := hX a h; rw [(F.mu a o' e').2.1] at e; (have q_ := oNS e; clear e; exact q_.elim)
  have up : R.le (R.ext s.heap s'.heap) := Reg.ext_le F.ro.on
  have on' : (R.ext s.heap s'.heap).on s'.heap := fun a o e => by
    simp only [Reg.ext] at e
    split at e
    · exact k.get (onR a o e) (F.ro.on a o e)
    · exact e
  have dead : ∀ a, s.heap.get? a = none → s₀.heap.get? a = none := fun a h => by
    cases x : s₀.heap.get? a with
    | none => rfl
    | some o' =>
      exfalso
      by_cases hv : a ∈ V
      · obtain ⟨o, e⟩ := F.vnew a hv; rw [h] at e; (have q_ := oNS e; clear e; exact q_.elim)
      · rw [F.keep.get hv x] at h; (have q_ := oSN h; clear h; exact q_.elim)
  refine ⟨?_, F.vold, fun a ha => ?_, ⟨F.ro.base.trans up, on', (fun _ _ e => nomatch e)⟩, F.le.trans up, fun a o e => ?_, ?_, F.fresh, F.stor, fun a o e => ?_⟩
  · obtain ⟨h, tk, rfl, x⟩ := F.keep
    obtain ⟨h', tk', rfl, x'⟩ := k
    refine ⟨h', tk', rfl, fun b o hb eb => x' b o (fun hx => ?_) (x b o hb eb)⟩
    obtain ⟨o', e'⟩ := hX b hx
    rcases (F.mu b o' e').2.2.2 with q | q
    · exact hb q
    · rw [q] at eb; (have q_ := oNS eb; clear eb; exact q_.elim)
  · by_cases hx : a ∈ X
    · exact hX' a hx ha
    · obtain ⟨o, e⟩ := F.vnew a ha; exact ⟨o, k.get hx e⟩
  · simp only [Reg.ext] at e
    split at e
    · exact F.sub a o e
    · rename_i h; exact .inr (dead a h)
  · have e := F.ew
    refine ⟨⟨e.ok.hsc, e.ok.fn, e.ok.gl, e.ok.bl, fun y dy ey => ?_⟩, let ⟨m, x⟩ := e.ns; ⟨m, x.at' fun o eo => k.get (fun h => offW _ h e.locW) eo⟩, e.locW, fun c hc hn => ?_, fun a ha => let ⟨_, x⟩ := e.isW ha; ext_off x (e.offR a ha), e.inj, e.locne, fun y c h => let ⟨v, o, z, zd⟩ := e.calive y c h; ⟨v, o, k.get (hcx y c h) z, zd⟩⟩
    · obtain ⟨v, hv, hr⟩ := e.ok.vars y dy ey
      refine ⟨v, ?_, hr.mono up⟩
      rcases hv with ⟨a1, m1, a2, a3⟩ | ⟨a1, c1, a2, o, a3, a4⟩ | ⟨a1, c1, a2, o, a3, a4⟩
      · exact .inl ⟨a1, m1, a2.at' fun o eo => k.get (fun h => offW _ h e.locW) eo, a3⟩
      · exact .inr (.inl ⟨a1, c1, a2, o, k.get (hcx _ _ a2) a3, a4⟩)
      · exact .inr (.inr ⟨a1, c1, a2, o, k.get (hcx _ _ a2) a3, a4⟩)
    · obtain ⟨v, o, x, d⟩ := e.alive c hc hn
      exact ⟨v, o, k.get (fun h => offW _ h hc) x, d⟩
  · by_cases hx : a ∈ X
    · simp only [hx, if_true] at e
      obtain ⟨o', e'⟩ := hX a hx
      obtain ⟨h1, h2, h3, h4⟩ := F.mu a o' e'
      exact ⟨e, ext_off h1 h2, h3, h4⟩
    · simp only [hx, if_false] at e
      obtain ⟨h1, h2, h3, h4⟩ := F.mu a o e
      exact ⟨k.get hx h1, ext_off h1 h2, h3, h4⟩
/- new objects, some of them mutable -/
theorem Fra.begin {X : List Addr} (F : Fra C s₀ R₀ V sc env W s R Mu Δ) (k : Keeps s s') (hX : ∀ a ∈ X, s.heap.get? a = none) :
    Fra C s₀ R₀ V sc env W s' ((R.ext s.heap s'.heap).minus X) (fun a => if a ∈ X then s'.heap.get? a else Mu a) Δ := by
  have F' := F.ext k
  have le' : R.le ((R.ext s.heap s'.heap).minus X) := fun a o e => Reg.minus_some (fun h => by
    have := F.ro.on a o e
    rw [hX a h] at this; (have q_ := oNS this; clear this; exact q_.elim)) (Reg.ext_le F.ro.on a o e)
  have down : ∀ a, (R.ext s.heap s'.heap) a = none → ((R.ext s.heap s'.heap).minus X) a = none := fun a h => by
    cases x : (R.ext s.heap s'.heap).minus X a with
    | none => rfl
    | some o => rw [Reg.minus_le a o x] at h; (have q_ := oSN h; clear h; exact q_.elim)
  have dead : ∀ a, s.heap.get? a = none → s₀.heap.get? a = none := fun a h => by
    cases x : s₀.heap.get? a with
    | none => rfl
    | some o' =>
      exfalso
      by_cases hv : a ∈ V
      · obtain ⟨o, e⟩ := F.vnew a hv; rw [h] at e; (have q_ := oNS e; clear e; exact q_.elim)
      · rw [F.keep.get hv x] at h; (have q_ := oSN h; clear h; exact q_.elim)
  refine { F' with ro := ⟨F.ro.base.trans le', fun a o e => F'.ro.on a o (Reg.minus_le a o e), (fun _ _ e => nomatch e)⟩, le := F.le.trans le', sub := fun a o e => F'.sub a o (Reg.minus_le a o e), ew := F.ew.keeps (Keeps.hle k) le' (fun a ha => down a (F'.ew.offR a ha)), mu := fun a o e => ?_ }
  by_cases hx : a ∈ X
  · simp only [hx, if_true] at e
    refine ⟨e, Reg.minus_off hx, fun h => ?_, .inr (dead a (hX a hx))⟩
    obtain ⟨o, z⟩ := F.ew.isW h; rw [hX a hx] at z; (have q_ := oNS z; clear z; exact q_.elim)
  · simp only [hx, if_false] at e
    obtain ⟨h1, h2, h3, h4⟩ := F'.mu a o e
    exact ⟨h1, down a h2, h3, h4⟩

/- the turns of a for: J is what holds of the region and of the mutable objects of X between the turns; X grows only by new ones -/
theorem for_loop {α : Type} {L : List α} {enc : α → Dat} {tds : α → List Dat} {target : Expr} {body rest : List Stmt} {it : Value} {s₂ : Shared} (xs : List Str) (T : List Addr) (Δs : Nat → Vars) (J : Nat → Reg → Reg → List Addr → Prop)
    (F : Fra C s₀ R₀ V sc env W s R Mu Δ) (rm : Room n A) (h₂ : Keeps s s₂ ∧ ∃ wr St, Iter (C.at (Mu.minus T)) it wr (L.map enc) ((R.ext s.heap s₂.heap).minus wr) St ∧ St 0 s₂.heap ∧ (∀ a ∈ wr, s.heap.get? a = none)) (hΔ : ∀ x d, Δs 0 x = some d → Δ x = some d) (hT0 : ∀ a ∈ T, ∃ o, Mu a = some o)
    (hxs : ∀ x ∈ xs, sc.names.lookup x = some .local ∨ sc.names.lookup x = some .cell) (hT : ∀ a ∈ L, Tgt target (enc a) xs (tds a))
    (Jm : ∀ i R R' Mu Mu' X, J i R Mu X → R.le R' → (∀ a ∈ X, Mu' a = Mu a) → J i R' Mu' X) (h0 : J 0 R Mu T)
    (turn : ∀ i a s' R' Mu' X, L[i]? = some a → R.le R' → Reg.keepsOff T Mu Mu' → (∀ a ∈ X, a ∈ T ∨ Mu a = none) → Fra C s₀ R₀ V sc env W s' R' Mu' (updAll (Δs i) xs (tds a)) → J i R' Mu' X →
      wpAny C.M A (execs body env) (fun f s₂ => match f with
        | .next | .cont => ∃ R₂ Mu₂ X₂, R'.le R₂ ∧ Reg.keepsOff X Mu' Mu₂ ∧ (∀ a ∈ X₂, a ∈ X ∨ s'.heap.get? a = none) ∧ Fra C s₀ R₀ V sc env W s₂ R₂ Mu₂ (Δs (i + 1)) ∧ J (i + 1) R₂ Mu₂ X₂
        | .brk => wpAny C.M A (execs rest env) Q E s₂
        | .ret v => Q (.ret v) s₂) NoE s')
    (done : ∀ s' R' Mu' X, R.le R' → Reg.keepsOff T Mu Mu' → (∀ a ∈ X, a ∈ T ∨ Mu a = none) → Fra C s₀ R₀ V sc env W s' R' Mu' (Δs L.length) → J L.length R' Mu' X → wpAny C.M A (execs rest env) Q E s') :
    codeAny C.M A (.forLoop target it body [] env) (fun r s' => match r with | .ok f => (match f with | .next => wpAny C.M A (execs rest env) Q E s' | f => Q f s') | .error e => cameBackBy C.M A env E e s') s₂ := by
  obtain ⟨k₂, wr, St, It, st, hw⟩ := h₂
  have F₁ := F.begin k₂ hw
  have hcw : ∀ y c, env.cells.lookup y = some c → c ∉ wr := fun y c h hc => by
    obtain ⟨_, o, z, _⟩ := F.ew.calive y c h; rw [hw c hc] at z; (have q_ := oNS z; clear z; exact q_.elim)
  have hTw : ∀ a ∈ T, a ∉ wr := fun a ha h => by
    obtain ⟨o, e⟩ := hT0 a ha
    have := (F.mu a o e).1
    rw [hw a h] at this; (have q_ := oNS this; clear this; exact q_.elim)
  have hMw : ∀ a o, Mu a = some o → a ∉ wr := fun a o e h => by
    have := (F.mu a o e).1
    rw [hw a h] at this; (have q_ := oNS this; clear this; exact q_.elim)
  have up₁ : R.le ((R.ext s.heap s₂.heap).minus wr) := fun a o e => Reg.minus_some (fun h => by
    have := F.ro.on a o e
    rw [hw a h] at this; (have q_ := oNS this; clear this; exact q_.elim)) (Reg.ext_le F.ro.on a o e)
  generalize hR₁ : (R.ext s.heap s₂.heap).minus wr = R₁ at *
  refine codeAny_loop' rfl (fun k s' => ∃ i R' Mu' X, i ≤ L.length ∧ k = L.length + 1 - i ∧ R₁.le R' ∧ Reg.keepsOff T Mu Mu' ∧ (∀ a ∈ X, a ∈ T ∨ Mu a = none) ∧ (∀ a ∈ X, a ∉ wr) ∧ Fra C s₀ R₀ V sc env W s' R' Mu' (Δs i) ∧ J i R' Mu' X ∧ St i s'.heap ∧ ∀ a ∈ wr, ∃ o, Mu' a = some o) (fun k s' hI => ?_) (L.length + 1)
    ⟨0, R₁, _, T, Nat.zero_le _, rfl, .refl _, fun a o hT e => by simp only [hMw a o e, if_false]; exact e, fun a ha => .inl ha, hTw, F₁.weak hΔ, Jm _ _ _ _ _ _ h0 up₁ (fun a ha => by simp only [hTw a ha, if_false]), st, fun a ha => by
      obtain ⟨o, e⟩ := It.alive _ _ st a ha; exact ⟨o, by simp only [ha, if_true]; exact e⟩⟩
  obtain ⟨i, R', Mu', X, hi, rfl, hR', hK, hXT, hXw, F', hJ, st', hwM⟩ := hI
  show wpAny _ _ ((forTurn target it body [] env).onRaise (fun x => do noteFrame x env; theTreesLotGoes x)) _ _ s'
  refine wpAny_noted ?_
  simp only [forTurn]
  refine wpAny_bind (wpAny_standAt (wpAny_bind (wpAny_onRaise ?_)))
  by_cases hlt : i < L.length
  · have hg : (L.map enc)[i]? = some (enc L[i]) := by simp [hlt]
    have hmem : L[i] ∈ L := List.getElem_mem hlt
    refine noE (It.next A i s' R' _ rm.handled hg st' hR' F'.ro.on (fun a ha => let ⟨o, e⟩ := hwM a ha; (F'.mu a o e).2.1)) fun r s₃ h₃ => ?_
    obtain ⟨v, rfl, st₃, kb₃, hv⟩ := h₃
    have F₃ := F'.step kb₃ hwM (fun a ha _ => It.alive _ _ st₃ a ha) hcw
    have hJ₃ := Jm _ _ (R'.ext s'.heap s₃.heap) _ (fun a => if a ∈ wr then s₃.heap.get? a else Mu' a) X hJ (Reg.ext_le F'.ro.on) (fun a ha => by simp only [hXw a ha, if_false])
    refine wpAny_bind (It.letgo A (i + 1) s₃ target v _ _ (fun _ _ _ => trivial) st₃ fun s₄ st₄ kb₄ => ?_)
    have F₄ := F₃.step kb₄ (fun a ha => by simp only [ha, if_true]; exact It.alive _ _ st₃ a ha) (fun a ha _ => It.alive _ _ st₄ a ha) hcw
    have hJ₄ := Jm _ _ ((R'.ext s'.heap s₃.heap).ext s₃.heap s₄.heap) _ (fun a => if a ∈ wr then s₄.heap.get? a else (if a ∈ wr then s₃.heap.get? a else Mu' a)) X hJ₃ (Reg.ext_le F₃.ro.on) (fun a ha => by simp only [hXw a ha, if_false])
    refine wpAny_bind (assign_tgt (C := C.at noM) rm.handled (hT _ hmem) F₄.ro F₄.ew (fun x hx => F₄.stor x (hxs x hx)) (hv.mono (Reg.ext_le F₃.ro.on)) fun s₅ kb₅ E₅ => ?_)
    have F₅ := F₄.stored kb₅ E₅
    have hwW : ∀ b ∈ wr, b ∉ W := fun b hb h => by obtain ⟨o, z⟩ := F.ew.isW h; rw [hw b hb] at z; (have q_ := oNS z; clear z; exact q_.elim)
    have hK₅ : Reg.keepsOff T Mu (fun a => if a ∈ wr then s₄.heap.get? a else (if a ∈ wr then s₃.heap.get? a else Mu' a)) := fun a o hT e => by
      simp only [hMw a o e, if_false]; exact hK a o hT e
    have st₅ : St (i + 1) s₅.heap := It.frame _ _ _ st₄ (fun b hb o e => kb₅.get (hwW b hb) e) (F₅.ro.on.le (hR'.trans ((Reg.ext_le F'.ro.on).trans (Reg.ext_le F₃.ro.on)))) (fun a o e => (F₅.mu a o (hK₅ a o (fun h => by change (Mu.minus T) a = some o at e; rw [Reg.minus_off h] at e; (have q_ := oNS e; clear e; exact q_.elim)) (Reg.minus_le a o e))).1)
    refine wpAny_bind (noE (turn i L[i] s₅ _ _ X (by simp [hlt]) (up₁.trans (hR'.trans ((Reg.ext_le F'.ro.on).trans (Reg.ext_le F₃.ro.on)))) hK₅ hXT F₅ hJ₄) fun f s₆ h₆ => ?_)
    have hMX : ∀ a o, a ∉ T → Mu a = some o → a ∉ X := fun a o h e hx => by
      rcases hXT a hx with q | q
      · exact h q
      · rw [e] at q; (have q_ := oSN q; clear q; exact q_.elim)
    have fin : (∃ R₂ Mu₂ X₂, ((R'.ext s'.heap s₃.heap).ext s₃.heap s₄.heap).le R₂ ∧ Reg.keepsOff X (fun a => if a ∈ wr then s₄.heap.get? a else (if a ∈ wr then s₃.heap.get? a else Mu' a)) Mu₂ ∧ (∀ a ∈ X₂, a ∈ X ∨ s₅.heap.get? a = none) ∧ Fra C s₀ R₀ V sc env W s₆ R₂ Mu₂ (Δs (i + 1)) ∧ J (i + 1) R₂ Mu₂ X₂) →
        ∃ m, m < L.length + 1 - i ∧ ∃ i R' Mu' X, i ≤ L.length ∧ m = L.length + 1 - i ∧ R₁.le R' ∧ Reg.keepsOff T Mu Mu' ∧ (∀ a ∈ X, a ∈ T ∨ Mu a = none) ∧ (∀ a ∈ X, a ∉ wr) ∧ Fra C s₀ R₀ V sc env W s₆ R' Mu' (Δs i) ∧ J i R' Mu' X ∧ St i s₆.heap ∧ ∀ a ∈ wr, ∃ o, Mu' a = some o := by
      rintro ⟨R₂, Mu₂, X₂, l₂, K₂, hX₂, F₂, J₂⟩
      have hobj : ∀ b ∈ wr, ∀ o, s₅.heap.get? b = some o → Mu₂ b = some o := fun b hb o e => by
        obtain ⟨o', e'⟩ := It.alive _ _ st₅ b hb
        have e4 : (fun a => if a ∈ wr then s₄.heap.get? a else (if a ∈ wr then s₃.heap.get? a else Mu' a)) b = s₄.heap.get? b := by simp only [hb, if_true]
        obtain ⟨o4, h4⟩ := It.alive _ _ st₄ b hb
        have h5 := kb₅.get (hwW b hb) h4
        rw [h5] at e; (have q_ := oSS e; clear e; subst q_)
        exact K₂ b _ (fun h => hXw b h hb) (e4.trans h4)
      have dead5 : ∀ a, a ∉ T → s₅.heap.get? a = none → Mu a = none := fun a hT h => by
        cases x : Mu a with
        | none => rfl
        | some o' => have := (F₅.mu a o' (hK₅ a o' hT x)).1; rw [h] at this; (have q_ := oNS this; clear this; exact q_.elim)
      refine ⟨L.length + 1 - (i + 1), by omega, i + 1, R₂, Mu₂, X₂, hlt, rfl, ?_, ?_, ?_, ?_, F₂, J₂, ?_, ?_⟩
      · exact hR'.trans ((Reg.ext_le F'.ro.on).trans ((Reg.ext_le F₃.ro.on).trans l₂))
      · exact fun a o hT e => K₂ a o (hMX a o hT e) (hK₅ a o hT e)
      · intro a ha
        rcases hX₂ a ha with q | q
        · exact hXT a q
        · by_cases hT : a ∈ T
          · exact .inl hT
          · exact .inr (dead5 a hT q)
      · intro a ha
        rcases hX₂ a ha with q | q
        · exact hXw a q
        · intro h; obtain ⟨o, z⟩ := It.alive _ _ st₅ a h; rw [q] at z; (have q_ := oNS z; clear z; exact q_.elim)
      · exact It.frame _ _ _ st₅ (fun b hb o e => (F₂.mu b o (hobj b hb o e)).1) (F₂.ro.on.le (hR'.trans ((Reg.ext_le F'.ro.on).trans ((Reg.ext_le F₃.ro.on).trans l₂)))) (fun a o e => (F₂.mu a o (K₂ a o (hMX a o (fun h => by change (Mu.minus T) a = some o at e; rw [Reg.minus_off h] at e; (have q_ := oNS e; clear e; exact q_.elim)) (Reg.minus_le a o e)) (hK₅ a o (fun h => by change (Mu.minus T) a = some o at e; rw [Reg.minus_off h] at e; (have q_ := oNS e; clear e; exact q_.elim)) (Reg.minus_le a o e)))).1)
      · intro b hb
        obtain ⟨o', e'⟩ := It.alive _ _ st₅ b hb
        exact ⟨o', hobj b hb o' e'⟩
    cases f with
    | next => exact wpAny_pure (.inl ⟨rfl, fin h₆⟩)
    | cont => exact wpAny_pure (.inl ⟨rfl, fin h₆⟩)
    | brk => exact wpAny_pure h₆
    | ret v => exact wpAny_pure h₆
  · have hin : i = L.length := by omega
    subst hin
    refine noE (It.done A s' rm.handled (by simpa using st')) fun r s₃ h₃ => ?_
    obtain ⟨rfl, kb₃⟩ := h₃
    have F₃ := F'.step kb₃ hwM (fun a ha hv => by obtain ⟨o, e⟩ := F.vnew a hv; rw [hw a ha] at e; (have q_ := oNS e; clear e; exact q_.elim)) hcw
    have hJ₃ := Jm _ _ (R'.ext s'.heap s₃.heap) _ (fun a => if a ∈ wr then s₃.heap.get? a else Mu' a) X hJ (Reg.ext_le F'.ro.on) (fun a ha => by simp only [hXw a ha, if_false])
    refine wpAny_pure (.inr ⟨rfl, codeAny_block (wpAny_execs_nil ?_)⟩)
    refine done s₃ _ _ X (up₁.trans (hR'.trans (Reg.ext_le F'.ro.on))) (fun a o hT e => ?_) hXT F₃ hJ₃
    simp only [hMw a o e, if_false]; exact hK a o hT e

/- a for: J is what holds of the region and of the mutable objects of T between the turns -/
theorem st_for {α : Type} {L : List α} {enc : α → Dat} {tds : α → List Dat} {target iter : Expr} {body rest : List Stmt} {p : Pos} (xs : List Str) (T : List Addr) (Δs : Nat → Vars) (J : Nat → Reg → Reg → Prop)
    (F : Fra C s₀ R₀ V sc env W s R Mu Δ) (rm : Room n A) (hit : EvIt (C.at (Mu.minus T)) n sc Δ iter (L.map enc)) (hΔ : ∀ x d, Δs 0 x = some d → Δ x = some d) (hT0 : ∀ a ∈ T, ∃ o, Mu a = some o)
    (hxs : ∀ x ∈ xs, sc.names.lookup x = some .local ∨ sc.names.lookup x = some .cell) (hT : ∀ a ∈ L, Tgt target (enc a) xs (tds a))
    (Jm : ∀ i R R' Mu Mu', J i R Mu → R.le R' → (∀ a ∈ T, Mu' a = Mu a) → J i R' Mu') (h0 : J 0 R Mu)
    (turn : ∀ i a s' R' Mu', L[i]? = some a → R.le R' → Reg.keepsOff T Mu Mu' → Fra C s₀ R₀ V sc env W s' R' Mu' (updAll (Δs i) xs (tds a)) → J i R' Mu' →
      wpAny C.M A (execs body env) (fun f s₂ => match f with
        | .next | .cont => ∃ R₂ Mu₂, R'.le R₂ ∧ Reg.keepsOff T Mu' Mu₂ ∧ Fra C s₀ R₀ V sc env W s₂ R₂ Mu₂ (Δs (i + 1)) ∧ J (i + 1) R₂ Mu₂
        | .brk => wpAny C.M A (execs rest env) Q E s₂
        | .ret v => Q (.ret v) s₂) NoE s')
    (done : ∀ s' R' Mu', R.le R' → Reg.keepsOff T Mu Mu' → Fra C s₀ R₀ V sc env W s' R' Mu' (Δs L.length) → J L.length R' Mu' → wpAny C.M A (execs rest env) Q E s')
    (hs : ∀ x, foldedSetIterable iter env x = pure x := by intro _; rfl) :
    wpAny C.M A (execs (.For target iter body [] p :: rest) env) Q E s := by
  refine wpAny_execs_cons (wpAny_For (noE (hit A env s R rm ⟨F.ro.base, F.ro.on, fun a o e => (F.mu a o (Reg.minus_le a o e)).1⟩ F.eo) fun x s₁ h₁ => noE h₁ fun it s₂ h₂ => ?_) hs)
  refine for_loop (tds := tds) xs T Δs (fun i R Mu X => X = T ∧ J i R Mu) F rm h₂ hΔ hT0 hxs hT (fun i R R' Mu Mu' X hj l e => ⟨hj.1, Jm i R R' Mu Mu' hj.2 l (hj.1 ▸ e)⟩) ⟨rfl, h0⟩ ?_ ?_
  · rintro i a s' R' Mu' X hi l hk - F' ⟨rfl, hJ⟩
    refine noE (turn i a s' R' Mu' hi l hk F' hJ) fun f s₃ h₃ => ?_
    cases f with
    | next => obtain ⟨R₂, Mu₂, l₂, K₂, F₂, J₂⟩ := h₃; exact ⟨R₂, Mu₂, X, l₂, K₂, fun a h => .inl h, F₂, rfl, J₂⟩
    | cont => obtain ⟨R₂, Mu₂, l₂, K₂, F₂, J₂⟩ := h₃; exact ⟨R₂, Mu₂, X, l₂, K₂, fun a h => .inl h, F₂, rfl, J₂⟩
    | brk => exact h₃
    | ret v => exact h₃
  · rintro s' R' Mu' X l hk - F' ⟨rfl, hJ⟩
    exact done s' R' Mu' l hk F' hJ
end
end Mine
end
noncomputable section
open PySem PySem.W PyProof.Rows PySem.SeqAt PySem.MeetsSeq
set_option Elab.async false
set_option autoImplicit false
namespace Mine

noncomputable abbrev noV : Vars := fun _ => none
theorem KeepsBut.nil {s s' : Shared} (k : KeepsBut [] s s') : Keeps s s' := by
  obtain ⟨h', tk, rfl, e⟩ := k
  exact ⟨h', tk, rfl, fun b o x => e b o (by simp) x⟩

section
variable {C : Cx} {s₀ : Shared} {R₀ : Reg} {V : List Addr} {sc : Scope} {env : Env} {W : List Addr} {s s' : Shared} {R R' Mu Mu' : Reg} {Δ Δ' : Vars} {n : Nat} {A : Around} {E : Value → Shared → Prop} {Q : Flow → Shared → Prop}

theorem Fra.post {v : Value} {d : Dat} (F : Fra C s₀ R₀ [] sc env W s R Mu Δ) (h : Rd R v d) : Post s₀ R₀ d v s := by
  refine ⟨F.keep.nil, h.mono fun a o e => ?_⟩
  rcases F.sub a o e with q | q
  · simp only [Reg.ext]
    split
    · exact q
    · exact F.ro.on a o e
  · simp only [Reg.ext, q]; exact F.ro.on a o e

/- the parameters -/
theorem bind_all (f : Str × Value → PUnit → Sem (ForInStep PUnit)) (hf : ∀ n v u, f (n, v) u = (do storeName env n v; pure (.yield ⟨⟩))) :
    ∀ (xs : List Str) (vs : List Value) (ds : List Dat) (Δ : Vars) (s : Shared) (Q : PUnit → Shared → Prop), Fra C s₀ R₀ V sc env W s R Mu Δ → RdAll R vs ds → xs.length = ds.length → (∀ x ∈ xs, sc.names.lookup x = some .local ∨ sc.names.lookup x = some .cell) →
      (∀ s', Fra C s₀ R₀ V sc env W s' R Mu (updAll Δ xs ds) → Q ⟨⟩ s') → wpAny C.M A (forIn (xs.zip vs) ⟨⟩ f) Q E s
  | [], vs, ds, Δ, s, Q, F, r, hl, _, hQ => by
    cases ds with
    | nil => rw [List.zip_nil_left, List.forIn_nil]; exact wpAny_pure (hQ s F)
    | cons d ds => cases hl
  | x :: xs, vs, ds, Δ, s, Q, F, r, hl, hx, hQ => by
    cases r with
    | nil => cases hl
    | cons h r =>
      rw [List.zip_cons_cons, List.forIn_cons, hf]
      refine wpAny_bind (wpAny_bind (F.store h (fun s' _ F' => wpAny_pure ?_) (hx x List.mem_cons_self)))
      exact bind_all f hf xs _ _ _ s' Q F' r (by simpa using hl) (fun y hy => hx y (List.mem_cons_of_mem _ hy)) hQ

/- what a closure brings -/
structure CloOk (scope : Scope) (clo : List (Str × Addr)) (h : Heap) (R : Reg) (Δc : Vars) : Prop where
  vars : ∀ x d, Δc x = some d → scope.names.lookup x = some .free ∧ ∃ c v, clo.lookup x = some c ∧ h.IsCell c (some v) ∧ Rd R v d
  alive : ∀ x c, clo.lookup x = some c → ∃ v, h.IsCell c v
theorem CloOk.none {scope : Scope} {h : Heap} {R : Reg} : CloOk scope [] h R noV := ⟨fun x d e => (nomatch e), fun x c e => (nomatch e)⟩

theorem fn_frame {scope : Scope} {clo : List (Str × Addr)} {Δc : Vars} {xs : List Str} {vs : List Value} {ds : List Dat} {qual : Str} {func : Option Addr} {code : Value} {Q : Env → Shared → Prop} (ro : Rok (C.at noM) R s.heap) (hk : scope.kind = .function) (hu : (scope.names.map (·.1)).Nodup) (hclo : CloOk scope clo s.heap R Δc) (hr : RdAll R vs ds) (hl : xs.length = ds.length) (hx : ∀ x ∈ xs, scope.names.lookup x = some .local ∨ scope.names.lookup x = some .cell)
    (hQ : ∀ env W s', env.scope = scope → env.frame = some env.locals → env.code = code → env.func = func → Fra C s R [] scope env W s' R noM (updAll Δc xs ds) → Q env s') :
    wpAny C.M A (newFunctionEnv scope mainGlobals clo (xs.zip vs) qual func code none builtinsNs) Q E s := by
  have hsize : (s.heap.push { cls := .type "frame", data := .dict #[] }).objs.size = s.heap.objs.size + 1 := Heap.size_push ..
  have own := cellsFrom_ok scope.names (s.heap.push { cls := .type "frame", data := .dict #[] }) (s.heap.objs.size + 1) [] ⟨fun _ _ hm => (nomatch hm), List.Pairwise.nil⟩ (by rw [hsize]; exact Nat.le_refl _)
  rw [hsize] at own
  simp only [newFunctionEnv, Option.isSome_none, Bool.false_eq_true, if_false]
  refine wpAny_bind (wpAny_alloc ?_)
  refine wpAny_bind (wpAny_layCells _ (fun name kind cells => by cases hkc : kind == NameKind.cell <;> simp [hkc]) _ _ _ _ ?_)
  rw [show ({ s with heap := s.heap.push { cls := .type "frame", data := .dict #[] } } : Shared).heap.objs.size = s.heap.objs.size + 1 from Heap.size_push ..]
  rw [cellsFrom_acc]
  generalize hown : cellsFrom (s.heap.objs.size + 1) scope.names [] = ow at own
  have keep : hle s.heap (pushCells (s.heap.push { cls := .type "frame", data := .dict #[] }) scope.names) := fun b o e => pushCells_keeps _ _ b o (Heap.get?_push_of_some _ e)
  have fresh : ∀ a, s.heap.objs.size ≤ a → s.heap.get? a = none := fun a ha => by
    cases e : s.heap.get? a with
    | none => rfl
    | some o' => exact absurd (Heap.lt_size e) (Nat.not_lt.mpr ha)
  have look : ∀ x c, (ow ++ clo).lookup x = some c → ow.lookup x = some c ∨ clo.lookup x = some c := fun x c e => by
    rw [lookup_append'] at e
    cases h1 : ow.lookup x with
    | none => rw [h1] at e; exact .inr (by simpa using e)
    | some c' => rw [h1] at e; exact .inl (by simpa using e)
  have old : ∀ x c, clo.lookup x = some c → c < s.heap.objs.size := fun x c e => let ⟨_, _, z, _⟩ := hclo.alive x c e; Heap.lt_size z
  have new : ∀ x c, ow.lookup x = some c → s.heap.objs.size + 1 ≤ c := fun x c e => (own.empty x c (mem_of_lookup e)).2
  have wf : ∀ a ∈ s.heap.objs.size :: ow.map (·.2), s.heap.get? a = none := fun a ha => by
    rcases List.mem_cons.mp ha with h | h
    · rw [h]; exact fresh _ (Nat.le_refl _)
    · obtain ⟨⟨y, c'⟩, hm, rfl⟩ := List.mem_map.mp h
      exact fresh _ (Nat.le_of_succ_le (own.empty _ _ hm).2)
  have F₀ : Fra C s R [] scope { scope, locals := s.heap.objs.size, globals := mainGlobals, cells := ow ++ clo, qual, func, code, frame := some s.heap.objs.size, builtins := builtinsNs } (s.heap.objs.size :: ow.map (·.2))
      { s with heap := pushCells (s.heap.push { cls := .type "frame", data := .dict #[] }) scope.names } R noM Δc := by
    refine ⟨⟨_, s.toks, rfl, fun b o _ e => keep b o e⟩, fun a ha => (nomatch ha), fun a ha => (nomatch ha), ⟨ro.base, ro.on.hle keep, (fun _ _ e => nomatch e)⟩, .refl _, fun a o e => .inl e, ?_, wf, ?_, fun a o e => (nomatch e)⟩
    · refine ⟨⟨rfl, hk, rfl, rfl, fun x d e => ?_⟩, ⟨_, (Heap.Ns.new s.heap (.type "frame")).keeps (pushCells_keeps _ _)⟩, List.mem_cons_self, fun c hcW hne => ?_, fun a ha => ?_, fun x y c hcW hcx hcy => ?_, fun x hx => ?_, fun x c hx => ?_⟩
      · obtain ⟨h1, c, v, h2, h3, h4⟩ := hclo.vars x d e
        have hno : ow.lookup x = none := by
          cases h5 : ow.lookup x with
          | none => rfl
          | some c' =>
            rw [← hown] at h5
            have := uniq_kind hu (mem_kind h1) (mem_cells h5)
            cases this
        exact ⟨v, .inr (.inr ⟨h1, c, by rw [lookup_append', hno, h2]; rfl, h3.keeps keep⟩), h4⟩
      · rcases List.mem_cons.mp hcW with h | h
        · exact absurd h hne
        · obtain ⟨⟨y, c'⟩, hm, rfl⟩ := List.mem_map.mp h
          exact ⟨none, (own.empty _ _ hm).1⟩
      · cases e : R a with
        | none => rfl
        | some o => have := ro.on a o e; rw [wf a ha] at this; (have q_ := oNS this; clear this; exact q_.elim)
      · have big : s.heap.objs.size ≤ c := by
          rcases List.mem_cons.mp hcW with h | h
          · exact Nat.le_of_eq h.symm
          · obtain ⟨⟨y', c'⟩, hm, rfl⟩ := List.mem_map.mp h
            exact Nat.le_of_succ_le (own.empty _ _ hm).2
        rcases look x _ hcx with h1 | h1
        · rcases look y _ hcy with h2 | h2
          · exact name_of_addr own.apart (mem_of_lookup h1) (mem_of_lookup h2)
          · exact absurd (old _ _ h2) (Nat.not_lt.mpr big)
        · exact absurd (old _ _ h1) (Nat.not_lt.mpr big)
      · rcases look x _ hx with h | h
        · have := new _ _ h
          exact absurd this (Nat.not_le.mpr (Nat.lt_succ_self _))
        · exact absurd (old _ _ h) (Nat.lt_irrefl _)
      · rcases look x _ hx with h | h
        · exact ⟨_, (own.empty _ _ (mem_of_lookup h)).1⟩
        · obtain ⟨o, z⟩ := hclo.alive x c h; exact ⟨o, z.keeps keep⟩
    · intro x hx
      rcases hx with h | h
      · exact .inl h
      · obtain ⟨c, hcx⟩ := cells_some scope.names (s.heap.objs.size + 1) h
        rw [hown] at hcx
        exact .inr ⟨h, c, by show (ow ++ clo).lookup x = some c; rw [lookup_append', hcx]; rfl, List.mem_cons_of_mem _ (List.mem_map.mpr ⟨_, mem_of_lookup hcx, rfl⟩)⟩
  refine wpAny_bind (bind_all _ (fun _ _ _ => rfl) xs vs ds Δc _ _ F₀ hr hl hx fun s' F' => ?_)
  exact wpAny_pure (hQ _ _ s' rfl rfl rfl rfl F')

/- a function of the module, its parameters written -/
structure FnOk (C : Cx) (a : Addr) (fd : FuncData) (xs : List Str) (body : List Stmt) : Prop where
  at' : ∃ o, C.h₀.get? a = some o ∧ o.data = .func fd
  code : C.h₀.CodeRec fd.code fd.qualname
  nolimit : C.h₀.NoLimit
  co : fd.scope.isCoroutine = false
  gen : fd.scope.isGenerator = false
  body' : fd.body = .stmts body
  glob : fd.globals = mainGlobals
  bui : fd.builtins = builtinsNs
  clo : fd.closure = []
  kind : fd.scope.kind = .function
  uniq : (fd.scope.names.map (·.1)).Nodup
  par : ∀ x ∈ xs, fd.scope.names.lookup x = some .local ∨ fd.scope.names.lookup x = some .cell
  bind : ∀ vs : List Value, vs.length = xs.length → bindArgs fd ⟨vs, []⟩ = pure (xs.zip vs)

theorem fn_call {a : Addr} {fd : FuncData} {xs : List Str} {body : List Stmt} {vs : List Value} {ds : List Dat} {Rs : Result → Shared → Prop} (f : FnOk C a fd xs body) (rm : Room (n + 1) A) (ro : Rok (C.at noM) R s.heap) (hr : RdAll R vs ds) (hl : xs.length = ds.length)
    (h : ∀ env W s', env.scope = fd.scope → Room n (A.deeper env) → Fra C s R [] fd.scope env W s' R noM (updAll noV xs ds) → wpAny C.M (A.deeper env) (execs body env) (fun fl s₂ => Rs (.ok (.ret (match fl with | .ret v => v | _ => .none))) s₂)
      (fun e s' => wpAny C.M (A.deeper env) (leaving env e) (fun _ s'' => Rs (.error e) s'') (fun e' s'' => Rs (.error e') s'') s') s') :
    codeAny C.M A (.call (.ref a) ⟨vs, []⟩) Rs s := by
  obtain ⟨o, ho, hd⟩ := f.at'
  have k0 := ro.hle0
  refine codeAny_call_function rm.lt (k0 _ _ ho) hd f.co f.gen f.body' (f.code.keeps k0) ?_
  rw [f.bind vs (by rw [hr.length, hl]), f.glob, f.clo, f.bui]
  refine wpAny_pure (fn_frame ro f.kind f.uniq CloOk.none hr hl f.par fun env W s' e1 e2 e3 e4 F => ⟨?_, ?_⟩)
  · exact f.nolimit.keeps F.ro.hle0
  · exact codeAny_func (h env W s' e1 rm.deeper F)

/- a pure function of the module: by its body -/
theorem callop_fn {a : Addr} {fd : FuncData} {xs : List Str} {body : List Stmt} {ds : List Dat} {d : Dat} (f : FnOk C a fd xs body) (hl : xs.length = ds.length)
    (h : ∀ A env W s₀ s R, env.scope = fd.scope → Room n A → Fra C s₀ R [] fd.scope env W s R noM (updAll noV xs ds) → wpAny C.M A (execs body env) (fun fl s₂ => ∃ v, fl = .ret v ∧ Post s₀ R d v s₂) NoE s) :
    CallOp C (n + 1) (.ref a) ds d := by
  intro A s R vs rm ro hr
  refine wpAny_call (fn_call f rm ro hr hl fun env W s' e rm' F => ?_)
  refine noE (h _ env W s s' R e rm' F) fun fl s₂ p => ?_
  obtain ⟨v, rfl, p⟩ := p
  exact p
end
end Mine
end
noncomputable section
open PySem PySem.W PyProof.Rows PySem.SeqAt PySem.MeetsSeq
set_option Elab.async false
set_option autoImplicit false
namespace Mine

/- the heap that the law is called on: the written part, the module's and the built-in names -/
structure Base (C : Cx) (K : Frag) : Prop where
  K : K.In C.h₀
  T : ∃ p loose mg mb, TopRead p loose mg mb C.h₀

section
variable {C : Cx} {K : Frag}
theorem glob_load {M : Model} {A : Around} {E : Value → Shared → Prop} {s : Shared} {env : Env} {x : Str} {Q : Value → Shared → Prop} (hk : env.scope.kind = .function) (hx : env.kindOf x = some .globalImplicit) (h : wpAny M A (loadGlobal env x) Q E s) : wpAny M A (loadName env x) Q E s := by
  unfold loadName
  simp only [Env.blockKind, hk, hx, ScopeKind.isAnnotationScope, Bool.false_and, Bool.false_eq_true, if_false]
  exact h
theorem glob_own (B : Base C K) {x : Str} {v : Value} (e : nsIn K mainGlobals x = some (some v)) : GlobIs C x v := by
  intro A env s Q E hk hx hg hb h0 hQ
  obtain ⟨p, loose, mg, mb, T⟩ := B.T
  exact glob_load hk hx (Calls.loadGlobal_global (env := env) (hg ▸ T.g.keeps h0) (mg_of B.K T.g e) hQ)
theorem glob_bui (B : Base C K) {x : Str} {v : Value} (e : nsIn K mainGlobals x = some none) (hv : bootBuiltins x = some v) (hn : x ≠ "__name__") : GlobIs C x v := by
  intro A env s Q E hk hx hg hb h0 hQ
  obtain ⟨p, loose, mg, mb, T⟩ := B.T
  exact glob_load hk hx (Calls.loadGlobal_builtin (env := env) (hg ▸ T.g.keeps h0) (mg_none_of B.K T.g e) (hb ▸ T.b.keeps h0) ((T.builtins x hn).trans hv) hQ)
theorem Base.at (B : Base C K) {mu : Reg} : Base (C.at mu) K := ⟨B.K, B.T⟩
theorem Base.nolimit (B : Base C K) : C.h₀.NoLimit := let ⟨_, _, _, _, T⟩ := B.T; T.nolimit
end

/-! cuts of lists -/
noncomputable def pickL {α : Type} (l : List α) (lo hi st : Option Int) : List α :=
  (sliceRange (sliceBounds lo hi st l.length).1 (sliceBounds lo hi st l.length).2.1 (sliceBounds lo hi st l.length).2.2).filterMap (l[·]?)
theorem pick_map {α : Type} (l : List α) (g : α → Dat) (lo hi st : Option Int) : pick (l.map g) lo hi st = (pickL l lo hi st).map g := by
  unfold pick pickL
  rw [List.length_map, List.map_filterMap]
  congr 1
  funext i
  simp
theorem pickL_run {α : Type} (l : List α) (lo hi : Option Int) (a b : Nat) (h : sliceBounds lo hi none l.length = ((a : Int), (b : Int), 1)) : pickL l lo hi none = (l.drop a).take (b - a) := by
  unfold pickL
  rw [h]
  have := pick_run l.toArray a (b - a)
  rw [sliceRange_one]
  simpa using this
theorem pickL_from {α : Type} (l : List α) (k : Int) (h : 0 ≤ k) : pickL l (some k) none none = l.drop k.toNat := by
  rw [pickL_run l (some k) none (min k.toNat l.length) l.length (by simp only [sliceBounds]; simp; omega)]
  rw [List.take_of_length_le (by simp)]
  by_cases hk : k.toNat ≤ l.length
  · rw [Nat.min_eq_left hk]
  · rw [Nat.min_eq_right (by omega), List.drop_of_length_le (Nat.le_refl _), List.drop_of_length_le (by omega)]
theorem pickL_upto {α : Type} (l : List α) (k : Int) (h : 0 ≤ k) : pickL l none (some k) none = l.take k.toNat := by
  rw [pickL_run l none (some k) 0 (min k.toNat l.length) (by simp only [sliceBounds]; simp; omega)]
  rw [List.drop_zero, Nat.sub_zero]
  by_cases hk : k.toNat ≤ l.length
  · rw [Nat.min_eq_left hk]
  · rw [Nat.min_eq_right (by omega), List.take_of_length_le (Nat.le_refl _), List.take_of_length_le (by omega)]
theorem Ev.cast {C : Cx} {n : Nat} {sc : Scope} {Δ : Vars} {e : Expr} {d d' : Dat} (h : Ev C n sc Δ e d) (hd : d = d') : Ev C n sc Δ e d' := hd ▸ h
section
variable {C : Cx} {n : Nat} {sc : Scope} {Δ : Vars} {α : Type} {l : List α} {g : α → Dat}
theorem ev_from {v lo : Expr} {p q : Pos} {k : Int} (h : Ev C n sc Δ v (.lst (l.map g))) (hk : Ev C n sc Δ lo (.int k)) (h0 : 0 ≤ k) (hl : l.length ≤ sizeLine) : Ev C n sc Δ (.Subscript v (.Slice (some lo) none none p) q) (.lst ((l.drop k.toNat).map g)) :=
  (ev_cut (lo := some lo) (hi := none) (st := none) (a := some k) (b := none) (c := none) h hk trivial trivial (by simp) (by simpa using hl)).cast (by rw [pick_map, pickL_from _ _ h0])
theorem ev_upto {v hi : Expr} {p q : Pos} {k : Int} (h : Ev C n sc Δ v (.lst (l.map g))) (hk : Ev C n sc Δ hi (.int k)) (h0 : 0 ≤ k) (hl : l.length ≤ sizeLine) : Ev C n sc Δ (.Subscript v (.Slice none (some hi) none p) q) (.lst ((l.take k.toNat).map g)) :=
  (ev_cut (lo := none) (hi := some hi) (st := none) (a := none) (b := some k) (c := none) h trivial hk trivial (by simp) (by simpa using hl)).cast (by rw [pick_map, pickL_upto _ _ h0])
theorem ev_every {v lo st : Expr} {p q : Pos} {k m : Int} (h : Ev C n sc Δ v (.lst (l.map g))) (hk : Ev C n sc Δ lo (.int k)) (hm : Ev C n sc Δ st (.int m)) (h0 : m ≠ 0) (hl : l.length ≤ sizeLine) : Ev C n sc Δ (.Subscript v (.Slice (some lo) none (some st) p) q) (.lst ((pickL l (some k) none (some m)).map g)) :=
  (ev_cut (lo := some lo) (hi := none) (st := some st) (a := some k) (b := none) (c := some m) h hk trivial hm (by simpa using h0) (by simpa using hl)).cast (by rw [pick_map])
theorem op_catm {a b : List α} (hl : a.length + b.length ≤ sizeLine) : Op2 C n (binaryOp .Add) (.lst (a.map g)) (.lst (b.map g)) (.lst ((a ++ b).map g)) := by
  rw [List.map_append]; exact op_cat (by simpa using hl)
theorem op_itemm {v i : Expr} {k : Int} {x : α} (hx : l[k.toNat]? = some x) (h0 : 0 ≤ k) (hlen : l.length ≤ sizeLine) (hs : ∀ o u, subscripted i false o (.int k u) = operate [o, .int k u] (getItem o (.int k u)) := by intro _ _; rfl) : Op2 C n (subscriptTail v i) (.lst (l.map g)) (.int k) (g x) :=
  op_item_lst (by simp [hx]) h0 (by simpa using hlen) hs
theorem call_lenm (hlen : l.length ≤ sizeLine) : CallOp C n (.builtin "len") [.lst (l.map g)] (.int l.length) := by
  have := call_len (C := C) (n := n) (ds := l.map g) (by simpa using hlen)
  simpa using this
theorem op_eq_nilm : Op2 C n (compareOp .Eq) (.lst (l.map g)) (.lst []) (.bool l.isEmpty) := by
  have := op_eq_nil (C := C) (n := n) (ds := l.map g)
  simpa using this
theorem op_ne_nilm : Op2 C n (compareOp .NotEq) (.lst (l.map g)) (.lst []) (.bool (!l.isEmpty)) := by
  have := op_ne_nil (C := C) (n := n) (ds := l.map g)
  simpa using this
end

/-! the checks of a comprehension, by computation -/
noncomputable def compOkB (sc scope : Scope) (Δ : Vars) (xs : List Str) : Bool :=
  scope.kind == .function && scope.names.all (fun p => p.2 != .free || ((Δ p.1).isSome && (sc.names.lookup p.1 == some .cell || sc.names.lookup p.1 == some .free))) &&
  scope.names.all (fun p => p.2 != .local || scope.names.lookup p.1 == some .local) && xs.all (fun x => scope.names.lookup x == some .local || scope.names.lookup x == some .cell) && decide (scope.names.map (·.1)).Nodup
theorem CompOk.of {sc scope : Scope} {Δ : Vars} {xs : List Str} (h : compOkB sc scope Δ xs = true) : CompOk sc scope Δ xs := by
  simp only [compOkB, Bool.and_eq_true, List.all_eq_true, Bool.or_eq_true, bne_iff_ne, ne_eq, beq_iff_eq, decide_eq_true_eq] at h
  obtain ⟨⟨⟨⟨h1, h2⟩, h3⟩, h4⟩, h5⟩ := h
  exact ⟨h1, fun p hp hf => (h2 p hp).resolve_left (fun q => q hf), fun p hp hl => (h3 p hp).resolve_left (fun q => q hl), h4, h5⟩
noncomputable def swapB (sc scope : Scope) (x : Str) (px : Pos) (vp : Pos) : Bool :=
  sc.names.lookup x == some .local && px.line == vp.line && !(scope.names.any fun (n, k) => n == x && (k == .local || k == .cell))
theorem swaps_eq {elt : Expr} {gens : List Comprehension} {scope sc : Scope} {p px : Pos} {x : Str} {line : Nat} {env : Env} (h : env.scope = sc) (hk : sc.kind = .function) :
    swapsWith (.ListComp elt gens scope p) (some (.Name x px)) line env = pure (swapB sc scope x px p) := by
  subst h
  show pure (env.blockKind == .function && env.kindOf x == some .local && px.line == p.line && !(scope.names.any fun (n, k) => n == x && (k == .local || k == .cell))) = _
  have : env.blockKind = .function := by simp [Env.blockKind, hk]
  rw [this]; rfl
end Mine
end
noncomputable section
open PySem PySem.W PyProof.Rows PySem.SeqAt PySem.MeetsSeq
set_option Elab.async false
set_option autoImplicit false
set_option maxRecDepth 100000
namespace Mine
noncomputable abbrev K1 (C : Cx) : Frag := hd01.heap_1 C.w.params
section
variable {C : Cx} (B : Base C (K1 C))
include B
theorem g_range : GlobIs C (Str.ofString "range") (.type "range") := glob_bui B (by kernel_rfl!) (by decide +kernel) (by decide +kernel)
theorem g_len : GlobIs C (Str.ofString "len") (.builtin "len") := glob_bui B (by kernel_rfl!) (by decide +kernel) (by decide +kernel)
theorem g_sum : GlobIs C (Str.ofString "sum") (.builtin "sum") := glob_bui B (by kernel_rfl!) (by decide +kernel) (by decide +kernel)
theorem g_min : GlobIs C (Str.ofString "min") (.builtin "min") := glob_bui B (by kernel_rfl!) (by decide +kernel) (by decide +kernel)
theorem g_max : GlobIs C (Str.ofString "max") (.builtin "max") := glob_bui B (by kernel_rfl!) (by decide +kernel) (by decide +kernel)
theorem g_det : GlobIs C (Str.ofString "_law_determinant") (.ref 165) := glob_own B (by kernel_rfl!)
theorem g_apart : GlobIs C (Str.ofString "_law_apart") (.ref 172) := glob_own B (by kernel_rfl!)
end
end Mine
end
noncomputable section
open PySem PySem.W PyProof.Rows PySem.SeqAt PySem.MeetsSeq
set_option Elab.async false
set_option autoImplicit false
namespace Mine
theorem filter_tt {α : Type} (l : List α) : l.filter (fun _ => true) = l := by simp
section
variable {C : Cx} {s₀ : Shared} {R₀ : Reg} {V : List Addr} {sc : Scope} {env : Env} {W : List Addr} {s s' : Shared} {R R' Mu Mu' : Reg} {Δ Δ' : Vars} {n : Nat} {A : Around} {E : Value → Shared → Prop} {Q : Flow → Shared → Prop}

/- a name gets a list by a comprehension -/
theorem st_lc {α : Type} {L : List α} {enc : α → Dat} {tds : α → List Dat} {p : α → Bool} {f : α → Dat} {elt target iter : Expr} {ifs : List Expr} {pos : Pos} {scope : Scope} {x : Str} {px q : Pos} {rest : List Stmt} (xs : List Str)
    (F : Fra C s₀ R₀ V sc env W s R Mu Δ) (rm : Room n A) (hit : EvIt (C.at Mu) n sc Δ iter (L.map enc)) (hc : compOkB sc scope Δ xs = true)
    (hT : ∀ a ∈ L, Tgt target (enc a) xs (tds a)) (ht : ∀ a ∈ L, EvTs (C.at Mu) n (relab scope sc) (updAll (inner scope Δ) xs (tds a)) ifs (p a)) (he : ∀ a ∈ L, p a = true → Ev (C.at Mu) n (relab scope sc) (updAll (inner scope Δ) xs (tds a)) elt (f a)) (hlen : L.length ≤ sizeLine)
    (k : ∀ s' R', R.le R' → Fra C s₀ R₀ V sc env W s' R' Mu (upd Δ x (.lst ((L.filter p).map f))) → wpAny C.M A (execs rest env) Q E s')
    (hx : sc.names.lookup x = some .local ∨ sc.names.lookup x = some .cell := by first | exact Or.inl rfl | exact Or.inr rfl)
    (hs : ∀ env x, foldedSetIterable iter env x = pure x := by intro _ _; rfl) :
    wpAny C.M A (execs (.Assign [.Name x px] (.ListComp elt [⟨target, iter, ifs, 0⟩] scope pos) q :: rest) env) Q E s := by
  have sw := swaps_eq (elt := elt) (gens := [⟨target, iter, ifs, 0⟩]) (scope := scope) (p := pos) (px := px) (x := x) (line := q.line) F.eo.hsc F.eo.fn
  cases hb : swapB sc scope x px pos with
  | true => rw [hb] at sw; exact st_comp xs F rm hit (.of hc) hT ht he hlen k sw hx (hs env)
  | false => rw [hb] at sw; exact st_assign F rm (ev_comp xs hit (.of hc) hT ht he hlen hs) k sw hx
/- without a test -/
theorem st_lc0 {α : Type} {L : List α} {enc : α → Dat} {tds : α → List Dat} {f : α → Dat} {elt target iter : Expr} {pos : Pos} {scope : Scope} {x : Str} {px q : Pos} {rest : List Stmt} (xs : List Str)
    (F : Fra C s₀ R₀ V sc env W s R Mu Δ) (rm : Room n A) (hit : EvIt (C.at Mu) n sc Δ iter (L.map enc)) (hc : compOkB sc scope Δ xs = true)
    (hT : ∀ a ∈ L, Tgt target (enc a) xs (tds a)) (he : ∀ a ∈ L, Ev (C.at Mu) n (relab scope sc) (updAll (inner scope Δ) xs (tds a)) elt (f a)) (hlen : L.length ≤ sizeLine)
    (k : ∀ s' R', R.le R' → Fra C s₀ R₀ V sc env W s' R' Mu (upd Δ x (.lst (L.map f))) → wpAny C.M A (execs rest env) Q E s')
    (hx : sc.names.lookup x = some .local ∨ sc.names.lookup x = some .cell := by first | exact Or.inl rfl | exact Or.inr rfl)
    (hs : ∀ env x, foldedSetIterable iter env x = pure x := by intro _ _; rfl) :
    wpAny C.M A (execs (.Assign [.Name x px] (.ListComp elt [⟨target, iter, [], 0⟩] scope pos) q :: rest) env) Q E s :=
  st_lc (p := fun _ => true) xs F rm hit hc hT (fun _ _ => rfl) (fun a ha _ => he a ha) hlen (fun s' R' l F' => k s' R' l (by rw [filter_tt] at F'; exact F')) hx hs
theorem ev_lc0 {α : Type} {L : List α} {enc : α → Dat} {tds : α → List Dat} {f : α → Dat} {elt target iter : Expr} {pos : Pos} {scope : Scope} (xs : List Str) (hit : EvIt C n sc Δ iter (L.map enc)) (hc : compOkB sc scope Δ xs = true)
    (hT : ∀ a ∈ L, Tgt target (enc a) xs (tds a)) (he : ∀ a ∈ L, Ev C n (relab scope sc) (updAll (inner scope Δ) xs (tds a)) elt (f a)) (hlen : L.length ≤ sizeLine)
    (hs : ∀ env x, foldedSetIterable iter env x = pure x := by intro _ _; rfl) : Ev C n sc Δ (.ListComp elt [⟨target, iter, [], 0⟩] scope pos) (.lst (L.map f)) :=
  (ev_comp (p := fun _ => true) (ifs := []) xs hit (.of hc) hT (fun _ _ => rfl) (fun a ha _ => he a ha) hlen hs).cast (by rw [filter_tt])
theorem ev_lc {α : Type} {L : List α} {enc : α → Dat} {tds : α → List Dat} {p : α → Bool} {f : α → Dat} {elt target iter c : Expr} {pos : Pos} {scope : Scope} (xs : List Str) (hit : EvIt C n sc Δ iter (L.map enc)) (hc : compOkB sc scope Δ xs = true)
    (hT : ∀ a ∈ L, Tgt target (enc a) xs (tds a)) (ht : ∀ a ∈ L, EvT C n (relab scope sc) (updAll (inner scope Δ) xs (tds a)) c (p a)) (he : ∀ a ∈ L, p a = true → Ev C n (relab scope sc) (updAll (inner scope Δ) xs (tds a)) elt (f a)) (hlen : L.length ≤ sizeLine)
    (hs : ∀ env x, foldedSetIterable iter env x = pure x := by intro _ _; rfl) : Ev C n sc Δ (.ListComp elt [⟨target, iter, [c], 0⟩] scope pos) (.lst ((L.filter p).map f)) :=
  ev_comp xs hit (.of hc) hT ht he hlen hs

/- variables by a list -/
noncomputable def ofL (l : List (Str × Dat)) : Vars := fun x => l.lookup x
noncomputable def AllIn (Δ : Vars) : List (Str × Dat) → Prop
  | [] => True
  | (x, d) :: r => Δ x = some d ∧ AllIn Δ r
theorem AllIn.le {Δ : Vars} : ∀ {l : List (Str × Dat)}, AllIn Δ l → ∀ x d, ofL l x = some d → Δ x = some d
  | (y, e) :: r, h, x, d, q => by
    simp only [ofL, List.lookup_cons] at q
    split at q
    · rename_i hb; (have q_ := oSS q; clear q; subst q_); rw [eq_of_beq hb]; exact h.1
    · exact AllIn.le h.2 x d q
theorem Fra.toL (F : Fra C s₀ R₀ V sc env W s R Mu Δ) (l : List (Str × Dat)) (h : AllIn Δ l) : Fra C s₀ R₀ V sc env W s R Mu (ofL l) := F.weak h.le
theorem rangeI_len (a b : Int) : (rangeI a b).length = (b - a).toNat := by simp [rangeI]
theorem rangeI_get {a b : Int} {i : Nat} {x : Int} (h : (rangeI a b)[i]? = some x) : x = a + (i : Nat) ∧ i < (b - a).toNat := by
  have hlt : i < (b - a).toNat := by
    have := (List.getElem?_eq_some_iff.mp h).1
    simpa [rangeI] using this
  simp [rangeI, hlt] at h
  exact ⟨h.symm, hlt⟩
theorem rangeI_mem {a b x : Int} (h : x ∈ rangeI a b) : a ≤ x ∧ x < b := by
  simp only [rangeI, List.mem_map, List.mem_range] at h
  obtain ⟨i, hi, rfl⟩ := h
  omega
theorem sizeLine_val : sizeLine = 16777216 := by decide
/- a function of the module: the facts that are computed -/
theorem bind1 {fd : FuncData} {xs : List Str} (h : ∀ v₁ : Value, bindArgs fd ⟨[v₁], []⟩ = pure (xs.zip [v₁])) (hx : xs.length = 1 := by rfl) : ∀ vs : List Value, vs.length = xs.length → bindArgs fd ⟨vs, []⟩ = pure (xs.zip vs)
  | [v], _ => h v
  | [], e => by rw [hx] at e; cases e
  | _ :: _ :: _, e => by rw [hx] at e; cases e
theorem bind2 {fd : FuncData} {xs : List Str} (h : ∀ v₁ v₂ : Value, bindArgs fd ⟨[v₁, v₂], []⟩ = pure (xs.zip [v₁, v₂])) (hx : xs.length = 2 := by rfl) : ∀ vs : List Value, vs.length = xs.length → bindArgs fd ⟨vs, []⟩ = pure (xs.zip vs)
  | [v, w], _ => h v w
  | [], e => by rw [hx] at e; cases e
  | [_], e => by rw [hx] at e; cases e
  | _ :: _ :: _ :: _, e => by rw [hx] at e; cases e
theorem bind3 {fd : FuncData} {xs : List Str} (h : ∀ v₁ v₂ v₃ : Value, bindArgs fd ⟨[v₁, v₂, v₃], []⟩ = pure (xs.zip [v₁, v₂, v₃])) (hx : xs.length = 3 := by rfl) : ∀ vs : List Value, vs.length = xs.length → bindArgs fd ⟨vs, []⟩ = pure (xs.zip vs)
  | [v, w, x], _ => h v w x
  | [], e => by rw [hx] at e; cases e
  | [_], e => by rw [hx] at e; cases e
  | [_, _], e => by rw [hx] at e; cases e
  | _ :: _ :: _ :: _ :: _, e => by rw [hx] at e; cases e
theorem bind5 {fd : FuncData} {xs : List Str} (h : ∀ v₁ v₂ v₃ v₄ v₅ : Value, bindArgs fd ⟨[v₁, v₂, v₃, v₄, v₅], []⟩ = pure (xs.zip [v₁, v₂, v₃, v₄, v₅])) (hx : xs.length = 5 := by rfl) (vs : List Value) (e : vs.length = xs.length) : bindArgs fd ⟨vs, []⟩ = pure (xs.zip vs) := by
  rw [hx] at e
  have : ∀ (n : Nat) (vs : List Value), vs.length = n + 1 → ∃ v ws, vs = v :: ws ∧ ws.length = n := fun n vs e => by cases vs with | nil => cases e | cons v ws => exact ⟨v, ws, rfl, by simpa using e⟩
  obtain ⟨a, v₁, rfl, e1⟩ := this 4 vs e
  obtain ⟨b, v₂, rfl, e2⟩ := this 3 v₁ e1
  obtain ⟨c, v₃, rfl, e3⟩ := this 2 v₂ e2
  obtain ⟨d, v₄, rfl, e4⟩ := this 1 v₃ e3
  obtain ⟨x, l, rfl, e5⟩ := this 0 v₄ e4
  cases List.eq_nil_of_length_eq_zero e5
  exact h a b c d x
theorem fnOk {K : Frag} {a : Addr} {oc : Value} {od : Option Addr} {osl : Array (Option Value)} {fd : FuncData} {xs : List Str} {body : List Stmt} (B : Base C K) (h1 : K.lookup a = some ⟨oc, od, .func fd, osl⟩) (h2 : codeIn K fd.code fd.qualname = true) (h3 : fd.body = .stmts body)
    (h4 : (!fd.scope.isCoroutine && !fd.scope.isGenerator && fd.globals == mainGlobals && fd.builtins == builtinsNs && fd.closure.isEmpty && fd.scope.kind == .function && decide (fd.scope.names.map (·.1)).Nodup && xs.all (fun x => fd.scope.names.lookup x == some .local || fd.scope.names.lookup x == some .cell)) = true)
    (h5 : ∀ vs : List Value, vs.length = xs.length → bindArgs fd ⟨vs, []⟩ = pure (xs.zip vs)) : FnOk C a fd xs body := by
  simp only [Bool.and_eq_true, Bool.not_eq_true', beq_iff_eq, decide_eq_true_eq, List.all_eq_true, Bool.or_eq_true, List.isEmpty_iff] at h4
  obtain ⟨⟨⟨⟨⟨⟨⟨g1, g2⟩, g3⟩, g4⟩, g5⟩, g6⟩, g7⟩, g8⟩ := h4
  exact ⟨⟨_, B.K a _ h1, rfl⟩, codeRec_of B.K h2, B.nolimit, g1, g2, h3, g3, g4, g5, g6, g7, g8, h5⟩
end
end Mine
end
noncomputable section
open PySem PySem.W PyProof.Rows PySem.SeqAt PySem.MeetsSeq
set_option Elab.async false
set_option autoImplicit false
namespace Mine
section
variable {C : Cx} {n : Nat} {sc : Scope} {Δ : Vars}
/- a method of a list, one argument, nothing changed -/
theorem ev_meth1 {x name : Str} {np ap p : Pos} {id : String} {e : Expr} {ds : List Dat} {d₁ d : Dat} (hx : Ev C n sc Δ (.Name x np) (.lst ds)) (he : Ev C n sc Δ e d₁) (slot : Slot "list" name id) (hty : typeOf (.builtin id) = pure (.type "method_descriptor"))
    (ho : CallOp C n (.builtin id) [.lst ds, d₁] d) (hline : (ap.endLine == p.line) = true := by rfl) (hbase : ∀ env, attributeBase (.Name x np) name env (eval (.Name x np) env) = eval (.Name x np) env := by intro _; rfl) (hs : ∀ env, starEach [e] env = [(false, eval e env)] := by intro _; rfl) :
    Ev C n sc Δ (.Call (.Attribute (.Name x np) name ap) [e] [] p) d := by
  intro A env s R rm ro eo
  refine wpAny_Call_method (hbase env) (by rw [hs]; rfl) hline F.plainAttrs_list slot hty (noE (hx A env s R rm ro eo) fun ov s₁ p₁ => ?_)
  have k₁ := Keeps.hle p₁.1
  have hd := p₁.2
  obtain ⟨l, rfl⟩ := hd.lst_ref
  cases hd with
  | lst hl hc hd hr =>
    rename_i o vs m
    have hh := (ro.ext k₁).on _ _ hl
    refine ⟨⟨o, hh, hc.1⟩, fun a ha => by (have q_ := vRR ha; clear ha; subst q_); exact ⟨o, hh, hc.2⟩, ?_⟩
    refine callWith_method1 (wpAny_items_cons (noE (he A env s₁ _ rm (ro.ext k₁) (eo.ext ro k₁)) fun v s₂ p₂ => wpAny_items_nil ?_) (hs env)) (hs env) rfl
    have k₂ := Keeps.tr p₁.1 p₂.1
    have h₂ : Rd (R.ext s.heap s₂.heap) (.ref l) (.lst ds) := p₁.2.mono (Reg.ext_step k₁ (Keeps.hle p₂.1))
    exact noE (ho A s₂ _ [.ref l, v] rm (ro.ext (Keeps.hle k₂)).nomu (.cons h₂ (.cons (p₂.2.mono (Reg.ext_ext k₁ (Keeps.hle p₂.1))) .nil))) fun v s₃ p₃ => Post.step k₂ p₃
theorem call_index {ns : List Int} {k : Int} (hk : k ∈ ns) (hlen : ns.length ≤ sizeLine) : CallOp C n (.builtin "list.index") [.lst (ns.map Dat.int), .int k] (.int (ns.idxOf k : Nat)) := by
  intro A s R vs rm ro h
  have q_ := RdAll.consE h
  clear h
  obtain ⟨_, _, rfl, h, r⟩ := q_
  next =>
    have q_ := RdAll.consE r
    clear r
    obtain ⟨_, _, rfl, h', r⟩ := q_
    next =>
      (have q_ := RdAll.nilE r; clear r; subst q_)
      cases h' with
      | int _ t =>
        obtain ⟨l, rfl⟩ := h.lst_ref
        obtain ⟨vs, hl, r⟩ := h.isList ro.on
        have hi := Rd.ints r
        obtain ⟨⟨cls, dd, data, sl⟩, ho, hc, m, hd⟩ := id hl
        simp only at hc hd
        subst hc hd
        have hlen' := hi.length
        have hj : ns.idxOf k < ns.length := List.idxOf_lt_length_iff.mpr hk
        rw [sizeLine_val] at hlen
        refine call_meets PySem.F.slot_list_index ⟨_, ho, rfl⟩ PySem.F.entry_list_index (PySem.F.args_list_index_2 _ _)
          (list_indexAt l vs.toArray m dd sl (.int k t) (isInt k) (ns.idxOf k) (by simpa [hlen'] using hj) (by omega) ?_ ?_) ⟨ho, fun y hy => (eq_isInt k t hi y (by simpa using hy)).at _ _, ?_⟩
        · show isInt k vs[ns.idxOf k] = true
          rw [isInt_at k hi _ (by omega) hj]
          simpa using List.getElem_idxOf hj
        · intro j hjs hlt
          show isInt k vs[j] = false
          rw [isInt_at k hi j (by simpa using hjs) (by omega)]
          exact ne_of_lt_idxOf hlt _
        · exact ⟨Keeps.toks _ _, .int _ _⟩
theorem ev_index {x : Str} {np ap p : Pos} {e : Expr} {ns : List Int} {k : Int} (hx : Ev C n sc Δ (.Name x np) (.lst (ns.map Dat.int))) (he : Ev C n sc Δ e (.int k)) (hk : k ∈ ns) (hlen : ns.length ≤ sizeLine) (hline : (ap.endLine == p.line) = true := by rfl)
    (hbase : ∀ env, attributeBase (.Name x np) (Str.ofString "index") env (eval (.Name x np) env) = eval (.Name x np) env := by intro _; rfl) (hs : ∀ env, starEach [e] env = [(false, eval e env)] := by intro _; rfl) :
    Ev C n sc Δ (.Call (.Attribute (.Name x np) (Str.ofString "index") ap) [e] [] p) (.int (ns.idxOf k : Nat)) :=
  ev_meth1 hx he PySem.F.slot_list_index PySem.F.type_list_index (call_index hk hlen) hline hbase hs

end
section
variable {C : Cx} {s₀ : Shared} {R₀ : Reg} {V : List Addr} {sc : Scope} {env : Env} {W : List Addr} {s s' : Shared} {R R' Mu Mu' : Reg} {Δ : Vars} {n : Nat} {A : Around} {E : Value → Shared → Prop} {Q : Flow → Shared → Prop}
/- an if whose ways meet -/
theorem st_ifj {t : Expr} {b : Bool} {body orelse rest : List Stmt} {p : Pos} (Δ' : Vars) (F : Fra C s₀ R₀ V sc env W s R Mu Δ) (rm : Room n A) (ht : EvT (C.at Mu) n sc Δ t b)
    (hb : ∀ s' R', R.le R' → Fra C s₀ R₀ V sc env W s' R' Mu Δ → wpAny C.M A (execs (if b then body else orelse) env) (fun f s₂ => f = .next ∧ ∃ R₂, R.le R₂ ∧ Fra C s₀ R₀ V sc env W s₂ R₂ Mu Δ') NoE s')
    (k : ∀ s' R', R.le R' → Fra C s₀ R₀ V sc env W s' R' Mu Δ' → wpAny C.M A (execs rest env) Q E s') :
    wpAny C.M A (execs (.If t body orelse p :: rest) env) Q E s := by
  refine st_if F rm ht fun s₁ R₁ l₁ F₁ => noE (hb s₁ R₁ l₁ F₁) fun f s₂ h₂ => ?_
  obtain ⟨rfl, R₂, l₂, F₂⟩ := h₂
  exact k s₂ R₂ l₂ F₂
end
end Mine
end
noncomputable section
open PySem PySem.W PyProof.Rows PySem.SeqAt PySem.MeetsSeq PySem.Builtin
set_option Elab.async false
set_option autoImplicit false
set_option maxRecDepth 100000
namespace Mine

/-! objects of own classes, in any heap -/
section
variable {prog : Program} {w : World} {A : Around} {E : Value → Shared → Prop} {K : Frag} {Cl x dx p : Addr} {s : Shared} {sl : Array (Option Value)} {od : Obj} {name : Str} {v : Value} {i : Nat}
noncomputable abbrev insObj (Cl dx : Addr) (sl : Array (Option Value)) : Obj := ⟨.ref Cl, some dx, .plain, sl⟩
theorem instAt (hx : s.heap.get? x = some (insObj Cl dx sl)) (hd : s.heap.get? dx = some od) : InstAt s.heap x (insObj Cl dx sl) Cl (some od) := ⟨hx, rfl, rfl, hd⟩

theorem getA_own {expr : Bool} {Q : Value → Shared → Prop} {attr : Option Value} (X : K.In s.heap) (hx : s.heap.get? x = some (insObj Cl dx sl)) (hd : s.heap.get? dx = some od) (hg : plainGet K Cl name = true) (hh : hasDictIn K Cl = true)
    (ha : findIn K (.ref Cl) name = some attr) (hn : noGet K attr = true) (hl : lookIn name od = some (some v)) (hv : handedIn v = true) (h : Q v { s with toks := s.toks + 1 }) :
    wpAny (model prog w) A (getAttr (.ref x) name expr) Q E s :=
  get_value X (instAt hx hd) (plainGet_of hg).1 (findObj_own hh ha hn hl) hv h
theorem getA_slot {expr : Bool} {Q : Value → Shared → Prop} (X : K.In s.heap) (hx : s.heap.get? x = some (insObj Cl dx sl)) (hd : s.heap.get? dx = some od) (hg : plainGet K Cl name = true) (hc : isClsIn K Cl = true)
    (ha : findIn K (.ref Cl) name = some (some (.ref p))) (hn : specialIn K (.ref p) "__get__" = some (some (.builtin "member_descriptor.__get__"))) (ht : takesIn K (.ref p) = some true) (hp : slotIn K p Cl = some i)
    (hv : (sl[i]?).join = some v) (hh : handedIn v = true) (h : Q v { s with toks := s.toks + 1 }) : wpAny (model prog w) A (getAttr (.ref x) name expr) Q E s :=
  get_bind X (instAt hx hd) (plainGet_of hg).1 (findObj_data hc ha hn ht) (plainGet_of hg).2 (wpAny_call (slot_get (s := { s with toks := s.toks + 1 }) X (instAt hx hd) hp hv (handed_on hh h)))

theorem osa_dictB {R : Result → Shared → Prop} {tk : Tok} {es es' : List DictEntry} {n n' : Nat} (X : K.In s.heap) (hx : s.heap.get? x = some (insObj Cl dx sl)) (hd : s.heap.get? dx = some (dictOf es n)) (hp : plainOver K Cl = true) (ht : takerIn K Cl name = some none) (hh : (clsIn K Cl).any (·.hasDict) = true)
    (hl : (getL name es).isSome = true) (e : (putL name (PyData.keyHash w.params name) (.str name s.toks) v es, putN name es n) = (es', n')) (hz : es'.length ≤ 1000)
    (h : ∀ h', Heap.SameBut dx s.heap h' → h'.get? dx = some (dictOf es' n') → R (.ok (.ret .none)) { s with heap := h', toks := s.toks + 1 }) :
    codeAny (model prog w) A (.call (.builtin "object.__setattr__") ⟨[.ref x, .str name tk, v], []⟩) R s := by
  refine osa_open X (instAt hx hd) hp ht fun b => ?_
  obtain ⟨cd, hc, hd'⟩ := any_some hh
  obtain ⟨e1, e2⟩ := Prod.mk.inj e
  have e' : Obj.putName name (PyData.keyHash w.params name) (.str name s.toks) v (dictOf es n) = dictOf es' n' := by rw [putName_dict, e1, e2]
  have D' : (s.heap.update dx (Obj.putName name (PyData.keyHash w.params name) (.str name s.toks) v)).get? dx = some (dictOf es' n') := by
    rw [← e']; exact Heap.get?_update_self _ hd (by rw [e']; rfl)
  refine wpAny_bind (wpAny_pure (wpAny_bind (wpAny_bind (wpAny_loadPart hx (wpAny_bind ((looks_clsIn X hc).here ?_))))))
  rw [hd']
  refine wpAny_pure (a := some dx) (wpAny_bind (wpAny_pure (wpAny_bind ?_)))
  unfold nsSet
  refine wpAny_bind (wpAny_bind (wpAny_askSetting (wpAny_pure (wpAny_bind (wpAny_mkText (wpAny_bind (wpAny_loadPart hd ?_)))))))
  have c : (!es.toArray.any (·.key.isStr name) && es.toArray.any (·.refKey)) = false := by
    rw [← Array.any_toList, ← Array.any_toList]
    unfold getL at hl
    split at hl
    · rename_i en he
      simp only [List.any_eq_true.mpr ⟨en, List.mem_of_find?_eq_some he, List.find?_some he⟩]; rfl
    · split at hl
      · cases hl
      · rename_i z; rw [Bool.not_eq_true] at z; simp only [z, Bool.and_false]
  dsimp only [dictOf]
  rw [aRefKeyMayBeTheName_at, c]
  refine wpAny_updatePart hd ?_
  refine wpAny_bind (wpAny_lookBehind D' (by rw [show (dictOf es' n').data = .dict es'.toArray n' from rfl]; exact pastItsLine_dict (by rw [List.size_toArray, sizeLine_eq]; omega)) ?_)
  exact wpAny_pure (h _ (Heap.SameBut.update ..) D')

theorem setA_own {Q : Unit → Shared → Prop} {es es' : List DictEntry} {n n' : Nat} (X : K.In s.heap) (hx : s.heap.get? x = some (insObj Cl dx sl)) (hd : s.heap.get? dx = some (dictOf es n))
    (hs : findIn K (.ref Cl) "__setattr__" = some (some (.builtin "object.__setattr__"))) (hp : plainOver K Cl = true) (ht : takerIn K Cl name = some none) (hh : hasDictIn K Cl = true)
    (hl : (getL name es).isSome = true) (e : (putL name (PyData.keyHash w.params name) (.str name (s.toks + 1)) v es, putN name es n) = (es', n')) (hz : es'.length ≤ 1000)
    (h : ∀ h', Heap.SameBut dx s.heap h' → h'.get? dx = some (dictOf es' n') → Q () { s with heap := h', toks := s.toks + 2 }) : wpAny (model prog w) A (setAttr (.ref x) name v) Q E s :=
  set_plain X (instAt hx hd) hs (osa_dictB (s := { s with toks := s.toks + 1 }) X hx hd hp ht hh hl e hz fun h' a b => h h' a b)

theorem slot_setB {R : Result → Shared → Prop} (X : K.In s.heap) (hx : s.heap.get? x = some (insObj Cl dx sl)) (hd : s.heap.get? dx = some od) (hp : slotIn K p Cl = some i) (hi : i < 1000)
    (h : ∀ h', Heap.SameBut x s.heap h' → h'.get? x = some (insObj Cl dx ((sl ++ Array.replicate (i + 1 - sl.size) none).setIfInBounds i (some v))) → R (.ok (.ret .none)) { s with heap := h' }) :
    codeAny (model prog w) A (.call (.builtin "member_descriptor.__set__") ⟨[.ref p, .ref x, v], []⟩) R s := by
  obtain ⟨n, tn, owner, behind, tb, d, sl', cd, ho, hc, hm, hb, rfl⟩ := slot_of X hp
  have I := instAt hx hd
  obtain ⟨hh, g, dr, t, os⟩ := s
  have L0 := I.type (M := model prog w)
  have L1 := looks_mroIn (M := model prog w) X hm
  have L2 : Looks (model prog w) hh (Slots.slotNamesOf (.ref Cl)) cd.slotNames := (looks_clsIn X hc).andThen .now
  dsimp only at ho hx L0 L1
  have f0 := looks_field (M := model prog w) ho 0 (v := .str n tn) rfl
  have f1 := looks_field (M := model prog w) ho 1 (v := owner) rfl
  have f3 := looks_field (M := model prog w) ho 3 (v := .builtin "proto.slot#set") rfl
  have f4 := looks_field (M := model prog w) ho 4 (v := .int behind tb) rfl
  refine codeAny_call_builtin KF.slot_mset.plain KF.entry_mset (KF.slot_mset.check _ _ _ _ _ _ _ _ ⟨_, ho, rfl⟩ (KF.args_mset _ _ _) ?_)
  unfold Builtin.«member_descriptor.__set__» Builtin.Getset_descriptor.descrSet Builtin.Getset_descriptor.descrStoreThrough Builtin.Getset_descriptor.descrCheckInstance Builtin.Getset_descriptor.descrNameAndClass isInstance
  have f5 : Looks (model prog w) hh (Builtin.Getset_descriptor.descrItself (.ref p)) [.ref p] := ((Looks.ld (part := none) ho).andThen .now).andThen (Looks.of_pure (by kernel_rfl))
  repeat lk
  refine ⟨Code.quiet_builtin _ (by decide +kernel), codeAny_builtin KF.entry_slotset ?_⟩
  unfold Builtin.«proto.slot#set» Slots.target
  repeat lk
  rw [if_neg hb]
  refine wpAny_pure (wpAny_bind ?_)
  unfold setSlotAt
  dsimp only
  rw [if_neg (by rw [sizeLine_eq]; omega)]
  refine wpAny_updatePart hx (wpAny_pure (h _ (Heap.SameBut.update ..) ?_))
  exact Heap.get?_update_self _ hx rfl

theorem setA_slot {Q : Unit → Shared → Prop} (X : K.In s.heap) (hx : s.heap.get? x = some (insObj Cl dx sl)) (hd : s.heap.get? dx = some od)
    (hs : findIn K (.ref Cl) "__setattr__" = some (some (.builtin "object.__setattr__"))) (hp : plainOver K Cl = true) (ht : takerIn K Cl name = some (some (.ref p))) (hT : typeIn K (.ref p) = some (.type "member_descriptor")) (hi : slotIn K p Cl = some i) (hz : i < 1000)
    (h : ∀ h', Heap.SameBut x s.heap h' → h'.get? x = some (insObj Cl dx ((sl ++ Array.replicate (i + 1 - sl.size) none).setIfInBounds i (some v))) → Q () { s with heap := h', toks := s.toks + 1 }) : wpAny (model prog w) A (setAttr (.ref x) name v) Q E s :=
  set_plain X (instAt hx hd) hs (osa_descr (s := { s with toks := s.toks + 1 }) KF.slot_mset X (instAt hx hd) hp ht hT (slot_setB (s := { s with toks := s.toks + 1 }) X hx hd hi hz fun h' a b => h h' a b))
end
end Mine
end
noncomputable section
open PySem PySem.W PyProof.Rows PySem.SeqAt PySem.MeetsSeq
set_option Elab.async false
set_option autoImplicit false
set_option maxRecDepth 100000
namespace Mine

section
variable {C : Cx} {s₀ : Shared} {R₀ : Reg} {V : List Addr} {sc : Scope} {env : Env} {W : List Addr} {s s' : Shared} {R R' Mu Mu' : Reg} {Δ Δ' : Vars} {n : Nat} {A : Around} {E : Value → Shared → Prop} {Q : Flow → Shared → Prop}

theorem Fra.hcx {X : List Addr} (F : Fra C s₀ R₀ V sc env W s R Mu Δ) (hX : ∀ a ∈ X, ∃ o, Mu a = some o ∧ ∀ v, o.data ≠ .cell v) : ∀ y c, env.cells.lookup y = some c → c ∉ X := fun y c h hc => by
  obtain ⟨v, o, z, zd⟩ := F.ew.calive y c h
  obtain ⟨o', e, hn⟩ := hX c hc
  rw [(F.mu c o' e).1] at z; (have q_ := oSS z; clear z; subst q_)
  exact hn v zd
/- mutable objects are changed, others are made; some of the new ones are mutable, some are frozen -/
theorem Fra.stepG {X : List Addr} (F : Fra C s₀ R₀ V sc env W s R Mu Δ) (k : KeepsBut X s s') (hX : ∀ a ∈ X, ∃ o, Mu a = some o ∧ ∀ v, o.data ≠ .cell v) (hX' : ∀ a ∈ X, ∃ o, s'.heap.get? a = some o)
    (h1 : R.le R') (h2 : R'.le (R.ext s.heap s'.heap)) (hM : ∀ a o, Mu' a = some o → s'.heap.get? a = some o ∧ R' a = none ∧ ((∃ o', Mu a = some o') ∨ s.heap.get? a = none)) :
    Fra C s₀ R₀ V sc env W s' R' Mu' Δ := by
  have F' := F.step k (fun a ha => let ⟨o, e, _⟩ := hX a ha; ⟨o, e⟩) (fun a ha _ => hX' a ha) (F.hcx hX)
  have dead : ∀ a, s.heap.get? a = none → s₀.heap.get? a = none := fun a h => by
    cases x : s₀.heap.get? a with
    | none => rfl
    | some o' =>
      exfalso
      by_cases hv : a ∈ V
      · obtain ⟨o, e⟩ := F.vnew a hv; rw [h] at e; (have q_ := oNS e; clear e; exact q_.elim)
      · rw [F.keep.get hv x] at h; (have q_ := oSN h; clear h; exact q_.elim)
  have down : ∀ a, R.ext s.heap s'.heap a = none → R' a = none := fun a h => by
    cases x : R' a with
    | none => rfl
    | some o => rw [h2 a o x] at h; (have q_ := oSN h; clear h; exact q_.elim)
  have e := F'.ew
  refine ⟨F'.keep, F'.vold, F'.vnew, ⟨F.ro.base.trans h1, fun a o e => F'.ro.on a o (h2 a o e), fun _ _ e => nomatch e⟩, F.le.trans h1, fun a o e => F'.sub a o (h2 a o e), ⟨⟨e.ok.hsc, e.ok.fn, e.ok.gl, e.ok.bl, fun y dy ey => ?_⟩, e.ns, e.locW, e.alive, fun a ha => down a (e.offR a ha), e.inj, e.locne, e.calive⟩, F'.fresh, F'.stor, fun a o e => ?_⟩
  · obtain ⟨v, hv, hr⟩ := F.ew.ok.vars y dy ey
    refine ⟨v, ?_, hr.mono h1⟩
    have hoff : ∀ c, env.cells.lookup y = some c → c ∉ X := fun c h => F.hcx hX y c h
    rcases hv with ⟨a1, m1, a2, a3⟩ | ⟨a1, c1, a2, o, a3, a4⟩ | ⟨a1, c1, a2, o, a3, a4⟩
    · exact .inl ⟨a1, m1, a2.at' fun o eo => k.get (fun h => by obtain ⟨o', e', _⟩ := hX _ h; exact (F.mu _ o' e').2.2.1 F.ew.locW) eo, a3⟩
    · exact .inr (.inl ⟨a1, c1, a2, o, k.get (hoff _ a2) a3, a4⟩)
    · exact .inr (.inr ⟨a1, c1, a2, o, k.get (hoff _ a2) a3, a4⟩)
  · obtain ⟨g1, g2, g3⟩ := hM a o e
    refine ⟨g1, g2, fun hw => ?_, ?_⟩
    · rcases g3 with ⟨o', g3⟩ | g3
      · exact (F.mu a o' g3).2.2.1 hw
      · obtain ⟨o', z⟩ := F.ew.isW hw; rw [g3] at z; (have q_ := oNS z; clear z; exact q_.elim)
    · rcases g3 with ⟨o', g3⟩ | g3
      · exact (F.mu a o' g3).2.2.2
      · exact .inr (dead a g3)

/- the frame of a call that may change the objects of V -/
theorem Fra.lent {V : List Addr} (F : Fra C s₀ R₀ [] sc env W s R noM Δ) (hR : ∀ a ∈ V, R a = none) (hV : ∀ a ∈ V, ∃ o, s₀.heap.get? a = some o) : Fra C s₀ R₀ V sc env W s R (fun a => if a ∈ V then s₀.heap.get? a else none) Δ where
  keep := F.keep.sub fun _ h => nomatch h
  vold := hV
  vnew := fun a ha => let ⟨o, e⟩ := hV a ha; ⟨o, F.keep.get (by simp) e⟩
  ro := F.ro
  le := F.le
  sub := F.sub
  ew := F.ew
  fresh := F.fresh
  stor := F.stor
  mu := fun a o e => by
    split at e
    · rename_i ha
      refine ⟨F.keep.get (by simp) e, hR a ha, fun hw => ?_, .inl ha⟩
      rw [F.fresh a hw] at e; (have q_ := oNS e; clear e; exact q_.elim)
    · (have q_ := oNS e; clear e; exact q_.elim)

/-! statements by what they do -/
theorem st_expr {e : Expr} {p : Pos} {rest : List Stmt} (h : wpAny C.M A (eval e env) (fun _ s' => wpAny C.M A (execs rest env) Q E s') E s) (hi : interactive env = false) (hs : swapsWith e none p.line env = pure false := by rfl) :
    wpAny C.M A (execs (.Expr e p :: rest) env) Q E s := wpAny_execs_cons (wpAny_Expr_any h hi hs)
theorem Fra.quiet (F : Fra C s₀ R₀ V sc env W s R Mu Δ) : interactive env = false := by
  unfold interactive
  rw [F.eo.hsc, F.eo.fn]; rfl
theorem st_set {x : Str} {p q : Pos} {e : Expr} {rest : List Stmt} (_ : Fra C s₀ R₀ V sc env W s R Mu Δ) (he : wpAny C.M A (eval e env) (fun v s' => ∃ R' Mu' d, Fra C s₀ R₀ V sc env W s' R' Mu' Δ ∧ Rd R' v d ∧ ∀ s'', Fra C s₀ R₀ V sc env W s'' R' Mu' (upd Δ x d) → wpAny C.M A (execs rest env) Q E s'') E s)
    (hs : swapsWith e (some (.Name x p)) q.line env = pure false := by rfl) (hx : sc.names.lookup x = some .local ∨ sc.names.lookup x = some .cell := by first | exact Or.inl rfl | exact Or.inr rfl) :
    wpAny C.M A (execs (.Assign [.Name x p] e q :: rest) env) Q E s := by
  refine wpAny_execs_cons (wpAny_Assign_Name (wpAny_mono he (fun v s₁ p₁ => ?_) fun _ _ x => x) hs)
  obtain ⟨R', Mu', d, F', hd, k⟩ := p₁
  exact F'.store hd (fun s' _ F'' => k s' F'') hx

/- while: I holds before each test, with what is left to do -/
theorem st_while {test : Expr} {body rest : List Stmt} {p : Pos} (I : Nat → Shared → Prop) (k : Nat) (h0 : I k s)
    (turn : ∀ k s', I k s' → wpAny C.M A (isTrue test env (eval test env)) (fun b s₁ => if b then wpAny C.M A (execs body env) (fun f s₂ => match f with
        | .next | .cont => ∃ m, m < k ∧ I m s₂
        | .brk => wpAny C.M A (execs rest env) Q E s₂
        | .ret v => Q (.ret v) s₂) NoE s₁ else wpAny C.M A (execs rest env) Q E s₁) NoE s') :
    wpAny C.M A (execs (.While test body [] p :: rest) env) Q E s := by
  refine wpAny_execs_cons (wpAny_While (codeAny_whileLoop I (fun m s' hI => ?_) k h0))
  refine noE (turn m s' hI) fun b s₁ h₁ => ?_
  cases b with
  | true =>
    simp only [if_true] at h₁ ⊢
    refine noE h₁ fun f s₂ h₂ => ?_
    cases f <;> exact h₂
  | false =>
    simp only [Bool.false_eq_true, if_false] at h₁ ⊢
    exact wpAny_execs_nil h₁
end
end Mine
end
noncomputable section
open PySem PySem.W PyProof.Rows PySem.SeqAt PySem.MeetsSeq
set_option Elab.async false
set_option autoImplicit false
set_option maxRecDepth 100000
namespace Mine

theorem Base.ins {C : Cx} {K : Frag} (B : Base C K) {h : Heap} (k : hle C.h₀ h) : K.In h := B.K.keeps k

/- a method of an own class, found upon an object -/
structure MethA (K : Frag) (Cl : Addr) (name : Str) (f : Addr) : Prop where
  get : plainGet K Cl name = true
  find : findIn K (.ref Cl) name = some (some (.ref f))
  fn : typeIn K (.ref f) = some (.type "function")
  keep : keepIn K (.ref f) = true
/- an attribute in the object's own dict -/
structure OwnA (K : Frag) (Cl : Addr) (name : Str) : Prop where
  get : plainGet K Cl name = true
  dict : hasDictIn K Cl = true
  attr : ((findIn K (.ref Cl) name).any fun a => noGet K a) = true
  set : findIn K (.ref Cl) "__setattr__" = some (some (.builtin "object.__setattr__"))
  over : plainOver K Cl = true
  take : takerIn K Cl name = some none
/- an attribute in a slot -/
structure SlotA (K : Frag) (Cl : Addr) (name : Str) (p : Addr) (i : Nat) : Prop where
  get : plainGet K Cl name = true
  cls : isClsIn K Cl = true
  find : findIn K (.ref Cl) name = some (some (.ref p))
  sget : specialIn K (.ref p) "__get__" = some (some (.builtin "member_descriptor.__get__"))
  takes : takesIn K (.ref p) = some true
  slot : slotIn K p Cl = some i
  set : findIn K (.ref Cl) "__setattr__" = some (some (.builtin "object.__setattr__"))
  over : plainOver K Cl = true
  take : takerIn K Cl name = some (some (.ref p))
  typ : typeIn K (.ref p) = some (.type "member_descriptor")
  small : i < 1000

theorem putL_len (name : Str) (hsh : Int) (key v : Value) : ∀ es : List DictEntry, (putL name hsh key v es).length ≤ es.length + 1
  | [] => by simp [putL]
  | e :: r => by
    have ih := putL_len name hsh key v r
    simp only [putL]
    split
    · simp
    · simp only [List.length_cons]; omega

section
variable {C : Cx} {s₀ : Shared} {R₀ : Reg} {V : List Addr} {sc : Scope} {env : Env} {W : List Addr} {s s' : Shared} {R R' Mu Mu' : Reg} {Δ Δ' : Vars} {n : Nat} {A : Around} {E : Value → Shared → Prop} {Q : Flow → Shared → Prop} {K : Frag} {Cl x dx p f : Addr} {sl : Array (Option Value)} {od : Obj} {name : Str} {v : Value} {i : Nat}

theorem ev_own {e : Expr} {pos : Pos} (B : Base C K) (O : OwnA K Cl name) (he : Ev C n sc Δ e (.val (.ref x))) (hx : C.mu x = some (insObj Cl dx sl)) (hd : C.mu dx = some od) (hl : lookIn name od = some (some v)) (hv : handedIn v = true := by rfl)
    (hev : ∀ env, eval (.Attribute e name pos) env = (do
      let o ← eval e env
      standAt pos.atName
      let r ← holding [o] (getAttr o name true)
      letTemporaryGo e o r
      pure r) := by intro _; with_unfolding_all rfl) : Ev C n sc Δ (.Attribute e name pos) (.val v) := by
  intro A env s R rm ro eo
  refine Attribute_any_ (noE (he A env s R rm ro eo) fun o s₁ p₁ => ?_) (hev env)
  have h1 := p₁.2
  (have q_ := Rd.valE h1; clear h1; subst q_)
  have r₁ := ro.ext (Keeps.hle p₁.1)
  obtain ⟨attr, ha, hn⟩ := any_some O.attr
  exact getA_own (B.ins r₁.hle0) (r₁.mu _ _ hx) (r₁.mu _ _ hd) O.get O.dict ha hn hl hv (Post.step p₁.1 ⟨Keeps.toks s₁ _, .val v⟩)
theorem ev_slot {e : Expr} {pos : Pos} (B : Base C K) (O : SlotA K Cl name p i) (he : Ev C n sc Δ e (.val (.ref x))) (hx : C.mu x = some (insObj Cl dx sl)) (hd : C.mu dx = some od) (hl : (sl[i]?).join = some v) (hv : handedIn v = true := by rfl)
    (hev : ∀ env, eval (.Attribute e name pos) env = (do
      let o ← eval e env
      standAt pos.atName
      let r ← holding [o] (getAttr o name true)
      letTemporaryGo e o r
      pure r) := by intro _; with_unfolding_all rfl) : Ev C n sc Δ (.Attribute e name pos) (.val v) := by
  intro A env s R rm ro eo
  refine Attribute_any_ (noE (he A env s R rm ro eo) fun o s₁ p₁ => ?_) (hev env)
  have h1 := p₁.2
  (have q_ := Rd.valE h1; clear h1; subst q_)
  have r₁ := ro.ext (Keeps.hle p₁.1)
  exact getA_slot (B.ins r₁.hle0) (r₁.mu _ _ hx) (r₁.mu _ _ hd) O.get O.cls O.find O.sget O.takes O.slot hl hv (Post.step p₁.1 ⟨Keeps.toks s₁ _, .val v⟩)
theorem Ev.asInt {e : Expr} {i : Int} {t : Tok} (h : Ev C n sc Δ e (.val (.int i t))) : Ev C n sc Δ e (.int i) := fun A env s R rm ro eo => noE (h A env s R rm ro eo) fun v s₁ p₁ => by
  have h1 := p₁.2
  (have q_ := Rd.valE h1; clear h1; subst q_)
  exact ⟨p₁.1, .int i t⟩
theorem Ev.asNone {e : Expr} (h : Ev C n sc Δ e (.val .none)) : Ev C n sc Δ e .none := fun A env s R rm ro eo => noE (h A env s R rm ro eo) fun v s₁ p₁ => by
  have h1 := p₁.2
  (have q_ := Rd.valE h1; clear h1; subst q_)
  exact ⟨p₁.1, .none⟩

/- x.m(..): the call itself is told by wpAny -/
theorem meth_run {o e : Expr} {ap pos : Pos} {es : List Expr} {ds : List Dat} {Qv : Value → Shared → Prop} (B : Base C K) (O : MethA K Cl name f) (F : Fra C s₀ R₀ V sc env W s R Mu Δ) (rm : Room n A) (he : Ev (C.at Mu) n sc Δ o (.val (.ref x))) (hx : Mu x = some (insObj Cl dx sl)) (hd : Mu dx = some od)
    (hl : lookIn name od = some none) (ha : EvAll (C.at Mu) n sc Δ (e :: es) ds)
    (h : ∀ s₁ R₁ vs, R.le R₁ → Keeps s s₁ → Fra C s₀ R₀ V sc env W s₁ R₁ Mu Δ → RdAll R₁ vs ds → wpAny C.M A (call (.ref f) (.ref x :: vs)) Qv E s₁)
    (h2 : starEach (e :: es) env = (false, eval e env) :: starEach es env := by rfl) (h3 : (backTo pos (starEach es env)).any (·.1) = false := by rfl)
    {pl : Sem Bool} (hc : eval (.Call (.Attribute o name ap) (e :: es) [] pos) env = (do
      let ov ← eval o env
      standAt ap.atName
      let (f, first) ← holding [ov] (getMethod ov name pl)
      callWith pos f first (backTo pos (starEach (e :: es) env)) (backToKw pos (keywordEach [] env))) := by rfl) :
    wpAny C.M A (eval (.Call (.Attribute o name ap) (e :: es) [] pos) env) Qv E s := by
  refine methodCall_KW (pl := pl) (noE (he A env s R rm F.rom F.eo) fun ov s₁ p₁ => ?_) hc
  have h1 := p₁.2
  (have q_ := Rd.valE h1; clear h1; subst q_)
  have F₁ := F.ext p₁.1
  have r₁ := F₁.rom
  refine method_fn (B.ins r₁.hle0) (instAt (r₁.mu _ _ hx) (r₁.mu _ _ hd)) (plainGet_of O.get).1 (plainGet_of O.get).2 O.find O.fn (by show (lookIn name od).map _ = _; rw [hl]; rfl) ?_
  refine callWith_K (B.ins r₁.hle0) O.keep (noE (ha A env s₁ _ pos rm r₁ F₁.eo) fun vs s₂ p₂ => ?_) h2 h3
  have F₂ := F₁.ext p₂.1
  exact ⟨B.ins F₂.ro.hle0, h s₂ _ vs ((Reg.ext_le F.ro.on).trans (Reg.ext_le F₁.ro.on)) (Keeps.tr p₁.1 p₂.1) F₂ p₂.2⟩
theorem meth_run0 {o : Expr} {ap pos : Pos} {Qv : Value → Shared → Prop} (B : Base C K) (O : MethA K Cl name f) (F : Fra C s₀ R₀ V sc env W s R Mu Δ) (rm : Room n A) (he : Ev (C.at Mu) n sc Δ o (.val (.ref x))) (hx : Mu x = some (insObj Cl dx sl)) (hd : Mu dx = some od)
    (hl : lookIn name od = some none)
    (h : ∀ s₁ R₁, R.le R₁ → Keeps s s₁ → Fra C s₀ R₀ V sc env W s₁ R₁ Mu Δ → wpAny C.M A (call (.ref f) [.ref x]) Qv E s₁)
    {pl : Sem Bool} (hc : eval (.Call (.Attribute o name ap) [] [] pos) env = (do
      let ov ← eval o env
      standAt ap.atName
      let (f, first) ← holding [ov] (getMethod ov name pl)
      callWith pos f first (backTo pos (starEach [] env)) (backToKw pos (keywordEach [] env))) := by rfl) :
    wpAny C.M A (eval (.Call (.Attribute o name ap) [] [] pos) env) Qv E s := by
  refine methodCall_KW (pl := pl) (noE (he A env s R rm F.rom F.eo) fun ov s₁ p₁ => ?_) hc
  have h1 := p₁.2
  (have q_ := Rd.valE h1; clear h1; subst q_)
  have F₁ := F.ext p₁.1
  have r₁ := F₁.rom
  refine method_fn (B.ins r₁.hle0) (instAt (r₁.mu _ _ hx) (r₁.mu _ _ hd)) (plainGet_of O.get).1 (plainGet_of O.get).2 O.find O.fn (by show (lookIn name od).map _ = _; rw [hl]; rfl) ?_
  exact callWith_K0 (B.ins r₁.hle0) O.keep (h s₁ _ (Reg.ext_le F.ro.on) p₁.1 F₁)

/- x.a = e, in the object's dict -/
theorem st_own {o e : Expr} {ap pos : Pos} {d : Dat} {es : List DictEntry} {k : Nat} {rest : List Stmt} (B : Base C K) (O : OwnA K Cl name) (F : Fra C s₀ R₀ V sc env W s R Mu Δ) (rm : Room n A) (ho : Ev (C.at Mu) n sc Δ o (.val (.ref x))) (he : Ev (C.at Mu) n sc Δ e d) (hx : Mu x = some (insObj Cl dx sl)) (hd : Mu dx = some (dictOf es k))
    (hl : (getL name es).isSome = true) (hz : es.length < 1000)
    (h : ∀ s₁ R₁ v t, R.le R₁ → Rd R₁ v d → Fra C s₀ R₀ V sc env W s₁ R₁ (Mu.set dx (dictOf (putL name (PyData.keyHash C.w.params name) (.str name t) v es) (putN name es k))) Δ → wpAny C.M A (execs rest env) Q E s₁)
    (hs : swapsWith e (some (.Attribute o name ap)) pos.line env = pure false := by rfl) :
    wpAny C.M A (execs (.Assign [.Attribute o name ap] e pos :: rest) env) Q E s := by
  refine wpAny_execs_cons (plainObj_wpAny_Assign_Attribute (noE (he A env s R rm F.rom F.eo) fun v s₁ p₁ => ?_) hs)
  have F₁ := F.ext p₁.1
  refine noE (ho A env s₁ _ rm F₁.rom F₁.eo) fun ov s₂ p₂ => ?_
  have h1 := p₂.2
  (have q_ := Rd.valE h1; clear h1; subst q_)
  have F₂ := F₁.ext p₂.1
  have r₂ := F₂.rom
  refine setA_own (B.ins r₂.hle0) (r₂.mu _ _ hx) (r₂.mu _ _ hd) O.set O.over O.take O.dict hl rfl ?_ fun h' hsb hg => ?_
  · have := putL_len name (PyData.keyHash C.w.params name) (.str name (s₂.toks + 1)) v es; omega
  · exact h _ _ v _ ((Reg.ext_le F.ro.on).trans (Reg.ext_le F₁.ro.on)) (p₁.2.mono (Reg.ext_le F₁.ro.on)) (F₂.mut hd (fun _ q => nomatch q) hsb hg)
/- x.a = e, in a slot -/
theorem st_slot {o e : Expr} {ap pos : Pos} {d : Dat} {rest : List Stmt} (B : Base C K) (O : SlotA K Cl name p i) (F : Fra C s₀ R₀ V sc env W s R Mu Δ) (rm : Room n A) (ho : Ev (C.at Mu) n sc Δ o (.val (.ref x))) (he : Ev (C.at Mu) n sc Δ e d) (hx : Mu x = some (insObj Cl dx sl)) (hd : Mu dx = some od)
    (h : ∀ s₁ R₁ v, R.le R₁ → Rd R₁ v d → Fra C s₀ R₀ V sc env W s₁ R₁ (Mu.set x (insObj Cl dx ((sl ++ Array.replicate (i + 1 - sl.size) none).setIfInBounds i (some v)))) Δ → wpAny C.M A (execs rest env) Q E s₁)
    (hs : swapsWith e (some (.Attribute o name ap)) pos.line env = pure false := by rfl) :
    wpAny C.M A (execs (.Assign [.Attribute o name ap] e pos :: rest) env) Q E s := by
  refine wpAny_execs_cons (plainObj_wpAny_Assign_Attribute (noE (he A env s R rm F.rom F.eo) fun v s₁ p₁ => ?_) hs)
  have F₁ := F.ext p₁.1
  refine noE (ho A env s₁ _ rm F₁.rom F₁.eo) fun ov s₂ p₂ => ?_
  have h1 := p₂.2
  (have q_ := Rd.valE h1; clear h1; subst q_)
  have F₂ := F₁.ext p₂.1
  have r₂ := F₂.rom
  refine setA_slot (B.ins r₂.hle0) (r₂.mu _ _ hx) (r₂.mu _ _ hd) O.set O.over O.take O.typ O.slot O.small fun h' hsb hg => ?_
  exact h _ _ v ((Reg.ext_le F.ro.on).trans (Reg.ext_le F₁.ro.on)) (p₁.2.mono (Reg.ext_le F₁.ro.on)) (F₂.mut hx (fun _ q => nomatch q) hsb hg)
/- x.a op= e, in the object's dict -/
theorem st_ownAug {o e : Expr} {ap pos : Pos} {op : Operator} {d₀ d₁ d : Dat} {es : List DictEntry} {k : Nat} {rest : List Stmt} (B : Base C K) (O : OwnA K Cl name) (F : Fra C s₀ R₀ V sc env W s R Mu Δ) (rm : Room n A) (ho : Ev (C.at Mu) n sc Δ o (.val (.ref x))) (he : Ev (C.at Mu) n sc Δ e d₁) (hx : Mu x = some (insObj Cl dx sl)) (hd : Mu dx = some (dictOf es k))
    (hl : getL name es = some (some v)) (hv : handedIn v = true) (hd₀ : ∀ R, Rd R v d₀) (hop : Op2 (C.at Mu) n (inplaceOp op) d₀ d₁ d) (hz : es.length < 1000)
    (h : ∀ s₁ R₁ v t, R.le R₁ → Rd R₁ v d → Fra C s₀ R₀ V sc env W s₁ R₁ (Mu.set dx (dictOf (putL name (PyData.keyHash C.w.params name) (.str name t) v es) (putN name es k))) Δ → wpAny C.M A (execs rest env) Q E s₁) :
    wpAny C.M A (execs (.AugAssign (.Attribute o name ap) op e pos :: rest) env) Q E s := by
  refine wpAny_execs_cons (wpAny_AugAssign_AttributeAny (noE (ho A env s R rm F.rom F.eo) fun ov s₁ p₁ => ?_))
  have h1 := p₁.2
  (have q_ := Rd.valE h1; clear h1; subst q_)
  have F₁ := F.ext p₁.1
  have r₁ := F₁.rom
  obtain ⟨attr, ha, hn⟩ := any_some O.attr
  refine getA_own (B.ins r₁.hle0) (r₁.mu _ _ hx) (r₁.mu _ _ hd) O.get O.dict ha hn ((lookIn_dict name es k).trans hl) hv ?_
  have F₂ := F₁.ext (Keeps.toks s₁ (s₁.toks + 1))
  refine noE (he A env _ _ rm F₂.rom F₂.eo) fun v₁ s₃ p₃ => ?_
  have F₃ := F₂.ext p₃.1
  refine noE (hop A s₃ _ v v₁ rm F₃.rom (hd₀ _) p₃.2) fun r s₄ p₄ => ?_
  have F₄ := F₃.ext p₄.1
  have r₄ := F₄.rom
  refine setA_own (B.ins r₄.hle0) (r₄.mu _ _ hx) (r₄.mu _ _ hd) O.set O.over O.take O.dict (by rw [hl]; rfl) rfl ?_ fun h' hsb hg => ?_
  · have := putL_len name (PyData.keyHash C.w.params name) (.str name (s₄.toks + 1)) r es; omega
  · exact h _ _ r _ ((Reg.ext_le F.ro.on).trans ((Reg.ext_le F₁.ro.on).trans ((Reg.ext_le F₂.ro.on).trans (Reg.ext_le F₃.ro.on)))) p₄.2 (F₄.mut hd (fun _ q => nomatch q) hsb hg)
/- x.a op= e, in a slot -/
theorem st_slotAug {o e : Expr} {ap pos : Pos} {op : Operator} {d₀ d₁ d : Dat} {rest : List Stmt} (B : Base C K) (O : SlotA K Cl name p i) (F : Fra C s₀ R₀ V sc env W s R Mu Δ) (rm : Room n A) (ho : Ev (C.at Mu) n sc Δ o (.val (.ref x))) (he : Ev (C.at Mu) n sc Δ e d₁) (hx : Mu x = some (insObj Cl dx sl)) (hd : Mu dx = some od)
    (hl : (sl[i]?).join = some v) (hv : handedIn v = true) (hd₀ : ∀ R, Rd R v d₀) (hop : Op2 (C.at Mu) n (inplaceOp op) d₀ d₁ d)
    (h : ∀ s₁ R₁ v, R.le R₁ → Rd R₁ v d → Fra C s₀ R₀ V sc env W s₁ R₁ (Mu.set x (insObj Cl dx ((sl ++ Array.replicate (i + 1 - sl.size) none).setIfInBounds i (some v)))) Δ → wpAny C.M A (execs rest env) Q E s₁) :
    wpAny C.M A (execs (.AugAssign (.Attribute o name ap) op e pos :: rest) env) Q E s := by
  refine wpAny_execs_cons (wpAny_AugAssign_AttributeAny (noE (ho A env s R rm F.rom F.eo) fun ov s₁ p₁ => ?_))
  have h1 := p₁.2
  (have q_ := Rd.valE h1; clear h1; subst q_)
  have F₁ := F.ext p₁.1
  have r₁ := F₁.rom
  refine getA_slot (B.ins r₁.hle0) (r₁.mu _ _ hx) (r₁.mu _ _ hd) O.get O.cls O.find O.sget O.takes O.slot hl hv ?_
  have F₂ := F₁.ext (Keeps.toks s₁ (s₁.toks + 1))
  refine noE (he A env _ _ rm F₂.rom F₂.eo) fun v₁ s₃ p₃ => ?_
  have F₃ := F₂.ext p₃.1
  refine noE (hop A s₃ _ v v₁ rm F₃.rom (hd₀ _) p₃.2) fun r s₄ p₄ => ?_
  have F₄ := F₃.ext p₄.1
  have r₄ := F₄.rom
  refine setA_slot (B.ins r₄.hle0) (r₄.mu _ _ hx) (r₄.mu _ _ hd) O.set O.over O.take O.typ O.slot O.small fun h' hsb hg => ?_
  exact h _ _ r ((Reg.ext_le F.ro.on).trans ((Reg.ext_le F₁.ro.on).trans ((Reg.ext_le F₂.ro.on).trans (Reg.ext_le F₃.ro.on)))) p₄.2 (F₄.mut hx (fun _ q => nomatch q) hsb hg)
end
end Mine
end
noncomputable section
open PySem PySem.W PyProof.Rows PySem.SeqAt PySem.MeetsSeq
set_option Elab.async false
set_option autoImplicit false
set_option maxRecDepth 100000
namespace Mine

section
variable {C : Cx} {n : Nat} {sc : Scope} {Δ : Vars} {D : Addr} {od : Obj} {kvs : List (Int × Value)}
noncomputable abbrev iK (C : Cx) : KeyKind C.prog C.w Int := intKind C.prog C.w
theorem dictAt_of {h : Heap} (hD : h.get? D = some od) (hk : od.IsDictOf (iK C) kvs) : h.DictOf (iK C) D kvs := Heap.dictOf_iff.mpr ⟨od, hD, hk⟩

theorem ev_dget {o e : Expr} {ap p : Pos} {k : Int} (ho : Ev C n sc Δ o (.val (.ref D))) (he : Ev C n sc Δ e (.int k)) (hD : C.mu D = some od) (hk : od.IsDictOf (iK C) kvs) (hds : (D == sysModules) = false)
    (hline : (ap.endLine == p.line) = true := by rfl) (hbase : ∀ env, attributeBase o (Str.ofString "get") env (eval o env) = eval o env := by intro _; rfl) (hs : ∀ env, backTo p (starEach [e] env) = [(false, eval e env)] := by intro _; rfl) :
    Ev C n sc Δ (.Call (.Attribute o (Str.ofString "get") ap) [e] [] p) (.val ((valueAt kvs k).getD .none)) := by
  intro A env s R rm ro eo
  refine wpAny_Call_method1_late (hbase env) hline (hs env) (noE (ho A env s R rm ro eo) fun ov s₁ p₁ => ?_)
  have h1 := p₁.2
  (have q_ := Rd.valE h1; clear h1; subst q_)
  have k₁ := Keeps.hle p₁.1
  have r₁ := ro.ext k₁
  have dm := dictAt_of (C := C) (r₁.mu _ _ hD) hk
  refine ⟨"dict", "dict.get", F.plainAttrs_dict, F.slot_dict_get, F.type_dict_get, dm.typeIs, dm.mapOf.noDict, ?_⟩
  refine wpAny_dict_get1 (knd := iK C) hds (noE (he A env s₁ _ rm r₁ (eo.ext ro k₁)) fun key s₂ p₂ => ?_)
  have h2 := p₂.2
  (have q_ := Rd.intE h2; clear h2; obtain ⟨_, rfl⟩ := q_)
  have r₂ := r₁.ext (Keeps.hle p₂.1)
  exact ⟨k, _, intKind_is _ _ _ _, (dictAt_of (C := C) (r₂.mu _ _ hD) hk).mapOf, Keeps.tr (Keeps.tr p₁.1 p₂.1) (Keeps.toks s₂ _), .val _⟩

theorem op_ditem {v i : Expr} {k : Int} {w : Value} (hD : C.mu D = some od) (hk : od.IsDictOf (iK C) kvs) (hv : valueAt kvs k = some w)
    (hs : ∀ o u, subscripted i false o (.int k u) = operate [o, .int k u] (getItem o (.int k u)) := by intro _ _; rfl) : Op2 C n (subscriptTail v i) (.val (.ref D)) (.int k) (.val w) := by
  intro A s R v₁ v₂ rm ro h₁ h₂
  (have q_ := Rd.valE h₁; clear h₁; subst q_)
  (have q_ := Rd.intE h₂; clear h₂; obtain ⟨_, rfl⟩ := q_)
  have dm := dictAt_of (C := C) (ro.mu _ _ hD) hk
  exact tail_any dm.typeIs slot_dict_getitem.lookup (wpAny_getItem_of (intKind_is _ _ _ _) dm.mapOf hv ⟨Keeps.toks s _, .val _⟩) (hs _ _)

/-! going through a dict -/
theorem iter_dict {I : Addr} {ep : Nat} {R₀ : Reg} {es : Array DictEntry} (hD : C.mu D = some od) (hk : od.ExactDict ∧ od.data = .dict es ep ∧ KeysOf (iK C) es ∧ Pairs (iK C) es.toList kvs ∧ (kvs.map (·.1)).Nodup) (hI : C.mu I = none) :
    Iter C (.ref I) [I] (kvs.map fun kv => Dat.int kv.1) R₀ (fun i h => h.IsKeyIter I D i kvs.length ep ∧ h.get? D = some od) where
  frame := fun i h h' st hk' _ hm => ⟨let ⟨o, ho, r⟩ := st.1; ⟨o, hk' I (by simp) o ho, r⟩, hm _ _ hD⟩
  alive := fun i h st b hb => by
    obtain ⟨o, x, _⟩ := st.1
    rw [List.mem_singleton.mp hb]; exact ⟨o, x⟩
  next := fun A i s R d hh hi st hle ho hW => by
    have hne : D ≠ I := fun h => by rw [h, hI] at hD; (have q_ := oNS hD; clear hD; exact q_.elim)
    rw [List.getElem?_map] at hi
    obtain ⟨⟨k, v⟩, hkv, rfl⟩ := Option.map_eq_some_iff.mp hi
    refine wpAny_pyNext_dict_item (knd := iK C) st.1 ⟨od, es, st.2, hk⟩ hkv fun key h' hkey hit' hs' => ?_
    refine ⟨key, rfl, ⟨hit', hs'.extBut _ _ hne st.2⟩, ⟨h', s.toks, rfl, fun b o hb e => hs'.extBut b o (fun h => hb (by simp [h])) e⟩, ?_⟩
    have : ∃ t, key = .int k t := by
      simp only [intKind, Value.isInt] at hkey
      cases key <;> first | exact ⟨_, by rw [beq_iff_eq.mp hkey]⟩ | (simp at hkey)
    obtain ⟨t, rfl⟩ := this
    exact .int k t
  done := fun A s hh st => by
    refine wpAny_pyNext_dict_end (knd := iK C) hh st.1 ⟨od, es, st.2, hk⟩ (by simp) fun h' he' => ⟨rfl, h', s.toks, rfl, fun b o hb e => he' b o (fun h => hb (by simp [h])) e⟩
  self := fun A i s Q E st hQ => wpAny_pyIter_keyiter st.1 hQ
  letgo := fun A i s t v Q E _ st hQ => by
    obtain ⟨o, ho, hc, _⟩ := st.1
    exact letgo_plain ho hc (by decide) (hQ s st (.rfl' _ _))
end
end Mine
end
noncomputable section
open PySem PySem.W PyProof.Rows PySem.SeqAt PySem.MeetsSeq
set_option Elab.async false
set_option autoImplicit false
set_option maxRecDepth 100000
namespace Mine

/- what going through v gives, from the state s on -/
noncomputable def ItV (C : Cx) (v : Value) (R : Reg) (s : Shared) (ds : List Dat) : Prop :=
  ∀ A, A.handled = none → wpAny C.M A (pyIter v) (fun it s₂ => Keeps s s₂ ∧ ∃ wr St, Iter C it wr ds ((R.ext s.heap s₂.heap).minus wr) St ∧ St 0 s₂.heap ∧ (∀ a ∈ wr, s.heap.get? a = none)) NoE s
section
variable {C : Cx} {n : Nat} {sc : Scope} {Δ : Vars} {D : Addr} {od : Obj} {kvs : List (Int × Value)} {s : Shared} {R : Reg}
theorem evIt_of {e : Expr} {ds : List Dat} {P : Value → Reg → Prop} (h : ∀ A env s R, Room n A → Rok C R s.heap → EnvOk sc env s.heap R Δ → wpAny C.M A (eval e env) (fun v s' => Keeps s s' ∧ P v (R.ext s.heap s'.heap)) NoE s)
    (hp : ∀ v R s, P v R → Rok C R s.heap → ItV C v R s ds) : EvIt C n sc Δ e ds := by
  intro A env s R rm ro eo
  refine noE (h A env s R rm ro eo) fun v s₁ p₁ => ?_
  have k₁ := Keeps.hle p₁.1
  refine noE (hp v _ s₁ p₁.2 (ro.ext k₁) A rm.handled) fun it s₂ h₂ => ?_
  obtain ⟨k₂, wr, St, It, st, hw⟩ := h₂
  have hdead : ∀ a ∈ wr, s.heap.get? a = none := fun a ha => by
    cases e : s.heap.get? a with
    | none => rfl
    | some o => have := k₁ _ _ e; rw [hw a ha] at this; (have q_ := oNS this; clear this; exact q_.elim)
  refine ⟨Keeps.tr p₁.1 k₂, wr, St, ?_, st, hdead⟩
  have le : (((R.ext s.heap s₁.heap).ext s₁.heap s₂.heap).minus wr).le ((R.ext s.heap s₂.heap).minus wr) := fun a o e => by
    by_cases ha : a ∈ wr
    · rw [Reg.minus_off ha] at e; (have q_ := oNS e; clear e; exact q_.elim)
    · exact Reg.minus_some ha (Reg.ext_ext k₁ (Keeps.hle k₂) a o (Reg.minus_le a o e))
  exact { It with frame := fun i h h' st hk ho hm => It.frame i h h' st hk (ho.le le) hm, next := fun A i s R d hh hi st hle => It.next A i s R d hh hi st (le.trans hle) }
theorem new_up {o : Obj} (ro : R.on s.heap) : R.le ((R.ext s.heap (s.heap.push o)).minus [s.heap.objs.size]) := fun a ob e =>
  Reg.minus_some (fun h => by
    have := ro a ob e
    rw [List.mem_singleton.mp h, fresh_none] at this; (have q_ := oNS this; clear this; exact q_.elim)) (Reg.ext_le ro a ob e)

theorem iter_tuple {I l : Addr} {vs : List Value} {ds : List Dat} {R₀ : Reg} {o : Obj} {n : Nat} (hl : R₀ l = some o) (hc : o.cls = .type "tuple") (hd : o.data = .seq vs.toArray n) (hr : RdAll R₀ vs ds) (hI : R₀ I = none) :
    Iter C (.ref I) [I] ds R₀ (fun i h => h.IsTupleIter I l i ∧ h.IsTuple l vs.toArray) where
  frame := fun i h h' st hk ho _ => ⟨let ⟨o, a, r⟩ := st.1; ⟨o, hk I (by simp) o a, r⟩, ⟨_, ho _ _ hl, hc, _, hd⟩⟩
  alive := fun i h st b hb => by
    obtain ⟨o, x, _⟩ := st.1
    rw [List.mem_singleton.mp hb]; exact ⟨o, x⟩
  next := fun A i s R d hh hi st hle ho hW => by
    obtain ⟨v, hv, hdv⟩ := hr.get hi
    have hne : l ≠ I := fun h => by rw [h, hI] at hl; (have q_ := oNS hl; clear hl; exact q_.elim)
    refine wpAny_pyNext_tuple_item st.1 st.2 (x := v) (by simpa using hv) fun h' hit' hs' => ?_
    refine ⟨v, rfl, ⟨hit', st.2.extBut hs'.extBut hne⟩, ⟨h', s.toks, rfl, fun b o hb e => hs'.extBut b o (fun h => hb (by simp [h])) e⟩, hdv.mono (hle.trans (Reg.ext_le ho))⟩
  done := fun A s hh st => by
    refine wpAny_pyNext_tuple_end hh st.1 st.2 (by simp [hr.length]) fun h' he' => ⟨rfl, h', s.toks, rfl, fun b o hb e => he' b o (fun h => hb (by simp [h])) e⟩
  self := fun A i s Q E st hQ => wpAny_pyIter_tupleiter st.1 hQ
  letgo := fun A i s t v Q E _ st hQ => by
    obtain ⟨o, ho, hc, _⟩ := st.1
    exact letgo_plain ho hc (by decide) (hQ s st (.rfl' _ _))
theorem itv_tup {v : Value} {ds : List Dat} (h : Rd R v (.tup ds)) (ro : R.on s.heap) : ItV C v R s ds := by
  intro A hh
  obtain ⟨l, rfl⟩ := h.tup_ref
  cases h with
  | tup hl hc hd hr =>
    rename_i o vs n
    have hL : s.heap.IsTuple l vs.toArray := ⟨o, ro _ _ hl, hc, n, hd⟩
    refine wpAny_pyIter_tuple hL ⟨Keeps.push s _, [s.heap.objs.size], _, iter_tuple (new_up ro _ _ hl) hc hd (hr.mono (new_up ro)) (Reg.minus_off (by simp)), ⟨⟨_, Heap.get?_push_size _ rfl, rfl, rfl⟩, hL.push _⟩, fun a ha => by rw [List.mem_singleton.mp ha]; exact fresh_none⟩
theorem evIt_tup {e : Expr} {ds : List Dat} (h : Ev C n sc Δ e (.tup ds)) : EvIt C n sc Δ e ds := evIt_of (P := fun v R => Rd R v (.tup ds)) h fun _ _ _ p ro => itv_tup p ro.on

theorem iter_mul {I l : Addr} {vs : List Value} {ds : List Dat} {R₀ : Reg} {n : Nat} (hl : C.mu l = some (lstObj vs n)) (hr : RdAll R₀ vs ds) (hI : I ≠ l) :
    Iter C (.ref I) [I] ds R₀ (fun i h => h.IsListIter I l i ∧ h.IsList l vs.toArray) where
  frame := fun i h h' st hk _ ho => ⟨st.1.at fun o e => hk I (by simp) o e, ⟨_, ho _ _ hl, rfl, _, rfl⟩⟩
  alive := fun i h st b hb => by
    obtain ⟨o, x, _⟩ := st.1
    rw [List.mem_singleton.mp hb]; exact ⟨o, x⟩
  next := fun A i s R d hh hi st hle ho hW => by
    obtain ⟨v, hv, hdv⟩ := hr.get hi
    refine wpAny_pyNext_list_item st.1 st.2 (x := v) (by simpa using hv) fun h' hit' hs' => ?_
    refine ⟨v, rfl, ⟨hit', st.2.extBut hs'.extBut (Ne.symm hI)⟩, ⟨h', s.toks, rfl, fun b o hb e => hs'.extBut b o (fun h => hb (by simp [h])) e⟩, hdv.mono (hle.trans (Reg.ext_le ho))⟩
  done := fun A s hh st => by
    refine wpAny_pyNext_list_end hh st.1 st.2 (by simp [hr.length]) fun h' he' => ⟨rfl, h', s.toks, rfl, fun b o hb e => he' b o (fun h => hb (by simp [h])) e⟩
  self := fun A i s Q E st hQ => wpAny_pyIter_listiter st.1 hQ
  letgo := fun A i s t v Q E _ st hQ => by
    obtain ⟨o, ho, hc, _⟩ := st.1
    exact letgo_plain ho hc (by decide) (hQ s st (.rfl' _ _))
/- going through a list that is mutable, its items known anywhere -/
theorem evIt_mul {e : Expr} {ds : List Dat} {l : Addr} {vs : List Value} {m : Nat} (h : Ev C n sc Δ e (.val (.ref l))) (hl : C.mu l = some (lstObj vs m)) (hr : RdAll noM vs ds) : EvIt C n sc Δ e ds := by
  refine evIt_of (P := fun v R => Rd R v (.val (.ref l))) h fun v R s p ro => ?_
  (have q_ := Rd.valE p; clear p; subst q_)
  intro A hh
  have hL : s.heap.IsList l vs.toArray := ⟨_, ro.mu _ _ hl, rfl, m, rfl⟩
  refine wpAny_pyIter_list hL ⟨Keeps.push s _, [s.heap.objs.size], _, iter_mul hl (hr.mono (show noM.le _ from fun a o (e : noM a = some o) => nomatch e)) (fun h => by have := ro.mu _ _ hl; rw [← h, fresh_none] at this; (have q_ := oNS this; clear this; exact q_.elim)), ⟨⟨_, Heap.get?_push_size _ rfl, rfl, rfl⟩, hL.push _⟩, fun a ha => by rw [List.mem_singleton.mp ha]; exact fresh_none⟩
theorem evIt_dict {e : Expr} (h : Ev C n sc Δ e (.val (.ref D))) (hD : C.mu D = some od) (hk : od.IsDictOf (iK C) kvs) (hds : (D == sysModules) = false) : EvIt C n sc Δ e (kvs.map fun kv => Dat.int kv.1) := by
  refine evIt_of (P := fun v R => Rd R v (.val (.ref D))) h fun v R s p ro => ?_
  (have q_ := Rd.valE p; clear p; subst q_)
  intro A hh
  obtain ⟨es, ep, hk⟩ := hk
  have dm : s.heap.DictAt (iK C) D kvs ep := ⟨od, es, ro.mu _ _ hD, hk⟩
  have hI : C.mu s.heap.objs.size = none := by
    cases e : C.mu s.heap.objs.size with
    | none => rfl
    | some o => have := ro.mu _ _ e; rw [fresh_none] at this; (have q_ := oNS this; clear this; exact q_.elim)
  refine wpAny_pyIter_dict hds dm ⟨Keeps.push s _, [s.heap.objs.size], _, iter_dict hD hk hI, ⟨⟨_, Heap.get?_push_size _ rfl, rfl, rfl⟩, Heap.get?_push_of_some _ (ro.mu _ _ hD)⟩, fun a ha => by rw [List.mem_singleton.mp ha]; exact fresh_none⟩

theorem iter_values {I : Addr} {ep : Nat} {R₀ : Reg} {es : Array DictEntry} (hD : C.mu D = some od) (hk : od.ExactDict ∧ od.data = .dict es ep ∧ KeysOf (iK C) es ∧ Pairs (iK C) es.toList kvs ∧ (kvs.map (·.1)).Nodup) (hI : C.mu I = none) :
    Iter C (.ref I) [I] (kvs.map fun kv => Dat.val kv.2) R₀ (fun i h => h.IsValIter I D i kvs.length ep ∧ h.get? D = some od) where
  frame := fun i h h' st hk' _ hm => ⟨let ⟨o, ho, r⟩ := st.1; ⟨o, hk' I (by simp) o ho, r⟩, hm _ _ hD⟩
  alive := fun i h st b hb => by
    obtain ⟨o, x, _⟩ := st.1
    rw [List.mem_singleton.mp hb]; exact ⟨o, x⟩
  next := fun A i s R d hh hi st hle ho hW => by
    have hne : D ≠ I := fun h => by rw [h, hI] at hD; (have q_ := oNS hD; clear hD; exact q_.elim)
    rw [List.getElem?_map] at hi
    obtain ⟨⟨k, v⟩, hkv, rfl⟩ := Option.map_eq_some_iff.mp hi
    refine wpAny_pyNext_values_item (knd := iK C) st.1 ⟨od, es, st.2, hk⟩ hkv fun h' hit' hs' => ?_
    exact ⟨v, rfl, ⟨hit', hs'.extBut _ _ hne st.2⟩, ⟨h', s.toks, rfl, fun b o hb e => hs'.extBut b o (fun h => hb (by simp [h])) e⟩, .val v⟩
  done := fun A s hh st => by
    refine wpAny_pyNext_values_end (knd := iK C) hh st.1 ⟨od, es, st.2, hk⟩ (by simp) fun h' he' => ⟨rfl, h', s.toks, rfl, fun b o hb e => he' b o (fun h => hb (by simp [h])) e⟩
  self := fun A i s Q E st hQ => wpAny_pyIter_valiter st.1 hQ
  letgo := fun A i s t v Q E _ st hQ => by
    obtain ⟨o, ho, hc, _⟩ := st.1
    exact letgo_plain ho hc (by decide) (hQ s st (.rfl' _ _))
/- d.values() -/
theorem evIt_values {o : Expr} {ap p : Pos} (ho : Ev C n sc Δ o (.val (.ref D))) (hD : C.mu D = some od) (hk : od.IsDictOf (iK C) kvs) (hds : (D == sysModules) = false)
    (hline : (ap.endLine == p.line) = true := by rfl) (hbase : ∀ env, attributeBase o (Str.ofString "values") env (eval o env) = eval o env := by intro _; rfl) :
    EvIt C n sc Δ (.Call (.Attribute o (Str.ofString "values") ap) [] [] p) (kvs.map fun kv => Dat.val kv.2) := by
  refine evIt_of (P := fun v R => ∃ a, v = .ref a ∧ R a = some { cls := .type "dict_values", data := .fields #[.ref D] }) (fun A env s R rm ro eo => ?_) fun v R s p ro => ?_
  · refine wpAny_Call_method0_late (hbase env) hline (noE (ho A env s R rm ro eo) fun ov s₁ p₁ => ?_)
    have h1 := p₁.2
    (have q_ := Rd.valE h1; clear h1; subst q_)
    have k₁ := Keeps.hle p₁.1
    have r₁ := ro.ext k₁
    have dm := dictAt_of (C := C) (r₁.mu _ _ hD) hk
    refine ⟨"dict", "dict.values", F.plainAttrs_dict, F.slot_dict_values, F.type_dict_values, dm.typeIs, dm.mapOf.noDict, ?_⟩
    refine method_meetsIn F.slot_dict_values F.entry_dict_values rfl (PyProof.Rows.evalArgs_none ⟨rfl, dm.typeIs, F.args_dict_values_1 _, _, meets_dict_values (iK C) D hds, ⟨_, dm⟩, ?_⟩)
    have kp := Keeps.push s₁ { cls := .type "dict_values", data := .fields #[.ref D] }
    refine ⟨Keeps.tr p₁.1 kp, _, rfl, ?_⟩
    refine Reg.new_ext ?_ (Heap.get?_push_size _ rfl)
    cases e : s.heap.get? s₁.heap.objs.size with
    | none => rfl
    | some o' => have := k₁ _ _ e; rw [fresh_none] at this; (have q_ := oNS this; clear this; exact q_.elim)
  · obtain ⟨a, rfl, ha⟩ := p
    intro A hh
    obtain ⟨es, ep, hk⟩ := hk
    have dm : s.heap.DictAt (iK C) D kvs ep := ⟨od, es, ro.mu _ _ hD, hk⟩
    have hI : C.mu s.heap.objs.size = none := by
      cases e : C.mu s.heap.objs.size with
      | none => rfl
      | some o => have := ro.mu _ _ e; rw [fresh_none] at this; (have q_ := oNS this; clear this; exact q_.elim)
    refine wpAny_pyIter_values (knd := iK C) ⟨_, ro.on _ _ ha, rfl, rfl⟩ dm ⟨Keeps.push s _, [s.heap.objs.size], _, iter_values hD hk hI, ⟨⟨_, Heap.get?_push_size _ rfl, rfl, rfl⟩, Heap.get?_push_of_some _ (ro.mu _ _ hD)⟩, fun a ha => by rw [List.mem_singleton.mp ha]; exact fresh_none⟩
end
end Mine
end
noncomputable section
open PySem PySem.W PyProof.Rows PySem.SeqAt PySem.MeetsSeq
set_option Elab.async false
set_option autoImplicit false
set_option maxRecDepth 100000
namespace Mine

/-! a sorter in the heap -/
inductive Role where
  | no | s | d | D | q
  | inf (k : Nat) | emp (k : Nat) | suc (k : Nat)
deriving DecidableEq
structure Srt where
  s : Addr
  d : Addr
  D : Addr
  q : Addr
  inf : Nat → Addr
  emp : Nat → Addr
  suc : Nat → Addr
  role : Addr → Role
structure Sd where
  ks : List Nat
  np : Nat → Int
  su : Nat → List Nat
  rd : Option (List Nat)
  po : Int
  nf : Int
noncomputable abbrev encN (l : List Nat) : List Dat := l.map fun (k : Nat) => Dat.int (k : Int)
noncomputable def rdV (Z : Srt) : Option (List Nat) → Value
  | none => .none
  | some _ => .ref Z.q
noncomputable abbrev nodeObj (cN emp : Addr) (k : Nat) (t : Tok) (np : Int) (u : Tok) (suc : Addr) : Obj := insObj cN emp #[some (.int (k : Int) t), some (.int np u), some (.ref suc)]
noncomputable abbrev nodePairs (ks : List Nat) (inf : Nat → Addr) : List (Int × Value) := ks.map fun (k : Nat) => ((k : Int), Value.ref (inf k))
/- the entries of the object's dict -/
noncomputable def sEnts (Z : Srt) (rd : Value) (po nf : Int) (h : Nat → Int) (t : Nat → Tok) : List DictEntry :=
  [⟨h 0, .str (Str.ofString "_node2info") (t 0), .ref Z.D⟩, ⟨h 1, .str (Str.ofString "_ready_nodes") (t 1), rd⟩, ⟨h 2, .str (Str.ofString "_npassedout") (t 2), .int po (t 4)⟩, ⟨h 3, .str (Str.ofString "_nfinished") (t 3), .int nf (t 5)⟩]

structure SAt (C : Cx) (cT cN : Addr) (M : Reg) (Z : Srt) (σ : Sd) : Prop where
  s : M Z.s = some (insObj cT Z.d #[])
  d : ∃ h t n, M Z.d = some (dictOf (sEnts Z (rdV Z σ.rd) σ.po σ.nf h t) n)
  D : ∃ o, M Z.D = some o ∧ o.IsDictOf (iK C) (nodePairs σ.ks Z.inf)
  inf : ∀ k ∈ σ.ks, ∃ t u, M (Z.inf k) = some (nodeObj cN (Z.emp k) k t (σ.np k) u (Z.suc k))
  emp : ∀ k ∈ σ.ks, M (Z.emp k) = some emptyDict
  suc : ∀ k ∈ σ.ks, ∃ vs n, M (Z.suc k) = some (lstObj vs n) ∧ RdAll noM vs (encN (σ.su k))
  q : ∀ l, σ.rd = some l → ∃ vs n, M Z.q = some (lstObj vs n) ∧ RdAll noM vs (encN l)
  rs : Z.role Z.s = .s
  rd : Z.role Z.d = .d
  rD : Z.role Z.D = .D
  rq : σ.rd ≠ none → Z.role Z.q = .q
  rinf : ∀ k ∈ σ.ks, Z.role (Z.inf k) = .inf k
  remp : ∀ k ∈ σ.ks, Z.role (Z.emp k) = .emp k
  rsuc : ∀ k ∈ σ.ks, Z.role (Z.suc k) = .suc k
  nod : σ.ks.Nodup
  sm : (Z.D == sysModules) = false
  len : σ.ks.length ≤ 7

/- the sorter's objects -/
noncomputable def Srt.all (Z : Srt) (σ : Sd) : List Addr := Z.s :: Z.d :: Z.D :: ((if σ.rd.isSome then [Z.q] else []) ++ σ.ks.flatMap fun k => [Z.inf k, Z.emp k, Z.suc k])
theorem Srt.mem_all {Z : Srt} {σ : Sd} {a : Addr} : a ∈ Z.all σ ↔ a = Z.s ∨ a = Z.d ∨ a = Z.D ∨ (σ.rd ≠ none ∧ a = Z.q) ∨ ∃ k ∈ σ.ks, a = Z.inf k ∨ a = Z.emp k ∨ a = Z.suc k := by
  simp only [Srt.all, List.mem_cons, List.mem_append, List.mem_flatMap, List.not_mem_nil, or_false]
  cases h : σ.rd <;> simp

section
variable {C : Cx} {cT cN : Addr} {M M' : Reg} {Z : Srt} {σ : Sd}
theorem SAt.obj (S : SAt C cT cN M Z σ) {a : Addr} (ha : a ∈ Z.all σ) : ∃ o, M a = some o ∧ ∀ v, o.data ≠ .cell v := by
  rcases Srt.mem_all.mp ha with rfl | rfl | rfl | ⟨h, rfl⟩ | ⟨k, hk, rfl | rfl | rfl⟩
  · exact ⟨_, S.s, fun v e => nomatch e⟩
  · obtain ⟨h, t, n, e⟩ := S.d; exact ⟨_, e, fun v e => nomatch e⟩
  · obtain ⟨o, e, es, ep, hx, hd, _⟩ := S.D
    refine ⟨o, e, fun v q => ?_⟩
    rw [hd] at q; cases q
  · cases e : σ.rd with
    | none => exact absurd e h
    | some l => obtain ⟨vs, n, z, _⟩ := S.q l e; exact ⟨_, z, fun v e => nomatch e⟩
  · obtain ⟨t, u, e⟩ := S.inf k hk; exact ⟨_, e, fun v e => nomatch e⟩
  · exact ⟨_, S.emp k hk, fun v e => nomatch e⟩
  · obtain ⟨vs, n, e, _⟩ := S.suc k hk; exact ⟨_, e, fun v e => nomatch e⟩
/- it rests upon its own objects alone -/
theorem SAt.on (S : SAt C cT cN M Z σ) (h : ∀ a o, a ∈ Z.all σ → M a = some o → M' a = some o) : SAt C cT cN M' Z σ :=
  { S with
    s := h _ _ (Srt.mem_all.mpr (.inl rfl)) S.s
    d := let ⟨x, t, n, e⟩ := S.d; ⟨x, t, n, h _ _ (Srt.mem_all.mpr (.inr (.inl rfl))) e⟩
    D := let ⟨o, e, r⟩ := S.D; ⟨o, h _ _ (Srt.mem_all.mpr (.inr (.inr (.inl rfl)))) e, r⟩
    inf := fun k hk => let ⟨t, u, e⟩ := S.inf k hk; ⟨t, u, h _ _ (Srt.mem_all.mpr (.inr (.inr (.inr (.inr ⟨k, hk, .inl rfl⟩))))) e⟩
    emp := fun k hk => h _ _ (Srt.mem_all.mpr (.inr (.inr (.inr (.inr ⟨k, hk, .inr (.inl rfl)⟩))))) (S.emp k hk)
    suc := fun k hk => let ⟨vs, n, e, r⟩ := S.suc k hk; ⟨vs, n, h _ _ (Srt.mem_all.mpr (.inr (.inr (.inr (.inr ⟨k, hk, .inr (.inr rfl)⟩))))) e, r⟩
    q := fun l hl => let ⟨vs, n, e, r⟩ := S.q l hl; ⟨vs, n, h _ _ (Srt.mem_all.mpr (.inr (.inr (.inr (.inl ⟨by rw [hl]; simp, rfl⟩))))) e, r⟩ }
theorem role_ne {Z : Srt} {a b : Addr} {x y : Role} (ha : Z.role a = x) (hb : Z.role b = y) (h : x ≠ y) : a ≠ b := fun e => h (by rw [← ha, ← hb, e])

/- the object's dict is written -/
theorem SAt.setd (S : SAt C cT cN M Z σ) {rd : Option (List Nat)} {po nf : Int} {h : Nat → Int} {t : Nat → Tok} {n : Nat} (hrd : rd = σ.rd) :
    SAt C cT cN (M.set Z.d (dictOf (sEnts Z (rdV Z rd) po nf h t) n)) Z { σ with po := po, nf := nf } := by
  subst hrd
  have ne : ∀ {a x}, Z.role a = x → x ≠ .d → a ≠ Z.d := fun ha hx => role_ne ha S.rd hx
  exact { S with
    s := by rw [Reg.set_ne _ _ (ne S.rs (by simp))]; exact S.s
    d := ⟨h, t, n, Reg.set_self _ _ _⟩
    D := let ⟨o, e, r⟩ := S.D; ⟨o, by rw [Reg.set_ne _ _ (ne S.rD (by simp))]; exact e, r⟩
    inf := fun k hk => let ⟨t, u, e⟩ := S.inf k hk; ⟨t, u, by rw [Reg.set_ne _ _ (ne (S.rinf k hk) (by simp))]; exact e⟩
    emp := fun k hk => by rw [Reg.set_ne _ _ (ne (S.remp k hk) (by simp))]; exact S.emp k hk
    suc := fun k hk => let ⟨vs, n, e, r⟩ := S.suc k hk; ⟨vs, n, by rw [Reg.set_ne _ _ (ne (S.rsuc k hk) (by simp))]; exact e, r⟩
    q := fun l hl => let ⟨vs, n, e, r⟩ := S.q l hl; ⟨vs, n, by rw [Reg.set_ne _ _ (ne (S.rq (by rw [hl]; simp)) (by simp))]; exact e, r⟩ }
/- a node's count is written -/
theorem SAt.setnp (S : SAt C cT cN M Z σ) {k : Nat} (hk : k ∈ σ.ks) {t u : Tok} {x : Int} :
    SAt C cT cN (M.set (Z.inf k) (nodeObj cN (Z.emp k) k t x u (Z.suc k))) Z { σ with np := fun j => if j = k then x else σ.np j } := by
  have ne : ∀ {a y}, Z.role a = y → y ≠ .inf k → a ≠ Z.inf k := fun ha hx => role_ne ha (S.rinf k hk) hx
  exact { S with
    s := by rw [Reg.set_ne _ _ (ne S.rs (by simp))]; exact S.s
    d := let ⟨h, t, n, e⟩ := S.d; ⟨h, t, n, by rw [Reg.set_ne _ _ (ne S.rd (by simp))]; exact e⟩
    D := let ⟨o, e, r⟩ := S.D; ⟨o, by rw [Reg.set_ne _ _ (ne S.rD (by simp))]; exact e, r⟩
    inf := fun j hj => by
      by_cases h : j = k
      · subst h; exact ⟨t, u, by rw [Reg.set_self]; simp⟩
      · obtain ⟨t, u, e⟩ := S.inf j hj
        exact ⟨t, u, by rw [Reg.set_ne _ _ (ne (S.rinf j hj) (by simpa using h))]; simpa [h] using e⟩
    emp := fun j hj => by rw [Reg.set_ne _ _ (ne (S.remp j hj) (by simp))]; exact S.emp j hj
    suc := fun j hj => let ⟨vs, n, e, r⟩ := S.suc j hj; ⟨vs, n, by rw [Reg.set_ne _ _ (ne (S.rsuc j hj) (by simp))]; exact e, r⟩
    q := fun l hl => let ⟨vs, n, e, r⟩ := S.q l hl; ⟨vs, n, by rw [Reg.set_ne _ _ (ne (S.rq (by rw [hl]; simp)) (by simp))]; exact e, r⟩ }
/- a node's successors are written -/
theorem SAt.setsu (S : SAt C cT cN M Z σ) {k : Nat} (hk : k ∈ σ.ks) {vs : List Value} {n : Nat} {l : List Nat} (hr : RdAll noM vs (encN l)) :
    SAt C cT cN (M.set (Z.suc k) (lstObj vs n)) Z { σ with su := fun j => if j = k then l else σ.su j } := by
  have ne : ∀ {a y}, Z.role a = y → y ≠ .suc k → a ≠ Z.suc k := fun ha hx => role_ne ha (S.rsuc k hk) hx
  exact { S with
    s := by rw [Reg.set_ne _ _ (ne S.rs (by simp))]; exact S.s
    d := let ⟨h, t, n, e⟩ := S.d; ⟨h, t, n, by rw [Reg.set_ne _ _ (ne S.rd (by simp))]; exact e⟩
    D := let ⟨o, e, r⟩ := S.D; ⟨o, by rw [Reg.set_ne _ _ (ne S.rD (by simp))]; exact e, r⟩
    inf := fun j hj => let ⟨t, u, e⟩ := S.inf j hj; ⟨t, u, by rw [Reg.set_ne _ _ (ne (S.rinf j hj) (by simp))]; exact e⟩
    emp := fun j hj => by rw [Reg.set_ne _ _ (ne (S.remp j hj) (by simp))]; exact S.emp j hj
    suc := fun j hj => by
      by_cases h : j = k
      · subst h; exact ⟨vs, n, Reg.set_self _ _ _, by simpa using hr⟩
      · obtain ⟨vs, n, e, r⟩ := S.suc j hj
        exact ⟨vs, n, by rw [Reg.set_ne _ _ (ne (S.rsuc j hj) (by simpa using h))]; exact e, by simpa [h] using r⟩
    q := fun l hl => let ⟨vs, n, e, r⟩ := S.q l hl; ⟨vs, n, by rw [Reg.set_ne _ _ (ne (S.rq (by rw [hl]; simp)) (by simp))]; exact e, r⟩ }
/- the list of what is ready is written -/
theorem SAt.setrd (S : SAt C cT cN M Z σ) (hrd : σ.rd ≠ none) {vs : List Value} {n : Nat} {l : List Nat} (hr : RdAll noM vs (encN l)) :
    SAt C cT cN (M.set Z.q (lstObj vs n)) Z { σ with rd := some l } := by
  have ne : ∀ {a y}, Z.role a = y → y ≠ .q → a ≠ Z.q := fun ha hx => role_ne ha (S.rq hrd) hx
  have hv : rdV Z σ.rd = rdV Z (some l) := by cases h : σ.rd with | none => exact absurd h hrd | some _ => rfl
  exact { S with
    s := by rw [Reg.set_ne _ _ (ne S.rs (by simp))]; exact S.s
    d := let ⟨h, t, n, e⟩ := S.d; ⟨h, t, n, by rw [Reg.set_ne _ _ (ne S.rd (by simp)), ← hv]; exact e⟩
    D := let ⟨o, e, r⟩ := S.D; ⟨o, by rw [Reg.set_ne _ _ (ne S.rD (by simp))]; exact e, r⟩
    inf := fun j hj => let ⟨t, u, e⟩ := S.inf j hj; ⟨t, u, by rw [Reg.set_ne _ _ (ne (S.rinf j hj) (by simp))]; exact e⟩
    emp := fun j hj => by rw [Reg.set_ne _ _ (ne (S.remp j hj) (by simp))]; exact S.emp j hj
    suc := fun j hj => let ⟨vs, n, e, r⟩ := S.suc j hj; ⟨vs, n, by rw [Reg.set_ne _ _ (ne (S.rsuc j hj) (by simp))]; exact e, r⟩
    q := fun l' hl => by (have q_ := oSS hl; clear hl; subst q_); exact ⟨vs, n, Reg.set_self _ _ _, hr⟩
    rq := fun _ => S.rq hrd }
/- reading the node dict -/
theorem SAt.node (S : SAt C cT cN M Z σ) {k : Nat} (hk : k ∈ σ.ks) : valueAt (nodePairs σ.ks Z.inf) (k : Int) = some (.ref (Z.inf k)) := by
  have : ∀ l : List Nat, k ∈ l → valueAt (nodePairs l Z.inf) (k : Int) = some (.ref (Z.inf k)) := fun l => by
    induction l with
    | nil => intro h; cases h
    | cons j l ih =>
      intro h
      simp only [valueAt, nodePairs, List.map_cons, List.find?_cons]
      by_cases e : j = k
      · subst e; simp
      · have h' : k ∈ l := by rcases List.mem_cons.mp h with q | q; exact absurd q.symm e; exact q
        have e' : decide ((j : Int) = (k : Int)) = false := by simp; omega
        rw [e']
        exact ih h'
  exact this _ hk
theorem SAt.nonode (σ : Sd) (Z : Srt) {k : Nat} (hk : k ∉ σ.ks) : valueAt (nodePairs σ.ks Z.inf) (k : Int) = none := by
  simp only [valueAt, nodePairs, Option.map_eq_none_iff, List.find?_eq_none, List.mem_map]
  rintro x ⟨j, hj, rfl⟩
  simp only [decide_eq_true_eq]
  intro h
  have : j = k := by omega
  exact hk (this ▸ hj)
end
end Mine
end
noncomputable section
open PySem PySem.W PyProof.Rows PySem.SeqAt PySem.MeetsSeq
set_option Elab.async false
set_option autoImplicit false
set_option maxRecDepth 100000
namespace Mine
noncomputable abbrev aT : Addr := 146
noncomputable abbrev aTi : Addr := 82
noncomputable abbrev aGet : Addr := 89
noncomputable abbrev aAdd : Addr := 96
noncomputable abbrev aPrep : Addr := 101
noncomputable abbrev aReady : Addr := 108
noncomputable abbrev aAct : Addr := 115
noncomputable abbrev aDone : Addr := 129
noncomputable abbrev aCyc : Addr := 136
noncomputable abbrev aN : Addr := 49
noncomputable abbrev aNi : Addr := 45
section
variable (C : Cx)
theorem k_n2i : OwnA (K1 C) aT (Str.ofString "_node2info") := ⟨by kernel_rfl!, by kernel_rfl!, by kernel_rfl!, by kernel_rfl!, by kernel_rfl!, by kernel_rfl!⟩
theorem k_rdy : OwnA (K1 C) aT (Str.ofString "_ready_nodes") := ⟨by kernel_rfl!, by kernel_rfl!, by kernel_rfl!, by kernel_rfl!, by kernel_rfl!, by kernel_rfl!⟩
theorem k_po : OwnA (K1 C) aT (Str.ofString "_npassedout") := ⟨by kernel_rfl!, by kernel_rfl!, by kernel_rfl!, by kernel_rfl!, by kernel_rfl!, by kernel_rfl!⟩
theorem k_nf : OwnA (K1 C) aT (Str.ofString "_nfinished") := ⟨by kernel_rfl!, by kernel_rfl!, by kernel_rfl!, by kernel_rfl!, by kernel_rfl!, by kernel_rfl!⟩
theorem k_node : SlotA (K1 C) aN (Str.ofString "node") 50 0 := ⟨by kernel_rfl!, by kernel_rfl!, by kernel_rfl!, by kernel_rfl!, by kernel_rfl!, by kernel_rfl!, by kernel_rfl!, by kernel_rfl!, by kernel_rfl!, by kernel_rfl!, by decide⟩
theorem k_np : SlotA (K1 C) aN (Str.ofString "npredecessors") 51 1 := ⟨by kernel_rfl!, by kernel_rfl!, by kernel_rfl!, by kernel_rfl!, by kernel_rfl!, by kernel_rfl!, by kernel_rfl!, by kernel_rfl!, by kernel_rfl!, by kernel_rfl!, by decide⟩
theorem k_suc : SlotA (K1 C) aN (Str.ofString "successors") 52 2 := ⟨by kernel_rfl!, by kernel_rfl!, by kernel_rfl!, by kernel_rfl!, by kernel_rfl!, by kernel_rfl!, by kernel_rfl!, by kernel_rfl!, by kernel_rfl!, by kernel_rfl!, by decide⟩
theorem k_get : MethA (K1 C) aT (Str.ofString "_get_nodeinfo") aGet := ⟨by kernel_rfl!, by kernel_rfl!, by kernel_rfl!, by kernel_rfl!⟩
theorem k_add : MethA (K1 C) aT (Str.ofString "add") aAdd := ⟨by kernel_rfl!, by kernel_rfl!, by kernel_rfl!, by kernel_rfl!⟩
theorem k_prep : MethA (K1 C) aT (Str.ofString "prepare") aPrep := ⟨by kernel_rfl!, by kernel_rfl!, by kernel_rfl!, by kernel_rfl!⟩
theorem k_ready : MethA (K1 C) aT (Str.ofString "get_ready") aReady := ⟨by kernel_rfl!, by kernel_rfl!, by kernel_rfl!, by kernel_rfl!⟩
theorem k_act : MethA (K1 C) aT (Str.ofString "is_active") aAct := ⟨by kernel_rfl!, by kernel_rfl!, by kernel_rfl!, by kernel_rfl!⟩
theorem k_done : MethA (K1 C) aT (Str.ofString "done") aDone := ⟨by kernel_rfl!, by kernel_rfl!, by kernel_rfl!, by kernel_rfl!⟩
theorem k_cyc : MethA (K1 C) aT (Str.ofString "_find_cycle") aCyc := ⟨by kernel_rfl!, by kernel_rfl!, by kernel_rfl!, by kernel_rfl!⟩
end
section
variable {C : Cx} (B : Base C (K1 C))
include B
theorem g_sorter : GlobIs C (Str.ofString "TopologicalSorter") (.ref aT) := glob_own B (by kernel_rfl!)
theorem g_nodeinfo : GlobIs C (Str.ofString "_NodeInfo") (.ref aN) := glob_own B (by kernel_rfl!)
theorem g_tuple : GlobIs C (Str.ofString "tuple") (.type "tuple") := glob_bui B (by kernel_rfl!) (by decide +kernel) (by decide +kernel)
theorem g_boolT : GlobIs C (Str.ofString "bool") (.type "bool") := glob_bui B (by kernel_rfl!) (by decide +kernel) (by decide +kernel)
theorem g_setT : GlobIs C (Str.ofString "set") (.type "set") := glob_bui B (by kernel_rfl!) (by decide +kernel) (by decide +kernel)
theorem g_iter : GlobIs C (Str.ofString "iter") (.builtin "iter") := glob_bui B (by kernel_rfl!) (by decide +kernel) (by decide +kernel)
theorem g_out : ∃ t, GlobIs C (Str.ofString "_NODE_OUT") (.int (-1) t) := ⟨_, glob_own B rfl⟩
theorem g_ndone : ∃ t, GlobIs C (Str.ofString "_NODE_DONE") (.int (-2) t) := ⟨_, glob_own B rfl⟩
end
end Mine
end
noncomputable section
open PySem PySem.W PyProof.Rows PySem.SeqAt PySem.MeetsSeq
set_option Elab.async false
set_option autoImplicit false
set_option maxRecDepth 100000
namespace Mine

/- a function of the module; how its parameters are bound is told apart -/
structure FnC (C : Cx) (a : Addr) (fd : FuncData) (xs : List Str) (body : List Stmt) : Prop where
  at' : ∃ o, C.h₀.get? a = some o ∧ o.data = .func fd
  code : C.h₀.CodeRec fd.code fd.qualname
  nolimit : C.h₀.NoLimit
  co : fd.scope.isCoroutine = false
  gen : fd.scope.isGenerator = false
  body' : fd.body = .stmts body
  glob : fd.globals = mainGlobals
  bui : fd.builtins = builtinsNs
  clo : fd.closure = []
  kind : fd.scope.kind = .function
  uniq : (fd.scope.names.map (·.1)).Nodup
  par : ∀ x ∈ xs, fd.scope.names.lookup x = some .local ∨ fd.scope.names.lookup x = some .cell
theorem fnC {C : Cx} {K : Frag} {a : Addr} {oc : Value} {od : Option Addr} {osl : Array (Option Value)} {fd : FuncData} {xs : List Str} {body : List Stmt} (B : Base C K) (h1 : K.lookup a = some ⟨oc, od, .func fd, osl⟩) (h2 : codeIn K fd.code fd.qualname = true) (h3 : fd.body = .stmts body)
    (h4 : (!fd.scope.isCoroutine && !fd.scope.isGenerator && fd.globals == mainGlobals && fd.builtins == builtinsNs && fd.closure.isEmpty && fd.scope.kind == .function && decide (fd.scope.names.map (·.1)).Nodup && xs.all (fun x => fd.scope.names.lookup x == some .local || fd.scope.names.lookup x == some .cell)) = true) : FnC C a fd xs body := by
  simp only [Bool.and_eq_true, Bool.not_eq_true', beq_iff_eq, decide_eq_true_eq, List.all_eq_true, Bool.or_eq_true, List.isEmpty_iff] at h4
  obtain ⟨⟨⟨⟨⟨⟨⟨g1, g2⟩, g3⟩, g4⟩, g5⟩, g6⟩, g7⟩, g8⟩ := h4
  exact ⟨⟨_, B.K a _ h1, rfl⟩, codeRec_of B.K h2, B.nolimit, g1, g2, h3, g3, g4, g5, g6, g7, g8⟩

/- the parameters' binding: vs are given, ds are what the names get -/
noncomputable def Bnd (C : Cx) (fd : FuncData) (vs : List Value) (xs : List Str) (ds : List Dat) (R : Reg) (s : Shared) : Prop :=
  ∀ A, wpAny C.M A (bindArgs fd ⟨vs, []⟩) (fun b s₁ => Keeps s s₁ ∧ ∃ us, b = xs.zip us ∧ RdAll (R.ext s.heap s₁.heap) us ds) NoE s

section
variable {C : Cx} {s₀ : Shared} {R₀ : Reg} {V : List Addr} {sc : Scope} {env : Env} {W : List Addr} {s s' : Shared} {R R' Mu Mu' : Reg} {Δ Δ' : Vars} {n : Nat} {A : Around} {E : Value → Shared → Prop} {Q : Flow → Shared → Prop}
theorem bnd_plain {fd : FuncData} {vs : List Value} {xs : List Str} {ds : List Dat} (ro : R.on s.heap) (h : bindArgs fd ⟨vs, []⟩ = pure (xs.zip vs)) (hr : RdAll R vs ds) : Bnd C fd vs xs ds R s := fun A => by
  rw [h]; exact wpAny_pure ⟨Keeps.rfl' s, vs, rfl, hr.mono (Reg.ext_le ro)⟩
/- the last parameter takes the rest -/
theorem bnd_all1 {fd : FuncData} {vs : List Value} {xs : List Str} {d₁ : Dat} {es : List Dat} (hr : RdAll R vs [d₁]) (h : ∀ v₁, RdAll R [v₁] [d₁] → Bnd C fd [v₁] xs es R s) : Bnd C fd vs xs es R s := by
  cases hr with
  | cons a r => (have q_ := RdAll.nilE r; clear r; subst q_); exact h _ (.cons a .nil)
theorem bnd_all2 {fd : FuncData} {vs : List Value} {xs : List Str} {d₁ d₂ : Dat} {es : List Dat} (hr : RdAll R vs [d₁, d₂]) (h : ∀ v₁ v₂, RdAll R [v₁, v₂] [d₁, d₂] → Bnd C fd [v₁, v₂] xs es R s) : Bnd C fd vs xs es R s := by
  cases hr with
  | cons a r => cases r with | cons b r => (have q_ := RdAll.nilE r; clear r; subst q_); exact h _ _ (.cons a (.cons b .nil))
theorem bnd_all3 {fd : FuncData} {vs : List Value} {xs : List Str} {d₁ d₂ d₃ : Dat} {es : List Dat} (hr : RdAll R vs [d₁, d₂, d₃]) (h : ∀ v₁ v₂ v₃, RdAll R [v₁, v₂, v₃] [d₁, d₂, d₃] → Bnd C fd [v₁, v₂, v₃] xs es R s) : Bnd C fd vs xs es R s := by
  cases hr with
  | cons a r => cases r with | cons b r => cases r with | cons c r => (have q_ := RdAll.nilE r; clear r; subst q_); exact h _ _ _ (.cons a (.cons b (.cons c .nil)))
theorem bnd_star {fd : FuncData} {vs us : List Value} {xs : List Str} {ds es : List Dat} (ro : R.on s.heap) (h : bindArgs fd ⟨vs ++ us, []⟩ = newTuple us >>= fun t => pure (xs.zip (vs ++ [t]))) (hr : RdAll R vs ds) (hu : RdAll R us es) (hz : us.length ≤ sizeLine) : Bnd C fd (vs ++ us) xs (ds ++ [.tup es]) R s := fun A => by
  rw [h]
  refine wpAny_bind (wpAny_newTuple (wpAny_pure ?_) hz)
  have k := Keeps.push s { cls := .type "tuple", data := .seq us.toArray }
  refine ⟨k, _, rfl, (hr.mono (Reg.ext_le ro)).append (.cons (.tup (Reg.new_ext fresh_none (Heap.get?_push_size _ rfl)) rfl rfl (hu.mono (Reg.ext_le ro))) .nil)⟩
/- the last parameter gets its default -/
theorem bnd_dflt {fd : FuncData} {vs : List Value} {w : Value} {xs : List Str} {ds : List Dat} {d : Dat} {T : Addr} {o : Obj} {m : Nat} {k : Option (Array Value) → Sem (List (Str × Value))} (ro : R.on s.heap) (hd : fd.defaults = .ref T) (ho : s.heap.get? T = some o) (hs : o.data = .seq #[w] m)
    (h₁ : bindArgs fd ⟨vs, []⟩ = seqItems? fd.defaults >>= k) (h₂ : k (some #[w]) = pure (xs.zip (vs ++ [w]))) (hr : RdAll R vs ds) (hw : Rd R w d) : Bnd C fd vs xs (ds ++ [d]) R s := fun A => by
  rw [h₁, hd]
  refine wpAny_bind (wpAny_seqItems ho hs ?_)
  rw [h₂]
  exact wpAny_pure ⟨Keeps.rfl' s, _, rfl, (hr.mono (Reg.ext_le ro)).append (.cons (hw.mono (Reg.ext_le ro)) .nil)⟩

/- the frame seen from before the binding -/
theorem Fra.back {s₁ : Shared} (F : Fra C s₁ (R₀.ext s₀.heap s₁.heap) [] sc env W s R Mu Δ) (k : Keeps s₀ s₁) (ro : R₀.on s₀.heap) : Fra C s₀ R₀ [] sc env W s R Mu Δ where
  keep := (KeepsBut.of k).tr F.keep
  vold := fun _ h => nomatch h
  vnew := fun _ h => nomatch h
  ro := F.ro
  le := (Reg.ext_le ro).trans F.le
  sub := fun a o e => by
    rcases F.sub a o e with h | h
    · simp only [Reg.ext] at h
      split at h
      · exact .inl h
      · rename_i q; exact .inr q
    · right
      cases q : s₀.heap.get? a with
      | none => rfl
      | some o' => rw [Keeps.hle k _ _ q] at h; (have q_ := oSN h; clear h; exact q_.elim)
  ew := F.ew
  fresh := fun a ha => by
    cases q : s₀.heap.get? a with
    | none => rfl
    | some o' => have := F.fresh a ha; rw [Keeps.hle k _ _ q] at this; (have q_ := oSN this; clear this; exact q_.elim)
  stor := F.stor
  mu := fun a o e => by
    obtain ⟨h1, h2, h3, h4⟩ := F.mu a o e
    refine ⟨h1, h2, h3, .inr ?_⟩
    rcases h4 with h4 | h4
    · cases h4
    · cases q : s₀.heap.get? a with
      | none => rfl
      | some o' => rw [Keeps.hle k _ _ q] at h4; (have q_ := oSN h4; clear h4; exact q_.elim)

theorem fn_callB {a : Addr} {fd : FuncData} {xs : List Str} {body : List Stmt} {vs : List Value} {ds : List Dat} {Rs : Result → Shared → Prop} (f : FnC C a fd xs body) (rm : Room (n + 1) A) (ro : Rok (C.at noM) R s.heap) (hb : Bnd C fd vs xs ds R s) (hl : xs.length = ds.length)
    (h : ∀ env W s' R', env.scope = fd.scope → Room n (A.deeper env) → Fra C s R [] fd.scope env W s' R' noM (updAll noV xs ds) → wpAny C.M (A.deeper env) (execs body env) (fun fl s₂ => Rs (.ok (.ret (match fl with | .ret v => v | _ => .none))) s₂)
      (fun e s' => wpAny C.M (A.deeper env) (leaving env e) (fun _ s'' => Rs (.error e) s'') (fun e' s'' => Rs (.error e') s'') s') s') :
    codeAny C.M A (.call (.ref a) ⟨vs, []⟩) Rs s := by
  obtain ⟨o, ho, hd⟩ := f.at'
  have k0 := ro.hle0
  refine codeAny_call_function rm.lt (k0 _ _ ho) hd f.co f.gen f.body' (f.code.keeps k0) ?_
  refine noE (hb _) fun b s₁ p => ?_
  obtain ⟨k, us, rfl, hr⟩ := p
  rw [f.glob, f.clo, f.bui]
  have r₁ := ro.ext (Keeps.hle k)
  refine fn_frame r₁ f.kind f.uniq CloOk.none hr hl f.par fun env W s' e1 e2 e3 e4 F => ⟨?_, ?_⟩
  · exact f.nolimit.keeps F.ro.hle0
  · exact codeAny_func (h env W s' _ e1 rm.deeper (F.back k ro.on))
end

/-! calls that change a sorter -/
/- what such a call leaves -/
structure SPost (C : Cx) (cT cN : Addr) (s : Shared) (R : Reg) (Z : Srt) (σ : Sd) (v : Value) (s' : Shared) (Z' : Srt) (σ' : Sd) (d : Dat) : Prop where
  self : Z'.s = Z.s
  keep : KeepsBut (Z.all σ) s s'
  at' : SAt C cT cN s'.heap.get? Z' σ'
  new : ∀ a ∈ Z'.all σ', a ∈ Z.all σ ∨ s.heap.get? a = none
  old : ∀ a ∈ Z.all σ, a ∈ Z'.all σ'
  val : Rd ((R.ext s.heap s'.heap).minus (Z'.all σ')) v d
noncomputable def SCall (C : Cx) (cT cN : Addr) (n : Nat) (f : Addr) (ds : List Dat) (Z : Srt) (σ : Sd) (P : Srt → Sd → Dat → Prop) : Prop :=
  ∀ A s R vs, Room n A → Rok (C.at noM) R s.heap → RdAll R vs ds → SAt C cT cN s.heap.get? Z σ → (∀ a ∈ Z.all σ, R a = none) →
    wpAny C.M A (call (.ref f) (.ref Z.s :: vs)) (fun v s' => ∃ Z' σ' d, P Z' σ' d ∧ SPost C cT cN s R Z σ v s' Z' σ' d) NoE s
section
variable {C : Cx} {cT cN : Addr} {s₀ : Shared} {R₀ : Reg} {V : List Addr} {sc : Scope} {env : Env} {W : List Addr} {s s' : Shared} {R R' Mu Mu' : Reg} {Δ Δ' : Vars} {n : Nat} {A : Around} {E : Value → Shared → Prop} {Q : Flow → Shared → Prop} {Z Z' : Srt} {σ σ' : Sd} {v : Value} {d : Dat}
theorem SCall.le {k : Nat} {f : Addr} {ds : List Dat} {P : Srt → Sd → Dat → Prop} (h : SCall C cT cN k f ds Z σ P) (hk : k ≤ n) : SCall C cT cN n f ds Z σ P := fun A s R vs r => h A s R vs (r.le hk)
theorem SPost.region (p : SPost C cT cN s R Z σ v s' Z' σ' d) (F : Fra C s₀ R₀ V sc env W s R Mu Δ) (S : SAt C cT cN Mu Z σ) : R.le ((R.ext s.heap s'.heap).minus (Z'.all σ')) := fun a o e => by
  refine Reg.minus_some (fun h => ?_) (Reg.ext_le F.ro.on a o e)
  rcases p.new a h with q | q
  · obtain ⟨o', e', _⟩ := S.obj q
    rw [(F.mu a o' e').2.1] at e; (have q_ := oNS e; clear e; exact q_.elim)
  · have := F.ro.on a o e; rw [q] at this; (have q_ := oNS this; clear this; exact q_.elim)
/- the caller's frame behind such a call -/
theorem SPost.fra (p : SPost C cT cN s R Z σ v s' Z' σ' d) (F : Fra C s₀ R₀ V sc env W s R Mu Δ) (S : SAt C cT cN Mu Z σ) :
    Fra C s₀ R₀ V sc env W s' ((R.ext s.heap s'.heap).minus (Z'.all σ')) (fun a => if a ∈ Z'.all σ' then s'.heap.get? a else Mu a) Δ ∧ SAt C cT cN (fun a => if a ∈ Z'.all σ' then s'.heap.get? a else Mu a) Z' σ' := by
  refine ⟨F.stepG p.keep (fun a ha => S.obj ha) (fun a ha => let ⟨o, e, _⟩ := p.at'.obj (p.old a ha); ⟨o, e⟩) (p.region F S) Reg.minus_le fun a o e => ?_, p.at'.on fun a o ha e => by simp only [ha, if_true]; exact e⟩
  by_cases ha : a ∈ Z'.all σ'
  · simp only [ha, if_true] at e
    refine ⟨e, Reg.minus_off ha, ?_⟩
    rcases p.new a ha with q | q
    · obtain ⟨o', e', _⟩ := S.obj q; exact .inl ⟨o', e'⟩
    · exact .inr q
  · simp only [ha, if_false] at e
    obtain ⟨h1, h2, h3, h4⟩ := F.mu a o e
    have hz : a ∉ Z.all σ := fun h => ha (p.old a h)
    refine ⟨p.keep.get hz h1, ?_, .inl ⟨o, e⟩⟩
    cases q : ((R.ext s.heap s'.heap).minus (Z'.all σ')) a with
    | none => rfl
    | some o' =>
      have := Reg.minus_le a o' q
      rw [ext_off h1 h2] at this; (have q_ := oNS this; clear this; exact q_.elim)
theorem SPost.off (_ : SPost C cT cN s R Z σ v s' Z' σ' d) {Z₀ : List Addr} (hs : ∀ a ∈ Z'.all σ', a ∈ Z₀ ∨ s.heap.get? a = none) (F : Fra C s₀ R₀ V sc env W s R Mu Δ) : Reg.keepsOff Z₀ Mu (fun a => if a ∈ Z'.all σ' then s'.heap.get? a else Mu a) := fun a o ha e => by
  have hn : a ∉ Z'.all σ' := fun h => by
    rcases hs a h with q | q
    · exact ha q
    · rw [(F.mu a o e).1] at q; (have q_ := oSN q; clear q; exact q_.elim)
  simp only [hn, if_false]; exact e

/- such a call, by its body -/
theorem scall_fn {a : Addr} {fd : FuncData} {xs : List Str} {body : List Stmt} {ds es : List Dat} {P : Srt → Sd → Dat → Prop} (f : FnC C a fd xs body) (hl : xs.length = es.length)
    (hb : ∀ R s vs, R.on s.heap → Rok (C.at noM) R s.heap → RdAll R vs ds → Bnd C fd (.ref Z.s :: vs) xs es R s)
    (h : ∀ A env W s₀ s R R₁ Mu, env.scope = fd.scope → Room n A → Fra C s₀ R (Z.all σ) fd.scope env W s R₁ Mu (updAll noV xs es) → SAt C cT cN Mu Z σ →
      wpAny C.M A (execs body env) (fun fl s₂ => ∃ R₂ Mu₂ Δ₂ Z' σ' d, Fra C s₀ R (Z.all σ) fd.scope env W s₂ R₂ Mu₂ Δ₂ ∧ SAt C cT cN Mu₂ Z' σ' ∧ P Z' σ' d ∧ Z'.s = Z.s ∧ (∀ a ∈ Z'.all σ', a ∈ Z.all σ ∨ s₀.heap.get? a = none) ∧ (∀ a ∈ Z.all σ, a ∈ Z'.all σ') ∧ Rd R₂ (match (motive := Flow → Value) fl with | .ret v => v | _ => .none) d) NoE s) :
    SCall C cT cN (n + 1) a ds Z σ P := by
  intro A s R vs rm ro hr S hR
  refine wpAny_call (fn_callB f rm ro (hb R s vs ro.on ro hr) hl fun env W s' R' e rm' F => ?_)
  have F' : Fra C s R (Z.all σ) fd.scope env W s' R' (fun a => if a ∈ Z.all σ then s.heap.get? a else none) (updAll noV xs es) := F.lent (fun a ha => by
    cases q : R' a with
    | none => rfl
    | some o =>
      rcases F.sub a o q with h | h
      · rw [hR a ha] at h; (have q_ := oNS h; clear h; exact q_.elim)
      · obtain ⟨o', e', _⟩ := S.obj ha; rw [e'] at h; (have q_ := oSN h; clear h; exact q_.elim)) (fun a ha => let ⟨o, e, _⟩ := S.obj ha; ⟨o, e⟩)
  refine noE (h _ env W s s' R R' _ e rm' F' (S.on fun a o ha e => by simp only [ha, if_true]; exact e)) fun fl s₂ p => ?_
  obtain ⟨R₂, Mu₂, Δ₂, Z', σ', d, F₂, S₂, hP, hs, hn, ho, hv⟩ := p
  refine ⟨Z', σ', d, hP, hs, F₂.keep, S₂.on fun a o _ e => (F₂.mu a o e).1, hn, ho, hv.mono fun b ob e => ?_⟩
  refine Reg.minus_some (fun hb => ?_) ?_
  · obtain ⟨o', e', _⟩ := S₂.obj hb
    rw [(F₂.mu b o' e').2.1] at e; (have q_ := oNS e; clear e; exact q_.elim)
  · have on := F₂.ro.on b ob e
    rcases F₂.sub b ob e with q | q
    · simp only [Reg.ext, ro.on b ob q]; exact q
    · simp only [Reg.ext, q]; exact on
end
end Mine
end
noncomputable section
open PySem PySem.W PyProof.Rows PySem.SeqAt PySem.MeetsSeq
set_option Elab.async false
set_option autoImplicit false
set_option maxRecDepth 100000
namespace Mine
theorem meets_bool_new_list (l : Addr) (items : Array Value) (hfit : (items.size : Int) < 2 ^ 63) :
    Meets (Builtin.«bool.__new__» ⟨[.type "bool", .ref l], []⟩) (fun _ R s => s.heap.IsList l items ∧ R (.ok (.ret (.bool (!items.isEmpty)))) { s with toks := s.toks + 1 + 1 }) :=
  Meets.of_wp fun prog w A R s hs => by
    obtain ⟨hl, hs⟩ := hs
    obtain ⟨hp, g, d, tk, os⟩ := s
    have f1 := F.conv_sub_bool
    repeat (any_goals (first | assumption | (with_reducible refine wpAny_truthy_list hl hfit ?_) | wp_step))
    all_goals first | exact ⟨_, rfl, hs⟩ | exact hs | skip
theorem call_bool_list {prog : Program} {w : World} {A : Around} {E : Value → Shared → Prop} {s : Shared} {l : Addr} {items : Array Value} {Q : Value → Shared → Prop} (hl : s.heap.IsList l items) (hfit : (items.size : Int) < 2 ^ 63)
    (h : Q (.bool (!items.isEmpty)) { s with toks := s.toks + 1 + 1 }) : wpAny (model prog w) A (call (.type "bool") [.ref l]) Q E s :=
  call_bool_1 (meets_bool_new_list l items hfit) ⟨hl, show wants (fun obj s₁ => s₁.TypeIs obj "bool" ∧ Q obj s₁) E _ _ from ⟨rfl, h⟩⟩

section
variable {C : Cx} {s₀ : Shared} {R₀ : Reg} {V : List Addr} {sc : Scope} {env : Env} {W : List Addr} {s s' : Shared} {R R' Mu Mu' : Reg} {Δ Δ' : Vars} {n : Nat} {A : Around} {E : Value → Shared → Prop} {Q : Flow → Shared → Prop}
theorem op_is_none {v : Value} : Op2 C n (compareOp .Is) (.val v) .none (.bool (v == .none)) := by
  intro A s R v₁ v₂ rm ro h₁ h₂
  (have q_ := Rd.valE h₁; clear h₁; subst q_); (have q_ := Rd.noneE h₂; clear h₂; subst q_)
  exact is_none_gen (Post.pure ro (.bool _))
theorem op_isnot_none {v : Value} (hp : PySem.plainIs v .none = true := by rfl) : Op2 C n (compareOp .IsNot) (.val v) .none (.bool (!(v == .none))) := by
  intro A s R v₁ v₂ rm ro h₁ h₂
  (have q_ := Rd.valE h₁; clear h₁; subst q_); (have q_ := Rd.noneE h₂; clear h₂; subst q_)
  exact wpAny_isNot_plain hp (Post.pure ro (.bool _))
theorem ev_or {e₁ e₂ : Expr} {pos : Pos} {b : Bool} {d : Dat} (h₁ : Ev C n sc Δ e₁ (.bool b)) (ht : b = true → d = .bool true) (h₂ : b = false → Ev C n sc Δ e₂ d) : Ev C n sc Δ (.BoolOp .Or [e₁, e₂] pos) d := by
  intro A env s R rm ro eo
  refine BoolOp_or (noE (h₁ A env s R rm ro eo) fun v s₁ p₁ => ?_)
  have h1 := p₁.2
  (have q_ := Rd.boolE h1; clear h1; subst q_)
  refine wpAny_truthy_bool ?_
  cases b with
  | true => rw [ht rfl]; exact ⟨p₁.1, .bool true⟩
  | false =>
    have k₁ := Keeps.hle p₁.1
    exact BoolOp_one (noE (h₂ rfl A env s₁ _ rm (ro.ext k₁) (eo.ext ro k₁)) fun v s₂ p₂ => Post.step p₁.1 p₂)
/- bool(l), a mutable list -/
theorem ev_bool_mul {x : Str} {np p : Pos} {e : Expr} {l : Addr} {vs : List Value} {m : Nat} (hf : Ev C n sc Δ (.Name x np) (.val (.type "bool"))) (he : Ev C n sc Δ e (.val (.ref l))) (hl : C.mu l = some (lstObj vs m)) (hz : vs.length ≤ sizeLine)
    (hs : ∀ env, starEach [e] env = [(false, eval e env)] := by intro _; rfl) : Ev C n sc Δ (.Call (.Name x np) [e] [] p) (.bool (!vs.isEmpty)) := by
  intro A env s R rm ro eo
  refine Call_ (noE (hf A env s R rm ro eo) fun f s₁ p₁ => ?_)
  have hf' := p₁.2
  (have q_ := Rd.valE hf'; clear hf'; subst q_)
  have k₁ := Keeps.hle p₁.1
  refine callWith_type1 (wpAny_items_cons (noE (he A env s₁ _ rm (ro.ext k₁) (eo.ext ro k₁)) fun v s₂ p₂ => wpAny_items_nil ?_) (hs env)) (hs env) rfl
  have hv := p₂.2
  (have q_ := Rd.valE hv; clear hv; subst q_)
  have r₂ := (ro.ext k₁).ext (Keeps.hle p₂.1)
  refine call_bool_list (items := vs.toArray) ⟨_, r₂.mu _ _ hl, rfl, m, rfl⟩ (by rw [sizeLine_val] at hz; simp; omega) ?_
  refine ⟨Keeps.tr (Keeps.tr p₁.1 p₂.1) (Keeps.toks s₂ _), ?_⟩
  rw [show (vs.toArray.isEmpty) = vs.isEmpty from by simp]
  exact .bool _
/- tuple(l), a mutable list -/
theorem ev_tuple_mul {x : Str} {np p : Pos} {e : Expr} {l : Addr} {vs : List Value} {m : Nat} {ds : List Dat} (hf : Ev C n sc Δ (.Name x np) (.val (.type "tuple"))) (he : Ev C n sc Δ e (.val (.ref l))) (hl : C.mu l = some (lstObj vs m)) (hr : RdAll noM vs ds) (hz : vs.length ≤ sizeLine)
    (hs : ∀ env, starEach [e] env = [(false, eval e env)] := by intro _; rfl) : Ev C n sc Δ (.Call (.Name x np) [e] [] p) (.tup ds) := by
  intro A env s R rm ro eo
  refine Call_ (noE (hf A env s R rm ro eo) fun f s₁ p₁ => ?_)
  have hf' := p₁.2
  (have q_ := Rd.valE hf'; clear hf'; subst q_)
  have k₁ := Keeps.hle p₁.1
  refine callWith_type1 (wpAny_items_cons (noE (he A env s₁ _ rm (ro.ext k₁) (eo.ext ro k₁)) fun v s₂ p₂ => wpAny_items_nil ?_) (hs env)) (hs env) rfl
  have hv := p₂.2
  (have q_ := Rd.valE hv; clear hv; subst q_)
  have k₂ := Keeps.tr p₁.1 p₂.1
  have r₂ := (ro.ext k₁).ext (Keeps.hle p₂.1)
  refine call_tuple_list (items := vs.toArray) ⟨_, r₂.mu _ _ hl, rfl, m, rfl⟩ (fun h' hk => ?_) (by simpa using hz)
  have k₃ : Keeps s₂ { s₂ with heap := h'.push { cls := .type "tuple", data := .seq vs.toArray } } := ⟨_, s₂.toks, rfl, fun b o e => Heap.get?_push_of_some _ (hk b o e)⟩
  refine ⟨Keeps.tr k₂ k₃, .tup (Reg.new_ext ?_ (Heap.get?_push_size _ rfl)) rfl rfl (hr.mono (show noM.le _ from fun a o (e : noM a = some o) => nomatch e))⟩
  cases q : s.heap.get? h'.objs.size with
  | none => rfl
  | some o => have := hk _ _ (Keeps.hle k₂ _ _ q); rw [fresh_none] at this; (have q_ := oNS this; clear this; exact q_.elim)

/-! mutable lists -/
theorem mlist_append {o e : Expr} {ap pos : Pos} {l : Addr} {vs : List Value} {m : Nat} {d : Dat} {Qv : Value → Shared → Prop} (F : Fra C s₀ R₀ V sc env W s R Mu Δ) (rm : Room n A) (ho : Ev (C.at Mu) n sc Δ o (.val (.ref l))) (he : Ev (C.at Mu) n sc Δ e d) (hl : Mu l = some (lstObj vs m)) (hz : vs.length ≤ sizeLine)
    (h : ∀ s₁ R₁ v m', R.le R₁ → Rd R₁ v d → Fra C s₀ R₀ V sc env W s₁ R₁ (Mu.set l (lstObj (vs ++ [v]) m')) Δ → Qv .none s₁)
    (hline : (ap.endLine == pos.line) = true := by rfl) (hbase : attributeBase o (Str.ofString "append") env (eval o env) = eval o env := by rfl) (hs : starEach [e] env = [(false, eval e env)] := by rfl) :
    wpAny C.M A (eval (.Call (.Attribute o (Str.ofString "append") ap) [e] [] pos) env) Qv E s := by
  refine wpAny_Call_method1_late hbase hline (by rw [hs]; rfl) (noE (ho A env s R rm F.rom F.eo) fun ov s₁ p₁ => ?_)
  have h1 := p₁.2
  (have q_ := Rd.valE h1; clear h1; subst q_)
  have F₁ := F.ext p₁.1
  refine ⟨"list", "list.append", PySem.F.plainAttrs_list, PySem.F.slot_list_append, PySem.F.type_list_append, ⟨_, F₁.rom.mu _ _ hl, rfl⟩, fun a ha => by (have q_ := vRR ha; clear ha; subst q_); exact ⟨_, F₁.rom.mu _ _ hl, rfl⟩, ?_⟩
  have he' : backTo pos (starEach [e] env) = [(false, eval e env)] := by rw [hs]; rfl
  rw [← he']
  refine callWith_method1 (wpAny_items_cons (noE (he A env s₁ _ rm F₁.rom F₁.eo) fun v s₂ p₂ => wpAny_items_nil ?_) hs) hs rfl
  have F₂ := F₁.ext p₂.1
  refine wpAny_list_append_plain (items := vs.toArray) ⟨m, F₂.rom.mu _ _ hl⟩ (fun h' hp hsb => ?_) (by simpa using hz)
  obtain ⟨m', hp⟩ := hp
  refine h _ _ v m' ((Reg.ext_le F.ro.on).trans (Reg.ext_le F₁.ro.on)) p₂.2 (F₂.mut hl (fun _ q => nomatch q) hsb ?_)
  rw [hp]; simp [lstObj]
theorem mlist_clear {o : Expr} {ap pos : Pos} {l : Addr} {vs : List Value} {m : Nat} {Qv : Value → Shared → Prop} (F : Fra C s₀ R₀ V sc env W s R Mu Δ) (rm : Room n A) (ho : Ev (C.at Mu) n sc Δ o (.val (.ref l))) (hl : Mu l = some (lstObj vs m)) (hz : vs.length ≤ sizeLine)
    (h : ∀ s₁ R₁ m', R.le R₁ → Fra C s₀ R₀ V sc env W s₁ R₁ (Mu.set l (lstObj [] m')) Δ → Qv .none s₁)
    (hline : (ap.endLine == pos.line) = true := by rfl) (hbase : attributeBase o (Str.ofString "clear") env (eval o env) = eval o env := by rfl) :
    wpAny C.M A (eval (.Call (.Attribute o (Str.ofString "clear") ap) [] [] pos) env) Qv E s := by
  refine wpAny_Call_method0_late hbase hline (noE (ho A env s R rm F.rom F.eo) fun ov s₁ p₁ => ?_)
  have h1 := p₁.2
  (have q_ := Rd.valE h1; clear h1; subst q_)
  have F₁ := F.ext p₁.1
  have hl₁ := F₁.rom.mu _ _ hl
  refine ⟨"list", "list.clear", PySem.F.plainAttrs_list, PySem.F.slot_list_clear, PySem.F.type_list_clear, ⟨_, hl₁, rfl⟩, fun a ha => by (have q_ := vRR ha; clear ha; subst q_); exact ⟨_, hl₁, rfl⟩, ?_⟩
  refine PySem.P.clear_list (items := vs.toArray) (n := m) hl₁ ?_ (by simpa using hz)
  have hg : (s₁.heap.update l (Obj.mapSeq fun _ => #[])).get? l = some (Obj.mapSeq (fun _ => #[]) (lstObj vs m)) := Heap.get?_update_self _ hl₁ (by rfl)
  refine h _ _ _ (Reg.ext_le F.ro.on) (F₁.mut (tk := s₁.toks) hl (fun _ q => nomatch q) (Heap.SameBut.update ..) (o' := lstObj [] ?_) (hg.trans ?_))
  rotate_left
  · rfl
theorem mlist_pop {o : Expr} {ap pos : Pos} {l : Addr} {vs : List Value} {v : Value} {m : Nat} {Qv : Value → Shared → Prop} (F : Fra C s₀ R₀ V sc env W s R Mu Δ) (rm : Room n A) (ho : Ev (C.at Mu) n sc Δ o (.val (.ref l))) (hl : Mu l = some (lstObj (vs ++ [v]) m)) (hz : vs.length < sizeLine)
    (h : ∀ s₁ R₁ m', R.le R₁ → Fra C s₀ R₀ V sc env W s₁ R₁ (Mu.set l (lstObj vs m')) Δ → Qv v s₁)
    (hline : (ap.endLine == pos.line) = true := by rfl) (hbase : attributeBase o (Str.ofString "pop") env (eval o env) = eval o env := by rfl) :
    wpAny C.M A (eval (.Call (.Attribute o (Str.ofString "pop") ap) [] [] pos) env) Qv E s := by
  refine wpAny_Call_method0_late hbase hline (noE (ho A env s R rm F.rom F.eo) fun ov s₁ p₁ => ?_)
  have h1 := p₁.2
  (have q_ := Rd.valE h1; clear h1; subst q_)
  have F₁ := F.ext p₁.1
  have hl₁ := F₁.rom.mu _ _ hl
  refine ⟨"list", "list.pop", PySem.F.plainAttrs_list, PySem.F.slot_list_pop, PySem.F.type_list_pop, ⟨_, hl₁, rfl⟩, fun a ha => by (have q_ := vRR ha; clear ha; subst q_); exact ⟨_, hl₁, rfl⟩, ?_⟩
  refine PySem.P.pop_list (items := (vs ++ [v]).toArray) (n := m) (y := v) hl₁ (by simp) ?_ (by simp; omega)
  have hg : (s₁.heap.update l (Obj.mapSeq fun xs => xs.eraseIdxIfInBounds ((vs ++ [v]).toArray.size - 1))).get? l = some (Obj.mapSeq (fun xs => xs.eraseIdxIfInBounds ((vs ++ [v]).toArray.size - 1)) (lstObj (vs ++ [v]) m)) := Heap.get?_update_self _ hl₁ (by rfl)
  have hv : ((vs ++ [v]).toArray.eraseIdxIfInBounds ((vs ++ [v]).toArray.size - 1)) = vs.toArray := by
    simp [Array.eraseIdxIfInBounds, List.eraseIdx_append_of_length_le]
  refine h _ _ _ (Reg.ext_le F.ro.on) (F₁.mut (tk := s₁.toks) hl (fun _ q => nomatch q) (Heap.SameBut.update ..) (o' := lstObj vs ?_) (hg.trans ?_))
  rotate_left
  · simp only [Obj.mapSeq, hv]
    rfl
end
end Mine
end
noncomputable section
open PySem PySem.W PyProof.Rows PySem.SeqAt PySem.MeetsSeq
set_option Elab.async false
set_option autoImplicit false
set_option maxRecDepth 100000
namespace Mine
section
variable {Z : Srt} {r v : Value} {po nf x : Int} {h : Nat → Int} {t : Nat → Tok} {n : Nat} {u u' : Tok} {k : Int}
theorem look_n2i : lookIn (Str.ofString "_node2info") (dictOf (sEnts Z r po nf h t) n) = some (some (.ref Z.D)) := rfl
theorem look_rdy : lookIn (Str.ofString "_ready_nodes") (dictOf (sEnts Z r po nf h t) n) = some (some r) := rfl
theorem look_po : lookIn (Str.ofString "_npassedout") (dictOf (sEnts Z r po nf h t) n) = some (some (.int po (t 4))) := rfl
theorem look_nf : lookIn (Str.ofString "_nfinished") (dictOf (sEnts Z r po nf h t) n) = some (some (.int nf (t 5))) := rfl
theorem look_get : lookIn (Str.ofString "_get_nodeinfo") (dictOf (sEnts Z r po nf h t) n) = some none := rfl
theorem look_add : lookIn (Str.ofString "add") (dictOf (sEnts Z r po nf h t) n) = some none := rfl
theorem look_prep : lookIn (Str.ofString "prepare") (dictOf (sEnts Z r po nf h t) n) = some none := rfl
theorem look_ready : lookIn (Str.ofString "get_ready") (dictOf (sEnts Z r po nf h t) n) = some none := rfl
theorem look_act : lookIn (Str.ofString "is_active") (dictOf (sEnts Z r po nf h t) n) = some none := rfl
theorem look_done : lookIn (Str.ofString "done") (dictOf (sEnts Z r po nf h t) n) = some none := rfl
theorem look_cyc : lookIn (Str.ofString "_find_cycle") (dictOf (sEnts Z r po nf h t) n) = some none := rfl
theorem put_rdy : putL (Str.ofString "_ready_nodes") k (.str (Str.ofString "_ready_nodes") u) v (sEnts Z r po nf h t) = sEnts Z v po nf h t := rfl
theorem put_po : putL (Str.ofString "_npassedout") k (.str (Str.ofString "_npassedout") u) (.int x u') (sEnts Z r po nf h t) = sEnts Z r x nf h (fun i => if i = 4 then u' else t i) := rfl
theorem put_nf : putL (Str.ofString "_nfinished") k (.str (Str.ofString "_nfinished") u) (.int x u') (sEnts Z r po nf h t) = sEnts Z r po x h (fun i => if i = 5 then u' else t i) := rfl
theorem getL_rdy : getL (Str.ofString "_ready_nodes") (sEnts Z r po nf h t) = some (some r) := rfl
theorem getL_po : getL (Str.ofString "_npassedout") (sEnts Z r po nf h t) = some (some (.int po (t 4))) := rfl
theorem getL_nf : getL (Str.ofString "_nfinished") (sEnts Z r po nf h t) = some (some (.int nf (t 5))) := rfl
theorem sEnts_len : (sEnts Z r po nf h t).length = 4 := rfl
theorem encN_len {vs : List Value} {l : List Nat} {R : Reg} (h : RdAll R vs (encN l)) : vs.length = l.length := by rw [h.length]; simp
end
end Mine
end
noncomputable section
open PySem PySem.W PyProof.Rows PySem.SeqAt PySem.MeetsSeq
set_option Elab.async false
set_option autoImplicit false
set_option maxRecDepth 100000
namespace Mine
section
variable {C : Cx} (B : Base C (K1 C)) {Z : Srt} {σ : Sd}
include B
theorem active_spec {l : List Nat} (hrd : σ.rd = some l) (hz : l.length ≤ 1000) : SCall C aT aN 1 aAct [] Z σ (fun Z' σ' d => Z' = Z ∧ σ' = σ ∧ d = .bool (decide (σ.nf < σ.po) || !l.isEmpty)) := by
  refine scall_fn (xs := [Str.ofString "self"]) (es := [.val (.ref Z.s)]) (fnC B rfl (by kernel_rfl!) rfl (by kernel_rfl!)) rfl (fun R s vs ro _ hr => by (have q_ := RdAll.nilE hr; clear hr; subst q_); exact bnd_plain ro (by kernel_rfl!) (.cons (.val _) .nil)) ?_
  intro A env W s₀ s R R₁ Mu hsc rm F S
  obtain ⟨h, t, n, hd⟩ := S.d
  obtain ⟨vs, m, hq, hr⟩ := S.q l hrd
  have hlen := encN_len hr
  have hrv : rdV Z σ.rd = .ref Z.q := by rw [hrd]; rfl
  rw [hrv] at hd
  refine st_if F rm (evT_cmp (ev_own B.at (k_rdy _) (ev_name rfl) S.s hd look_rdy) ev_none op_is_none) fun s₁ R₂ l₁ F₁ => ?_
  refine st_nil ?_
  refine st_ret F₁ rm (ev_or (ev_cmp (Ev.asInt (ev_own B.at (k_nf _) (ev_name rfl) S.s hd look_nf)) (Ev.asInt (ev_own B.at (k_po _) (ev_name rfl) S.s hd look_po)) op_lt) (d := .bool (decide (σ.nf < σ.po) || !l.isEmpty)) (fun hb => by rw [hb]; rfl) (fun hb => by
    rw [hb, Bool.false_or]
    exact Ev.cast (ev_bool_mul (ev_glob (g_boolT B.at) rfl) (ev_own B.at (k_rdy _) (ev_name rfl) S.s hd look_rdy) hq (by rw [sizeLine_val]; omega)) (by
      congr 2
      cases l with
      | nil => cases vs with | nil => rfl | cons _ _ => simp at hlen
      | cons _ _ => cases vs with | nil => simp at hlen | cons _ _ => rfl))) fun s₂ R₃ v l₂ F₂ hv => ?_
  exact ⟨R₃, Mu, _, Z, σ, _, F₂, S, ⟨rfl, rfl, rfl⟩, rfl, fun a ha => .inl ha, fun a ha => ha, hv⟩
end
end Mine
end
noncomputable section
open PySem PySem.W PyProof.Rows PySem.SeqAt PySem.MeetsSeq
set_option Elab.async false
set_option autoImplicit false
set_option maxRecDepth 100000
namespace Mine
section
variable {C : Cx} {n : Nat}
theorem call_lent {ds : List Dat} (hlen : ds.length ≤ sizeLine) : CallOp C n (.builtin "len") [.tup ds] (.int ds.length) := by
  intro A s R vs rm ro h
  have q_ := RdAll.consE h
  clear h
  obtain ⟨_, _, rfl, h, r⟩ := q_
  next =>
    (have q_ := RdAll.nilE r; clear r; subst q_)
    obtain ⟨a, rfl⟩ := h.tup_ref
    obtain ⟨vs, t, r⟩ := h.isTuple ro.on
    have e : (vs.toArray.size : Int) = ds.length := by simp [r.length]
    refine len_tuple t (by rw [e]; rw [sizeLine_eq] at hlen; omega) ?_
    rw [e]; exact ⟨Keeps.toks _ _, .int _ _⟩
theorem Srt.all_same {Z : Srt} {σ σ' : Sd} (h1 : σ'.ks = σ.ks) (h2 : σ'.rd.isSome = σ.rd.isSome) : Z.all σ' = Z.all σ := by simp only [Srt.all, h1, h2]
theorem SAt.to {C : Cx} {cT cN : Addr} {M : Reg} {Z : Srt} {σ σ' : Sd} (S : SAt C cT cN M Z σ) (h : σ = σ') : SAt C cT cN M Z σ' := h ▸ S
end
end Mine
end
noncomputable section
open PySem PySem.W PyProof.Rows PySem.SeqAt PySem.MeetsSeq
set_option Elab.async false
set_option autoImplicit false
set_option maxRecDepth 100000
namespace Mine
section
variable {C : Cx} (B : Base C (K1 C)) {Z : Srt} {σ : Sd}
include B
theorem ready_spec {l : List Nat} (hrd : σ.rd = some l) (hl : ∀ k ∈ l, k ∈ σ.ks) (hz : l.length ≤ 1000) :
    SCall C aT aN 2 aReady [] Z σ (fun Z' σ' d => Z' = Z ∧ σ' = { σ with rd := some [], np := fun j => if j ∈ l then -1 else σ.np j, po := σ.po + l.length } ∧ d = .tup (encN l)) := by
  refine scall_fn (xs := [Str.ofString "self"]) (es := [.val (.ref Z.s)]) (fnC B rfl (by kernel_rfl!) rfl (by kernel_rfl!)) rfl (fun R s vs ro _ hr => by (have q_ := RdAll.nilE hr; clear hr; subst q_); exact bnd_plain ro (by kernel_rfl!) (.cons (.val _) .nil)) ?_
  intro A env W s₀ s R R₁ Mu hsc rm F S
  refine cps fun Q hQ => ?_
  obtain ⟨h, t, n, hd⟩ := S.d
  obtain ⟨vs, m, hq, hr⟩ := S.q l hrd
  have hlen := encN_len hr
  have hrv : rdV Z σ.rd = .ref Z.q := by rw [hrd]; rfl
  rw [hrv] at hd
  refine st_if F rm (evT_cmp (ev_own B.at (k_rdy _) (ev_name rfl) S.s hd look_rdy) ev_none op_is_none) fun s₁ R₂ l₁ F₁ => ?_
  refine st_nil ?_
  refine st_assign F₁ rm (ev_tuple_mul (ev_glob (g_tuple B.at) rfl) (ev_own B.at (k_rdy _) (ev_name rfl) S.s hd look_rdy) hq hr (by rw [sizeLine_val]; omega)) fun s₂ R₃ l₂ F₂ => ?_
  refine st_assign F₂ rm (ev_own B.at (k_n2i _) (ev_name rfl) S.s hd look_n2i) fun s₃ R₄ l₃ F₃ => ?_
  obtain ⟨tk, gout⟩ := g_out B
  refine st_for (L := l) (enc := fun k => Dat.int (k : Int)) (tds := fun k => [.int (k : Int)]) [Str.ofString "node"] (Z.all σ) (fun _ => ofL [(Str.ofString "self", .val (.ref Z.s)), (Str.ofString "result", .tup (encN l)), (Str.ofString "n2i", .val (.ref Z.D))])
    (fun i _ M => SAt C aT aN M Z { σ with np := fun j => if j ∈ l.take i then -1 else σ.np j }) F₃ rm (evIt_tup (ev_name rfl)) (AllIn.le ⟨rfl, rfl, rfl, trivial⟩) (fun a ha => let ⟨o, e, _⟩ := S.obj ha; ⟨o, e⟩) (by decide +kernel) (fun a _ => ⟨rfl, rfl⟩)
    (fun i R R' M M' hJ _ he => hJ.on fun a o ha e => (he a ha).trans e) (S.to (by simp)) ?_ ?_
  · intro i k s₄ R₅ M₄ hi l₄ hk F₄ hJ
    refine cps fun Qf hQf => ?_
    have hkm : k ∈ σ.ks := hl k (List.mem_of_getElem? hi)
    obtain ⟨od, hD, hdo⟩ := hJ.D
    obtain ⟨t', u', hin⟩ := hJ.inf k hkm
    refine st_slot B (k_np _) F₄ rm (ev_sub (ev_name rfl) (ev_name rfl) (op_ditem hD hdo (hJ.node hkm))) (ev_glob (C := C.at M₄) gout rfl) hin (hJ.emp k hkm) fun s₅ R₆ v l₅ hv F₅ => ?_
    (have q_ := Rd.valE hv; clear hv; subst q_)
    have S₅ := hJ.setnp hkm (t := t') (u := tk) (x := -1)
    refine st_nil (hQf _ _ ⟨R₆, _, l₅, ?_, F₅.toL _ ⟨rfl, rfl, rfl, trivial⟩, S₅.to ?_⟩)
    · intro a o ha e
      rw [Reg.set_ne _ _ (fun h => ha (Srt.mem_all.mpr (.inr (.inr (.inr (.inr ⟨k, hkm, .inl h⟩))))))]; exact e
    · congr 1
      funext j
      have htk : l.take (i + 1) = l.take i ++ [k] := by rw [List.take_add_one, hi]; rfl
      simp only [htk, List.mem_append, List.mem_singleton]
      by_cases hj : j = k
      · simp [hj]
      · simp [hj]
  · intro s₄ R₅ M₄ l₄ hk F₄ hJ
    rw [List.take_length] at hJ
    obtain ⟨h, t, n, hd⟩ := hJ.d
    simp only [hrd, rdV] at hd
    obtain ⟨vs', m', hq', hr'⟩ := hJ.q l hrd
    refine st_expr (mlist_clear F₄ rm (ev_own B.at (k_rdy _) (ev_name rfl) hJ.s hd look_rdy) hq' (by rw [sizeLine_val, encN_len hr']; omega) fun s₅ R₆ m₂ l₅ F₅ => ?_) F₄.quiet
    have S₅ := hJ.setrd (by rw [hrd]; simp) (vs := []) (n := m₂) (l := []) .nil
    obtain ⟨h₂, t₂, n₂, hd₂⟩ := S₅.d
    refine st_ownAug B (k_po _) F₅ rm (ev_name rfl) (ev_callb (ev_glob (g_len B.at) rfl) (evAll_cons (ev_name rfl) evAll_nil) (call_lent (by rw [sizeLine_val]; simp; omega))) S₅.s hd₂ getL_po rfl (fun _ => .int _ _) op_iadd (by rw [sEnts_len]; omega) fun s₆ R₇ v u l₆ hv F₆ => ?_
    (have q_ := Rd.intE hv; clear hv; obtain ⟨_, rfl⟩ := q_)
    rw [put_po] at F₆
    refine st_ret F₆ rm (ev_name rfl) fun s₇ R₈ v l₇ F₇ hv => ?_
    refine hQ _ _ ⟨R₈, _, _, Z, _, _, F₇, S₅.setd (rd := some []) rfl, ⟨rfl, ?_, rfl⟩, rfl, fun a ha => .inl ?_, fun a ha => ?_, hv⟩
    · simp
    · rwa [Srt.all_same (σ := σ) (by rfl) (by rw [hrd]; rfl)] at ha
    · rwa [Srt.all_same (σ := σ) (by rfl) (by rw [hrd]; rfl)]
end
end Mine
end
noncomputable section
open PySem PySem.W PyProof.Rows PySem.SeqAt PySem.MeetsSeq
set_option Elab.async false
set_option autoImplicit false
set_option maxRecDepth 100000
namespace Mine
section
variable {C : Cx} {s₀ : Shared} {R₀ : Reg} {V : List Addr} {sc : Scope} {env : Env} {W : List Addr} {s s' : Shared} {R R' Mu Mu' : Reg} {Δ Δ' : Vars} {n : Nat} {A : Around} {E : Value → Shared → Prop} {Q : Flow → Shared → Prop}
/- if (x := e) is None -/
theorem st_if_walrus {x : Str} {xp np cp np' : Pos} {k : Nat} {e : Expr} {v : Value} {body orelse rest : List Stmt} {p : Pos} (F : Fra C s₀ R₀ V sc env W s R Mu Δ) (rm : Room n A) (he : Ev (C.at Mu) n sc Δ e (.val v))
    (h : ∀ s' R', R.le R' → Fra C s₀ R₀ V sc env W s' R' Mu (upd Δ x (.val v)) → wpAny C.M A (execs (if v == .none then body else orelse) env) (fun f s₂ => match f with | .next => wpAny C.M A (execs rest env) Q E s₂ | f => Q f s₂) E s')
    (hx : sc.names.lookup x = some .local ∨ sc.names.lookup x = some .cell := by first | exact Or.inl rfl | exact Or.inr rfl) :
    wpAny C.M A (execs (.If (.Compare (.NamedExpr (.Name x xp) e np) [.Is] [.Constant .none k np'] cp) body orelse p :: rest) env) Q E s := by
  refine wpAny_execs_cons (wpAny_If (wpAny_isTrue_Compare1 (wpAny_NamedExpr (noE (he A env s R rm F.rom F.eo) fun v₁ s₁ p₁ => ?_)) rfl))
  have hv := p₁.2
  (have q_ := Rd.valE hv; clear hv; subst q_)
  have F₁ := F.ext p₁.1
  refine wpAny_assign_Name (F₁.store (.val v) (fun s₂ _ F₂ => ?_) hx)
  refine noE (ev_none (C := C.at Mu) A env s₂ _ rm F₂.rom F₂.eo) fun v₂ s₃ p₃ => ?_
  have hv := p₃.2
  (have q_ := Rd.noneE hv; clear hv; subst q_)
  have F₃ := F₂.ext p₃.1
  refine is_none_gen (wpAny_truthy_bool ?_)
  have := h s₃ _ ((Reg.ext_le F.ro.on).trans (Reg.ext_le F₂.ro.on)) F₃
  cases hb : v == Value.none <;> rw [hb] at this <;> exact this
/- going through the statements of an if that does nothing else than pass -/
theorem op_eq_intd {a b : Int} : Op2 C n (compareOp .Eq) (.int a) (.int b) (.bool (decide (a = b))) := op_eq_int
end

/-! what done does -/
noncomputable def relaxStep (st : (Nat → Int) × List Nat) (j : Nat) : (Nat → Int) × List Nat :=
  (fun i => if i = j then st.1 j - 1 else st.1 i, if st.1 j - 1 = 0 then st.2 ++ [j] else st.2)
noncomputable def doneS (σ : Sd) (l : List Nat) (k : Nat) : (Nat → Int) × List Nat := (σ.su k).foldl relaxStep (fun i => if i = k then -2 else σ.np i, l)
theorem relax_ne {k : Nat} : ∀ (js : List Nat) (st : (Nat → Int) × List Nat), k ∉ js → (js.foldl relaxStep st).1 k = st.1 k
  | [], _, _ => rfl
  | j :: js, st, h => by
    simp only [List.mem_cons, not_or] at h
    rw [List.foldl_cons, relax_ne js _ h.2]
    simp [relaxStep, h.1]
end Mine
end
noncomputable section
open PySem PySem.W PyProof.Rows PySem.SeqAt PySem.MeetsSeq
set_option Elab.async false
set_option autoImplicit false
set_option maxRecDepth 100000
namespace Mine
noncomputable def patch (T : List Addr) (M₀ M : Reg) : Reg := fun a => if a ∈ T then M a else M₀ a
section
variable {C : Cx} {cT cN : Addr} {M₀ M M' : Reg} {Z : Srt} {σ : Sd} {T : List Addr}
theorem patch_to (h : Reg.keepsOff T M₀ M) (S : SAt C cT cN (patch T M₀ M) Z σ) : SAt C cT cN M Z σ := S.on fun a o _ e => by
  simp only [patch] at e
  split at e
  · exact e
  · exact h a o ‹_› e
theorem patch_from (h : Reg.keepsOff T M₀ M) (h₀ : ∀ a ∈ Z.all σ, ∃ o, M₀ a = some o) (S : SAt C cT cN M Z σ) : SAt C cT cN (patch T M₀ M) Z σ := S.on fun a o ha e => by
  simp only [patch]
  split
  · exact e
  · obtain ⟨o', e'⟩ := h₀ a ha
    have := h a o' ‹_› e'
    rw [e] at this; (have q_ := oSS this; clear this; subst q_); exact e'
theorem patch_same (h : ∀ a ∈ T, M' a = M a) : patch T M₀ M' = patch T M₀ M := by
  funext a
  simp only [patch]
  split
  · exact h a ‹_›
  · rfl
theorem keepsOff_set {a : Addr} {o : Obj} (ha : a ∈ T) : Reg.keepsOff T M (M.set a o) := fun b ob hb e => by
  have hne : b ≠ a := fun h => hb (h ▸ ha)
  rw [Reg.set_ne _ _ hne]; exact e
theorem keepsOff_trans (h : Reg.keepsOff T M₀ M) (h' : Reg.keepsOff T M M') : Reg.keepsOff T M₀ M' := fun b ob hb e => h' b ob hb (h b ob hb e)
theorem keepsOff_refl : Reg.keepsOff T M M := fun _ _ _ e => e
theorem keepsOff_sub {T' : List Addr} (hs : ∀ a ∈ T, a ∈ T') (h : Reg.keepsOff T M M') : Reg.keepsOff T' M M' := fun b ob hb e => h b ob (fun x => hb (hs b x)) e
theorem relax_len (js : List Nat) (st : (Nat → Int) × List Nat) : (js.foldl relaxStep st).2.length ≤ st.2.length + js.length := by
  induction js generalizing st with
  | nil => simp
  | cons j js ih =>
    rw [List.foldl_cons]
    refine Nat.le_trans (ih _) ?_
    simp only [relaxStep, List.length_cons]
    split
    · simp; omega
    · omega
end
end Mine
end
noncomputable section
open PySem PySem.W PyProof.Rows PySem.SeqAt PySem.MeetsSeq
set_option Elab.async false
set_option autoImplicit false
set_option maxRecDepth 100000
namespace Mine
theorem Room.made {n : Nat} {A : Around} {Cl : Addr} {vals : List Value} {kw : List (Str × Value)} (r : Room (n + 1) A) : Room n (A.under (.builtin "type.__call__" ⟨.ref Cl :: vals, kw⟩)) := by
  refine ⟨r.handled, ?_, ?_⟩
  · have := r.depth
    have e : (A.under (.builtin "type.__call__" ⟨.ref Cl :: vals, kw⟩)).depth = A.depth + 1 := depth_under_kw A Cl vals kw
    omega
  · have := r.units
    have e : (A.under (.builtin "type.__call__" ⟨.ref Cl :: vals, kw⟩)).units = A.units + (Code.builtin "type.__call__" ⟨.ref Cl :: vals, kw⟩).cUnits := rfl
    have e' : (Code.builtin "type.__call__" ⟨.ref Cl :: vals, kw⟩).cUnits ≤ 10 := by
      first | decide | (show (0 : Nat) ≤ 10; decide) | (show (1 : Nat) ≤ 10; decide) | (show (2 : Nat) ≤ 10; decide)
    omega
section
variable {C : Cx} {s₀ : Shared} {R₀ : Reg} {V : List Addr} {sc : Scope} {env : Env} {W : List Addr} {s s' : Shared} {R R' Mu Mu' : Reg} {Δ Δ' : Vars} {n : Nat} {A : Around} {E : Value → Shared → Prop} {Q : Flow → Shared → Prop} {K : Frag} {Cl x dx p f : Addr} {sl : Array (Option Value)} {od : Obj} {name : Str} {v : Value} {i : Nat}
/- a new object that is mutable -/
theorem Fra.made (F : Fra C s₀ R₀ V sc env W s R Mu Δ) (o : Obj) (hf : o.isFreed = false) : ∃ R', R.le R' ∧ R'.le (R.ext s.heap (s.heap.push o)) ∧ Fra C s₀ R₀ V sc env W { s with heap := s.heap.push o } R' (Mu.set s.heap.objs.size o) Δ := by
  have F' := F.begin (X := [s.heap.objs.size]) (Keeps.push s o) (fun a ha => by rw [List.mem_singleton.mp ha]; exact fresh_none)
  refine ⟨_, new_up F.ro.on, Reg.minus_le, ?_⟩
  have e : (fun a => if a ∈ [s.heap.objs.size] then (s.heap.push o).get? a else Mu a) = Mu.set s.heap.objs.size o := by
    funext a
    simp only [List.mem_singleton, Reg.set]
    by_cases h : a = s.heap.objs.size
    · subst h; simp only [if_true]; exact Heap.get?_push_size _ hf
    · simp only [h, if_false]
  rw [← e]
  exact F'
theorem st_slot_new {o : Expr} {ap lp pos : Pos} {rest : List Stmt} (B : Base C K) (O : SlotA K Cl name p i) (F : Fra C s₀ R₀ V sc env W s R Mu Δ) (rm : Room n A) (ho : ∀ mu, Ev (C.at mu) n sc Δ o (.val (.ref x))) (hx : Mu x = some (insObj Cl dx sl)) (hd : Mu dx = some od)
    (h : ∀ s₁ R₁ l, R.le R₁ → s.heap.get? l = none → Fra C s₀ R₀ V sc env W s₁ R₁ ((Mu.set l (lstObj [] 0)).set x (insObj Cl dx ((sl ++ Array.replicate (i + 1 - sl.size) none).setIfInBounds i (some (.ref l))))) Δ → wpAny C.M A (execs rest env) Q E s₁)
    (hs : swapsWith (.List [] lp) (some (.Attribute o name ap)) pos.line env = pure false := by rfl) :
    wpAny C.M A (execs (.Assign [.Attribute o name ap] (.List [] lp) pos :: rest) env) Q E s := by
  refine wpAny_execs_cons (plainObj_wpAny_Assign_Attribute (wpAny_List (wpAny_items_nil ⟨by simp, ?_⟩)) hs)
  obtain ⟨R₁, l₁, _, F₁⟩ := F.made (lstObj [] 0) rfl
  have hne : x ≠ s.heap.objs.size := fun h => by have := (F.mu _ _ hx).1; rw [h, fresh_none] at this; (have q_ := oNS this; clear this; exact q_.elim)
  have hne' : dx ≠ s.heap.objs.size := fun h => by have := (F.mu _ _ hd).1; rw [h, fresh_none] at this; (have q_ := oNS this; clear this; exact q_.elim)
  have hx₁ : (Mu.set s.heap.objs.size (lstObj [] 0)) x = some (insObj Cl dx sl) := by rw [Reg.set_ne _ _ hne]; exact hx
  have hd₁ : (Mu.set s.heap.objs.size (lstObj [] 0)) dx = some od := by rw [Reg.set_ne _ _ hne']; exact hd
  refine noE (ho (Mu.set s.heap.objs.size (lstObj [] 0)) A env _ _ rm F₁.rom F₁.eo) fun ov s₂ p₂ => ?_
  have h1 := p₂.2
  (have q_ := Rd.valE h1; clear h1; subst q_)
  have F₂ := F₁.ext p₂.1
  have r₂ := F₂.rom
  refine setA_slot (B.ins r₂.hle0) (r₂.mu _ _ hx₁) (r₂.mu _ _ hd₁) O.set O.over O.take O.typ O.slot O.small fun h' hsb hg => ?_
  exact h _ _ s.heap.objs.size (l₁.trans (Reg.ext_le F₁.ro.on)) fresh_none (F₂.mut hx₁ (fun _ q => nomatch q) hsb hg)
theorem st_own_new {o : Expr} {ap lp pos : Pos} {es : List DictEntry} {k : Nat} {rest : List Stmt} (B : Base C K) (O : OwnA K Cl name) (F : Fra C s₀ R₀ V sc env W s R Mu Δ) (rm : Room n A) (ho : ∀ mu, Ev (C.at mu) n sc Δ o (.val (.ref x))) (hx : Mu x = some (insObj Cl dx sl)) (hd : Mu dx = some (dictOf es k))
    (hl : (getL name es).isSome = true) (hz : es.length < 1000)
    (h : ∀ s₁ R₁ l t, R.le R₁ → s.heap.get? l = none → s.heap.objs.size ≤ l → Fra C s₀ R₀ V sc env W s₁ R₁ ((Mu.set l emptyDict).set dx (dictOf (putL name (PyData.keyHash C.w.params name) (.str name t) (.ref l) es) (putN name es k))) Δ → wpAny C.M A (execs rest env) Q E s₁)
    (hs : swapsWith (.Dict [] [] lp) (some (.Attribute o name ap)) pos.line env = pure false := by rfl) :
    wpAny C.M A (execs (.Assign [.Attribute o name ap] (.Dict [] [] lp) pos :: rest) env) Q E s := by
  refine wpAny_execs_cons (plainObj_wpAny_Assign_Attribute (wpAny_Dict_empty ?_) hs)
  obtain ⟨R₁, l₁, _, F₁⟩ := F.made emptyDict rfl
  have hne : x ≠ s.heap.objs.size := fun h => by have := (F.mu _ _ hx).1; rw [h, fresh_none] at this; (have q_ := oNS this; clear this; exact q_.elim)
  have hne' : dx ≠ s.heap.objs.size := fun h => by have := (F.mu _ _ hd).1; rw [h, fresh_none] at this; (have q_ := oNS this; clear this; exact q_.elim)
  have hx₁ : (Mu.set s.heap.objs.size emptyDict) x = some (insObj Cl dx sl) := by rw [Reg.set_ne _ _ hne]; exact hx
  have hd₁ : (Mu.set s.heap.objs.size emptyDict) dx = some (dictOf es k) := by rw [Reg.set_ne _ _ hne']; exact hd
  refine noE (ho (Mu.set s.heap.objs.size emptyDict) A env _ _ rm F₁.rom F₁.eo) fun ov s₂ p₂ => ?_
  have h1 := p₂.2
  (have q_ := Rd.valE h1; clear h1; subst q_)
  have F₂ := F₁.ext p₂.1
  have r₂ := F₂.rom
  refine setA_own (B.ins r₂.hle0) (r₂.mu _ _ hx₁) (r₂.mu _ _ hd₁) O.set O.over O.take O.dict hl rfl ?_ fun h' hsb hg => ?_
  · have := putL_len name (PyData.keyHash C.w.params name) (.str name (s₂.toks + 1)) (.ref s.heap.objs.size) es; omega
  · exact h _ _ s.heap.objs.size _ (l₁.trans (Reg.ext_le F₁.ro.on)) fresh_none (Nat.le_refl _) (F₂.mut hd₁ (fun _ q => nomatch q) hsb hg)
end
end Mine
end
noncomputable section
open PySem PySem.W PyProof.Rows PySem.SeqAt PySem.MeetsSeq
set_option Elab.async false
set_option autoImplicit false
set_option maxRecDepth 100000
namespace Mine
section
variable {C : Cx} {s₀ : Shared} {R₀ : Reg} {V : List Addr} {sc : Scope} {env : Env} {W : List Addr} {s s' : Shared} {R R' Mu Mu' : Reg} {Δ Δ' : Vars} {n : Nat} {A : Around} {E : Value → Shared → Prop}
theorem Fra.ev {e : Expr} {d : Dat} {Qv : Value → Shared → Prop} (F : Fra C s₀ R₀ V sc env W s R Mu Δ) (rm : Room n A) (he : Ev (C.at Mu) n sc Δ e d)
    (h : ∀ v s₁ R₁, R.le R₁ → Keeps s s₁ → Rd R₁ v d → Fra C s₀ R₀ V sc env W s₁ R₁ Mu Δ → Qv v s₁) : wpAny C.M A (eval e env) Qv E s :=
  noE (he A env s R rm F.rom F.eo) fun v s₁ p₁ => h v s₁ _ (Reg.ext_le F.ro.on) p₁.1 p₁.2 (F.ext p₁.1)
theorem Fra.evAll {es : List Expr} {ds : List Dat} {p : Pos} {Qv : List Value → Shared → Prop} (F : Fra C s₀ R₀ V sc env W s R Mu Δ) (rm : Room n A) (he : EvAll (C.at Mu) n sc Δ es ds)
    (h : ∀ vs s₁ R₁, R.le R₁ → Keeps s s₁ → RdAll R₁ vs ds → Fra C s₀ R₀ V sc env W s₁ R₁ Mu Δ → Qv vs s₁) : wpAny C.M A (spliced (backTo p (starEach es env))) Qv E s :=
  noE (he A env s R p rm F.rom F.eo) fun v s₁ p₁ => h v s₁ _ (Reg.ext_le F.ro.on) p₁.1 p₁.2 (F.ext p₁.1)
end
noncomputable def Srt.grow (Z : Srt) (k : Nat) (x e l : Addr) : Srt :=
  { Z with inf := fun j => if j = k then x else Z.inf j, emp := fun j => if j = k then e else Z.emp j, suc := fun j => if j = k then l else Z.suc j,
           role := fun a => if a = x then .inf k else if a = e then .emp k else if a = l then .suc k else Z.role a }
noncomputable def Sd.grow (σ : Sd) (k : Nat) : Sd := { σ with ks := σ.ks ++ [k], np := fun j => if j = k then 0 else σ.np j, su := fun j => if j = k then [] else σ.su j }
section
variable {C : Cx} {cT cN : Addr} {M M' : Reg} {Z : Srt} {σ : Sd} {k : Nat} {x e l : Addr}
theorem nodePairs_grow (hk : k ∉ σ.ks) : nodePairs (σ.ks ++ [k]) (Z.grow k x e l).inf = nodePairs σ.ks Z.inf ++ [((k : Int), Value.ref x)] := by
  simp only [nodePairs, List.map_append, List.map_cons, List.map_nil, Srt.grow, if_true]
  congr 1
  refine List.map_congr_left fun j hj => ?_
  have : j ≠ k := fun h => hk (h ▸ hj)
  simp [this]
theorem stored_new {kvs : List (Int × Value)} {i : Int} {v : Value} (h : valueAt kvs i = none) : stored kvs i v = kvs ++ [(i, v)] := by
  unfold stored
  rw [if_neg]
  intro hc
  simp only [List.any_eq_true, decide_eq_true_eq] at hc
  obtain ⟨kv, hm, he⟩ := hc
  simp only [valueAt, Option.map_eq_none_iff, List.find?_eq_none] at h
  exact h kv hm (by simp [he])
theorem SAt.grow {o : Obj} {t u : Tok} (S : SAt C cT cN M Z σ) (hk : k ∉ σ.ks) (hlen : σ.ks.length < 7) (h3 : x ≠ e ∧ x ≠ l ∧ e ≠ l) (hn : M x = none ∧ M e = none ∧ M l = none)
    (hx : M' x = some (nodeObj cN e k t 0 u l)) (he : M' e = some emptyDict) (hl : M' l = some (lstObj [] 0)) (hD : M' Z.D = some o) (ho : o.IsDictOf (iK C) (nodePairs (σ.ks ++ [k]) (Z.grow k x e l).inf))
    (hs : ∀ a oa, a ≠ Z.D → M a = some oa → M' a = some oa) : SAt C cT cN M' (Z.grow k x e l) (σ.grow k) := by
  have off : ∀ {a oa}, M a = some oa → a ≠ x ∧ a ≠ e ∧ a ≠ l := fun {a oa} h => by
    refine ⟨?_, ?_, ?_⟩
    · intro q; rw [q, hn.1] at h; (have q_ := oNS h; clear h; exact q_.elim)
    · intro q; rw [q, hn.2.1] at h; (have q_ := oNS h; clear h; exact q_.elim)
    · intro q; rw [q, hn.2.2] at h; (have q_ := oNS h; clear h; exact q_.elim)
  have rl : ∀ {a oa r}, M a = some oa → Z.role a = r → (Z.grow k x e l).role a = r := fun {a oa r} h hr => by
    obtain ⟨h1, h2, h4⟩ := off h
    simp only [Srt.grow, h1, h2, h4, if_false]; exact hr
  have hj : ∀ {j}, j ∈ σ.ks → j ≠ k := fun {j} h q => hk (q ▸ h)
  obtain ⟨hd, td, nd, ed⟩ := S.d
  obtain ⟨oD, eD, _⟩ := S.D
  have mem : ∀ {j}, j ∈ (σ.grow k).ks → j ∈ σ.ks ∨ j = k := fun {j} h => by simpa [Sd.grow] using h
  refine ⟨hs _ _ (role_ne S.rs S.rD (by simp)) S.s, ⟨hd, td, nd, ?_⟩, ⟨o, hD, ho⟩, fun j hjm => ?_, fun j hjm => ?_, fun j hjm => ?_, fun l' hl' => ?_, rl S.s S.rs, rl ed S.rd, rl eD S.rD, fun h => ?_, fun j hjm => ?_, fun j hjm => ?_, fun j hjm => ?_, ?_, S.sm, ?_⟩
  · have := hs _ _ (role_ne S.rd S.rD (by simp)) ed
    cases hr : σ.rd <;> simpa [Srt.grow, Sd.grow, sEnts, rdV, hr] using this
  · rcases mem hjm with h | rfl
    · obtain ⟨t', u', e'⟩ := S.inf j h
      have := hs _ _ (role_ne (S.rinf j h) S.rD (by simp)) e'
      exact ⟨t', u', by simpa [Srt.grow, Sd.grow, hj h] using this⟩
    · exact ⟨t, u, by simpa [Srt.grow, Sd.grow] using hx⟩
  · rcases mem hjm with h | rfl
    · have := hs _ _ (role_ne (S.remp j h) S.rD (by simp)) (S.emp j h)
      simpa [Srt.grow, hj h] using this
    · simpa [Srt.grow] using he
  · rcases mem hjm with h | rfl
    · obtain ⟨vs, n, e', r⟩ := S.suc j h
      have := hs _ _ (role_ne (S.rsuc j h) S.rD (by simp)) e'
      exact ⟨vs, n, by simpa [Srt.grow, hj h] using this, by simpa [Sd.grow, hj h] using r⟩
    · exact ⟨[], 0, by simpa [Srt.grow] using hl, by simp [Sd.grow]; exact .nil⟩
  · obtain ⟨vs, n, e', r⟩ := S.q l' hl'
    exact ⟨vs, n, hs _ _ (role_ne (S.rq (by rw [show σ.rd = some l' from hl']; simp)) S.rD (by simp)) e', r⟩
  · have h' : σ.rd ≠ none := h
    cases hr : σ.rd with
    | none => exact absurd hr h'
    | some l' => obtain ⟨vs, n, e', r⟩ := S.q l' hr; exact rl e' (S.rq h')
  · rcases mem hjm with h | rfl
    · obtain ⟨t', u', e'⟩ := S.inf j h
      have := rl e' (S.rinf j h)
      simpa [Srt.grow, hj h] using this
    · simp [Srt.grow]
  · rcases mem hjm with h | rfl
    · have := rl (S.emp j h) (S.remp j h)
      simpa [Srt.grow, hj h] using this
    · simp [Srt.grow, Ne.symm h3.1]
  · rcases mem hjm with h | rfl
    · obtain ⟨vs, n, e', r⟩ := S.suc j h
      have := rl e' (S.rsuc j h)
      simpa [Srt.grow, hj h] using this
    · simp [Srt.grow, Ne.symm h3.2.1, Ne.symm h3.2.2]
  · simp only [Sd.grow]
    rw [List.nodup_append]
    refine ⟨S.nod, by simp, fun a ha b hb => ?_⟩
    simp at hb; subst hb
    exact hj ha
  · simp [Sd.grow]; omega
theorem Srt.mem_grow {a : Addr} (hk : k ∉ σ.ks) : a ∈ (Z.grow k x e l).all (σ.grow k) ↔ a ∈ Z.all σ ∨ a = x ∨ a = e ∨ a = l := by
  have hj : ∀ {j}, j ∈ σ.ks → j ≠ k := fun {j} h q => hk (q ▸ h)
  rw [Srt.mem_all, Srt.mem_all]
  constructor
  · rintro (h | h | h | h | ⟨j, hjm, h⟩)
    · exact .inl (.inl h)
    · exact .inl (.inr (.inl h))
    · exact .inl (.inr (.inr (.inl h)))
    · exact .inl (.inr (.inr (.inr (.inl h))))
    · have hj' : j ∈ σ.ks ∨ j = k := by simpa [Sd.grow] using hjm
      rcases hj' with hj' | rfl
      · simp only [Srt.grow, hj hj', if_false] at h
        exact .inl (.inr (.inr (.inr (.inr ⟨j, hj', h⟩))))
      · simp only [Srt.grow, if_true] at h
        exact .inr h
  · rintro ((h | h | h | h | ⟨j, hjm, h⟩) | h)
    · exact .inl h
    · exact .inr (.inl h)
    · exact .inr (.inr (.inl h))
    · exact .inr (.inr (.inr (.inl h)))
    · exact .inr (.inr (.inr (.inr ⟨j, by simp [Sd.grow, hjm], by simpa [Srt.grow, hj hjm] using h⟩)))
    · exact .inr (.inr (.inr (.inr ⟨k, by simp [Sd.grow], by simpa [Srt.grow] using h⟩)))
end
end Mine
end
noncomputable section
open PySem PySem.W PyProof.Rows PySem.SeqAt PySem.MeetsSeq
set_option Elab.async false
set_option autoImplicit false
set_option maxRecDepth 100000
namespace Mine
section
variable {C : Cx} {cT cN : Addr} {s₀ : Shared} {R₀ : Reg} {V : List Addr} {sc : Scope} {env : Env} {W : List Addr} {s s' : Shared} {R R' Mu Mu' : Reg} {Δ Δ' : Vars} {n : Nat} {A : Around} {E : Value → Shared → Prop} {Z Z' : Srt} {σ σ' : Sd} {K : Frag} {od : Obj} {name : Str} {f : Addr}
theorem Fra.dead (F : Fra C s₀ R₀ V sc env W s R Mu Δ) {a : Addr} (h : s.heap.get? a = none) : s₀.heap.get? a = none := by
  cases x : s₀.heap.get? a with
  | none => rfl
  | some o' =>
    exfalso
    by_cases hv : a ∈ V
    · obtain ⟨o, e⟩ := F.vnew a hv; rw [h] at e; (have q_ := oNS e; clear e; exact q_.elim)
    · rw [F.keep.get hv x] at h; (have q_ := oSN h; clear h; exact q_.elim)
/- a call that changes a sorter, within a frame -/
theorem Fra.scall {ds : List Dat} {vs : List Value} {P : Srt → Sd → Dat → Prop} {Qv : Value → Shared → Prop} (F : Fra C s₀ R₀ V sc env W s R Mu Δ) (rm : Room n A) (S : SAt C cT cN Mu Z σ) (hc : SCall C cT cN n f ds Z σ P) (hvs : RdAll R vs ds)
    (h : ∀ v s' R' Mu' Z' σ' d, P Z' σ' d → Z'.s = Z.s → R.le R' → Rd R' v d → Fra C s₀ R₀ V sc env W s' R' Mu' Δ → SAt C cT cN Mu' Z' σ' → (∀ a ∈ Z'.all σ', a ∈ Z.all σ ∨ s.heap.get? a = none) → (∀ a ∈ Z.all σ, a ∈ Z'.all σ') → Reg.keepsOff (Z.all σ) Mu Mu' → Qv v s') :
    wpAny C.M A (call (.ref f) (.ref Z.s :: vs)) Qv E s := by
  refine noE (hc A s R vs rm F.ro hvs (S.on fun a o _ e => (F.mu a o e).1) (fun a ha => let ⟨o, e, _⟩ := S.obj ha; (F.mu a o e).2.1)) fun v s' q => ?_
  obtain ⟨Z', σ', d, hP, p⟩ := q
  obtain ⟨F', S'⟩ := p.fra F S
  exact h v s' _ _ Z' σ' d hP p.self (p.region F S) p.val F' S' p.new p.old (p.off p.new F)
/- x.m(e), a method that changes the sorter x -/
theorem Fra.smeth {o e : Expr} {ap pos : Pos} {es : List Expr} {ds : List Dat} {P : Srt → Sd → Dat → Prop} {Qv : Value → Shared → Prop} (F : Fra C s₀ R₀ V sc env W s R Mu Δ) (rm : Room n A) (B : Base C K) (O : MethA K cT name f) (S : SAt C cT cN Mu Z σ) (hd : Mu Z.d = some od) (hl : lookIn name od = some none)
    (ho : Ev (C.at Mu) n sc Δ o (.val (.ref Z.s))) (ha : EvAll (C.at Mu) n sc Δ (e :: es) ds) (hc : SCall C cT cN n f ds Z σ P)
    (h : ∀ v s' R' Mu' Z' σ' d, P Z' σ' d → Z'.s = Z.s → R.le R' → Rd R' v d → Fra C s₀ R₀ V sc env W s' R' Mu' Δ → SAt C cT cN Mu' Z' σ' → (∀ a ∈ Z'.all σ', a ∈ Z.all σ ∨ s.heap.get? a = none) → (∀ a ∈ Z.all σ, a ∈ Z'.all σ') → Reg.keepsOff (Z.all σ) Mu Mu' → Qv v s')
    (h2 : starEach (e :: es) env = (false, eval e env) :: starEach es env := by rfl) (h3 : (backTo pos (starEach es env)).any (·.1) = false := by rfl)
    {pl : Sem Bool} (hm : eval (.Call (.Attribute o name ap) (e :: es) [] pos) env = (do
      let ov ← eval o env
      standAt ap.atName
      let (f, first) ← holding [ov] (getMethod ov name pl)
      callWith pos f first (backTo pos (starEach (e :: es) env)) (backToKw pos (keywordEach [] env))) := by rfl) :
    wpAny C.M A (eval (.Call (.Attribute o name ap) (e :: es) [] pos) env) Qv E s := by
  refine meth_run B O F rm ho S.s hd hl ha (fun s₁ R₁ vs l₁ k₁ F₁ hvs => ?_) h2 h3 (pl := pl) hm
  refine F₁.scall rm S hc hvs fun v s' R' Mu' Z' σ' d hP hs l hv F' S' hn ho hk => h v s' R' Mu' Z' σ' d hP hs (l₁.trans l) hv F' S' (fun a ha => ?_) ho hk
  rcases hn a ha with q | q
  · exact .inl q
  · right
    cases z : s.heap.get? a with
    | none => rfl
    | some o => rw [Keeps.hle k₁ _ _ z] at q; (have q_ := oSN q; clear q; exact q_.elim)
theorem Fra.smeth0 {o : Expr} {ap pos : Pos} {P : Srt → Sd → Dat → Prop} {Qv : Value → Shared → Prop} (F : Fra C s₀ R₀ V sc env W s R Mu Δ) (rm : Room n A) (B : Base C K) (O : MethA K cT name f) (S : SAt C cT cN Mu Z σ) (hd : Mu Z.d = some od) (hl : lookIn name od = some none)
    (ho : Ev (C.at Mu) n sc Δ o (.val (.ref Z.s))) (hc : SCall C cT cN n f [] Z σ P)
    (h : ∀ v s' R' Mu' Z' σ' d, P Z' σ' d → Z'.s = Z.s → R.le R' → Rd R' v d → Fra C s₀ R₀ V sc env W s' R' Mu' Δ → SAt C cT cN Mu' Z' σ' → (∀ a ∈ Z'.all σ', a ∈ Z.all σ ∨ s.heap.get? a = none) → (∀ a ∈ Z.all σ, a ∈ Z'.all σ') → Reg.keepsOff (Z.all σ) Mu Mu' → Qv v s')
    {pl : Sem Bool} (hm : eval (.Call (.Attribute o name ap) [] [] pos) env = (do
      let ov ← eval o env
      standAt ap.atName
      let (f, first) ← holding [ov] (getMethod ov name pl)
      callWith pos f first (backTo pos (starEach [] env)) (backToKw pos (keywordEach [] env))) := by rfl) :
    wpAny C.M A (eval (.Call (.Attribute o name ap) [] [] pos) env) Qv E s := by
  refine meth_run0 B O F rm ho S.s hd hl (fun s₁ R₁ l₁ k₁ F₁ => ?_) (pl := pl) hm
  refine F₁.scall rm S hc .nil fun v s' R' Mu' Z' σ' d hP hs l hv F' S' hn ho hk => h v s' R' Mu' Z' σ' d hP hs (l₁.trans l) hv F' S' (fun a ha => ?_) ho hk
  rcases hn a ha with q | q
  · exact .inl q
  · right
    cases z : s.heap.get? a with
    | none => rfl
    | some o => rw [Keeps.hle k₁ _ _ z] at q; (have q_ := oSN q; clear q; exact q_.elim)
end
end Mine
end
noncomputable section
open PySem PySem.W PyProof.Rows PySem.SeqAt PySem.MeetsSeq
set_option Elab.async false
set_option autoImplicit false
set_option maxRecDepth 100000
namespace Mine
theorem slot_li_ga : Slot "list_iterator" "__getattribute__" "object.__getattribute__" :=
  .of (owner := "object") (n := "__getattribute__") (by rw [typeLookup_type, builtinLookup_eq_fast]; kernel_rfl) (by decide +kernel) (by decide +kernel) (by decide +kernel)
    (by first | exact .inl (by decide +kernel) | exact .inr (by decide +kernel)) (by rw [isSubtype_type]; kernel_rfl)
theorem entry_li_ga : entryFor table "object.__getattribute__" = some Builtin.«object.__getattribute__» := entryFor_of_tree (by kernel_rfl)
theorem args_li_ga (a b : Value) : argsOk "object.__getattribute__" ⟨[a, b], []⟩ := by unfold argsOk; kernel_rfl
theorem look_li_next : typeLookup (.type "list_iterator") "__next__" = pure (some (.builtin "list_iterator.__next__")) := by rw [typeLookup_type, builtinLookup_eq_fast]; kernel_rfl
theorem type_li_next : typeOf (.builtin "list_iterator.__next__") = pure (.type "wrapper_descriptor") := by show builtinType _ = _; rw [builtinType_eq_fast]; kernel_rfl
theorem look_wd_get : typeLookup (.type "wrapper_descriptor") "__get__" = pure (some (.builtin "wrapper_descriptor.__get__")) := by rw [typeLookup_type, builtinLookup_eq_fast]; kernel_rfl
theorem look_wd_set : typeLookup (.type "wrapper_descriptor") "__set__" = pure none := by rw [typeLookup_type, builtinLookup_eq_fast]; kernel_rfl
theorem look_wd_del : typeLookup (.type "wrapper_descriptor") "__delete__" = pure none := by rw [typeLookup_type, builtinLookup_eq_fast]; kernel_rfl
theorem slot_wd_get : Slot "wrapper_descriptor" "__get__" "wrapper_descriptor.__get__" :=
  .of (owner := "wrapper_descriptor") (n := "__get__") (by rw [typeLookup_type, builtinLookup_eq_fast]; kernel_rfl) (by decide +kernel) (by decide +kernel) (by decide +kernel)
    (by first | exact .inl (by decide +kernel) | exact .inr (by decide +kernel)) (by rw [isSubtype_type]; kernel_rfl)
theorem entry_wd_get : entryFor table "wrapper_descriptor.__get__" = some Builtin.«wrapper_descriptor.__get__» := entryFor_of_tree (by kernel_rfl)
theorem args_wd_get (a b c : Value) : argsOk "wrapper_descriptor.__get__" ⟨[a, b, c], []⟩ := by unfold argsOk; kernel_rfl
theorem sub_li : isSubtype (.type "list_iterator") (.type "list_iterator") = pure true := by rw [isSubtype_type]; kernel_rfl

section
variable {prog : Program} {w : World} {A : Around} {E : Value → Shared → Prop} {s : Shared}
noncomputable abbrev wrapObj (I : Addr) : Obj := { cls := .type "method-wrapper", data := .fields #[.builtin "list_iterator.__next__", .ref I] }
theorem look_li_hook : typeLookup (.type "list_iterator") "__getattr__" = pure none := by rw [typeLookup_type, builtinLookup_eq_fast]; kernel_rfl
theorem call_wd_get {I : Addr} {o : Obj} {R : Result → Shared → Prop} (ho : s.heap.get? I = some o) (hc : o.cls = .type "list_iterator") (h : R (.ok (.ret (.ref s.heap.objs.size))) { s with heap := s.heap.push (wrapObj I) }) :
    codeAny (model prog w) A (.call (.builtin "wrapper_descriptor.__get__") ⟨[.builtin "list_iterator.__next__", .ref I, .type "list_iterator"], []⟩) R s := by
  refine codeAny_call_builtin slot_wd_get.plain entry_wd_get (slot_wd_get.check _ _ _ _ _ _ _ _ type_li_next (args_wd_get _ _ _) ?_)
  obtain ⟨hp, g, d, tk, os⟩ := s
  have hT : (⟨hp, g, d, tk, os⟩ : Shared).TypeIs (.ref I) "list_iterator" := ⟨o, ho, hc⟩
  unfold Builtin.«wrapper_descriptor.__get__»
  repeat (any_goals (first | assumption | wp_step))
  rw [show (".".intercalate ("list_iterator.__next__".cutAt '.').dropLast) = "list_iterator" from by decide +kernel, sub_li]
  refine wpAny_pure ?_
  rw [if_neg (by decide)]
  exact wpAny_pure (wpAny_bind (wpAny_newObj_type (wpAny_pure h)))
theorem meets_li_ga (I : Addr) (o : Obj) (u : Tok) (hc : o.cls = .type "list_iterator") (hd : o.dict = none) (hf : ∃ vs, o.data = .fields vs) :
    Meets (Builtin.«object.__getattribute__» ⟨[.ref I, .str (Str.ofString "__next__") u], []⟩) (fun _ R s => s.heap.get? I = some o ∧ R (.ok (.ret (.ref s.heap.objs.size))) { s with heap := s.heap.push (wrapObj I) }) :=
  Meets.of_wp fun prog w A R s hs => by
    obtain ⟨hp, g, d, tk, os⟩ := s
    obtain ⟨hx, hs⟩ := hs
    obtain ⟨vs, hf⟩ := hf
    obtain ⟨c, dct, dat, sl⟩ := o
    dsimp only at hc hd hf
    subst hc hd hf
    have hT : (⟨hp, g, d, tk, os⟩ : Shared).TypeIs (.ref I) "list_iterator" := ⟨_, hx, rfl⟩
    have f1 := look_li_next
    have f2 := type_li_next
    have f3 := look_wd_get
    have f4 := look_wd_set
    have f5 := look_wd_del
    unfold Builtin.«object.__getattribute__»
    repeat (any_goals (first | assumption | wp_step))
    refine call_wd_get (s := ⟨hp, g, d, tk, os⟩) hx rfl ?_
    exact wpAny_pure ⟨_, rfl, hs⟩
theorem getAttr_next {I : Addr} {o : Obj} {Q : Value → Shared → Prop} (hx : s.heap.get? I = some o) (hc : o.cls = .type "list_iterator") (hd : o.dict = none) (hf : ∃ vs, o.data = .fields vs)
    (h : Q (.ref s.heap.objs.size) { s with heap := s.heap.push (wrapObj I), toks := s.toks + 1 }) : wpAny (model prog w) A (getAttr (.ref I) (Str.ofString "__next__") true) Q E s := by
  obtain ⟨vs, hf⟩ := hf
  obtain ⟨c, dct, dat, sl⟩ := o
  dsimp only at hc hd hf
  subst hc hd hf
  obtain ⟨hp, g, d, tk, os⟩ := s
  have hT : ∀ tk', (⟨hp, g, d, tk', os⟩ : Shared).TypeIs (.ref I) "list_iterator" := fun _ => ⟨_, hx, rfl⟩
  have f3 := slot_li_ga.lookup
  have f4 := slot_li_ga.bind (.ref I)
  have f5 := look_li_hook
  unfold getAttr getAttrBy
  repeat (any_goals (first | assumption | exact hT _ | ((with_reducible show wpAny _ _ (call (Value.builtin "object.__getattribute__") _ _) _ _ _); refine call_meets slot_li_ga (hT _) entry_li_ga (args_li_ga _ _) (meets_li_ga I _ _ rfl rfl ⟨_, rfl⟩) ⟨hx, ?_⟩) | wp_step))
  exact (handed_on rfl h : wpAny (model prog w) A (handedOut (.ref hp.objs.size)) Q E _)
end
end Mine
end
noncomputable section
open PySem PySem.W PyProof.Rows PySem.SeqAt PySem.MeetsSeq
set_option Elab.async false
set_option autoImplicit false
set_option maxRecDepth 100000
namespace Mine
section
variable {prog : Program} {w : World} {A : Around} {E : Value → Shared → Prop} {s : Shared} {R : Result → Shared → Prop}
theorem call_wrap {q I : Addr} (ho : s.heap.get? q = some (wrapObj I)) (h : codeAny (model prog w) A (.builtin "list_iterator.__next__" ⟨[.ref I], []⟩) R s) : codeAny (model prog w) A (.call (.ref q) ⟨[], []⟩) R s := by
  obtain ⟨hh, g, dr, t, os⟩ := s
  refine codeAny_of_tree ?_
  show wpAny _ _ (callAny (.ref q) _) _ _ _
  dsimp only at ho
  refine nd_load ho ?_
  have e : checkBoundCall "list_iterator.__next__" ⟨[.ref I], []⟩ = pure () := by kernel_rfl
  show wpAny _ _ (checkBoundCall "list_iterator.__next__" ⟨[.ref I], []⟩ >>= fun _ => again (.builtin "list_iterator.__next__" ⟨[.ref I], []⟩) >>= fun r => pure r) _ _ _
  rw [e]
  exact wpAny_pure ⟨Code.quiet_builtin _ (by decide +kernel), h⟩
theorem plain_li_next : plainId "list_iterator.__next__" = true := by decide +kernel
noncomputable abbrev stopObj (T : Addr) (tb : Value) : Obj := { cls := .type "StopIteration", data := .fields #[.ref T, tb, .none, .none, .bool false, .none] }
theorem next_item {I l : Addr} {i : Nat} {items : Array Value} {x : Value} (hit : s.heap.IsListIter I l i) (hl : s.heap.IsList l items) (hx : items[i]? = some x)
    (h : ∀ h', h'.IsListIter I l (i + 1) → Heap.SameBut I s.heap h' → R (.ok (.ret x)) { s with heap := h' }) : codeAny (model prog w) A (.builtin "list_iterator.__next__" ⟨[.ref I], []⟩) R s := by
  obtain ⟨o, ho, hc, hd⟩ := id hit
  obtain ⟨ol, hol, _, nl, hdl⟩ := hl
  refine codeAny_builtin entry_listiter_next ?_
  show wpAny _ _ (field (.ref I) 0 >>= _) _ _ s
  refine wpAny_bind (wpAny_field ho hd (x := .ref l) rfl ?_)
  show wpAny _ _ (if (Value.ref l == Value.none) = true then _ else _) _ _ s
  rw [if_neg (show ¬ ((Value.ref l == Value.none) = true) from Bool.false_ne_true)]
  show wpAny _ _ (field (.ref I) 1 >>= _) _ _ s
  refine wpAny_bind (wpAny_field ho hd (x := .int i 0) rfl ?_)
  show wpAny _ _ (seqItems? (.ref l) >>= _) _ _ s
  refine wpAny_bind (wpAny_seqItems hol hdl ?_)
  simp only [Int.toNat_natCast, hx]
  refine wpAny_bind (wpAny_setField ho hd (by simp) (wpAny_pure (h _ ?_ (Heap.SameBut.update ..))))
  exact ⟨_, Heap.get?_update_self _ ho (Obj.isFreed_of_fields (Obj.data_mapFields hd _)), (Obj.cls_mapFields ..).trans hc, by
    rw [Obj.data_mapFields hd]; simp [rawInt]⟩
theorem next_end {I l : Addr} {i : Nat} {items : Array Value} (hh : A.handled = none) (hit : s.heap.IsListIter I l i) (hl : s.heap.IsList l items) (hx : items[i]? = none)
    (h : ∀ h' e T, Heap.ExtBut I s.heap h' → (∃ o, h'.get? I = some o) → s.heap.get? e = none → s.heap.get? T = none → e ≠ T → h'.get? e = some (stopObj T .none) → R (.error (.ref e)) { s with heap := h' }) : codeAny (model prog w) A (.builtin "list_iterator.__next__" ⟨[.ref I], []⟩) R s := by
  obtain ⟨o, ho, hc, hd⟩ := id hit
  obtain ⟨ol, hol, _, nl, hdl⟩ := hl
  refine codeAny_builtin entry_listiter_next ?_
  show wpAny _ _ (field (.ref I) 0 >>= _) _ _ s
  refine wpAny_bind (wpAny_field ho hd (x := .ref l) rfl ?_)
  show wpAny _ _ (if (Value.ref l == Value.none) = true then _ else _) _ _ s
  rw [if_neg (show ¬ ((Value.ref l == Value.none) = true) from Bool.false_ne_true)]
  show wpAny _ _ (field (.ref I) 1 >>= _) _ _ s
  refine wpAny_bind (wpAny_field ho hd (x := .int i 0) rfl ?_)
  show wpAny _ _ (seqItems? (.ref l) >>= _) _ _ s
  refine wpAny_bind (wpAny_seqItems hol hdl ?_)
  simp only [Int.toNat_natCast, hx]
  refine wpAny_bind (wpAny_rule (wpAny_bind (wpAny_setField ho hd (by simp) ?_)))
  show wpAny _ _ (newExc (.type "StopIteration") [] >>= _) _ _ _
  refine wpAny_bind ?_
  simp only [newExc, newTuple]
  refine wpAny_bind (wpAny_newObj_type ?_ (by size_fits))
  refine wpAny_bind (m := firstArgMember _ _) (wpAny_of_eq (a := Value.none) (by first | rfl | (simp only [firstArgMember]; rfl)) ?_)
  refine wpAny_newObj_type ?_ (by size_fits)
  simp only [raiseNew]
  refine wpAny_bind (wpAny_handled ?_)
  rw [Around.under_plainId plain_li_next]
  rw [show A.in1.handled = none from hh]
  refine wpAny_bind (wpAny_pure (wpAny_throw ?_))
  have hsz : ∀ {h : Heap} {a : Addr}, h.objs.size ≤ a → h.get? a = none := fun {h a} ha => by
    cases e : h.get? a with
    | none => rfl
    | some o' => exact absurd (Heap.lt_size e) (Nat.not_lt.mpr ha)
  have hus : (s.heap.update I (Obj.mapFields (·.setIfInBounds 0 Value.none))).objs.size = s.heap.objs.size := Heap.size_after_update ..
  refine h _ _ (s.heap.update I (Obj.mapFields (·.setIfInBounds 0 Value.none))).objs.size (((Heap.SameBut.update ..).extBut.push _).push _) ?_ ?_ ?_ ?_ ?_
  · exact ⟨_, Heap.get?_push_of_some _ (Heap.get?_push_of_some _ (Heap.get?_update_self _ ho (Obj.isFreed_of_fields (Obj.data_mapFields hd _))))⟩
  · exact hsz (by rw [Heap.size_push, hus]; exact Nat.le_succ _)
  · exact hsz (by rw [hus]; exact Nat.le_refl _)
  · rw [Heap.size_push]; exact Nat.succ_ne_self _
  · exact Heap.get?_push_size _ rfl
end
end Mine
end
noncomputable section
open PySem PySem.W PyProof.Rows PySem.SeqAt PySem.MeetsSeq
set_option Elab.async false
set_option autoImplicit false
set_option maxRecDepth 100000
namespace Mine
/- the empty heap -/
noncomputable def noH : Heap := {}
/- what marking the live frames and the exception leaves -/
structure Marked (LS : List Addr) (e : Addr) (h h' : Heap) : Prop where
  keep : ∀ b o, b ∉ LS → b ≠ e → h.get? b = some o → h'.get? b = some o
  fr : ∀ b o, b ∈ LS → h.get? b = some o → ∃ sl, h'.get? b = some { o with slots := sl }
theorem Marked.trans {LS : List Addr} {e : Addr} {h h' h'' : Heap} (x : Marked LS e h h') (y : Marked LS e h' h'') : Marked LS e h h'' :=
  ⟨fun b o h1 h2 q => y.keep b o h1 h2 (x.keep b o h1 h2 q), fun b o h1 q => let ⟨_, q1⟩ := x.fr b o h1 q; let ⟨sl, q2⟩ := y.fr b _ h1 q1; ⟨sl, q2⟩⟩
section
variable {M : Model} {A : Around} {E : Value → Shared → Prop} {s : Shared}
/- an exception whose fields hold the traceback tb, seen in flight at L -/
noncomputable def FlyAt (h : Heap) (e T tb : Addr) (fl : Value) : Prop := h.get? e = some (stopObj T (.ref tb)) ∧ tb ≠ e ∧ ∃ ot ts, h.get? tb = some ot ∧ ot.data = .fields ts ∧ ts[3]? = some fl
theorem note_first {env : Env} {outer : List Env} {L e T : Addr} {Q : Unit → Shared → Prop} (hfr : A.frames = some (env :: outer)) (hl : s.heap.FunFrames noH (env :: outer)) (hf : env.frame = some L) (he : s.heap.get? e = some (stopObj T .none))
    (h : ∀ h' tb, Marked ((env :: outer).filterMap (·.frame)) e s.heap h' → s.heap.get? tb = none → FlyAt h' e T tb (rawInt L) → Q () { s with heap := h' }) : wpAny M A (noteFrame (.ref e) env) Q E s := by
  have hene : e ∉ (env :: outer).filterMap (·.frame) := fun hm => by
    obtain ⟨_, o, ho, hnf⟩ := hl.mem hm
    rw [he] at ho; injection ho with ho; subst ho; exact hnf _ rfl
  unfold noteFrame
  simp only [hf]
  refine wpAny_bind (wpAny_field he rfl (x := .none) rfl ?_)
  rw [if_neg (by decide)]
  refine wpAny_bind (wpAny_frameOf_fun hfr hl hf fun h₁ hs₁ => ?_)
  refine wpAny_bind (wpAny_entryPlaceOf fun pl hpl => ?_)
  unfold EntryCells.newEntry newFields
  refine wpAny_bind (wpAny_newObj_type ?_ (hpl.sizeOk5 _ _ _ _ _))
  have he₁ : h₁.get? e = some (stopObj T .none) := (hs₁.2.1 e hene).trans he
  have he₂ := Heap.get?_push_of_some (h := h₁) { cls := .type "traceback", dict := none, data := .fields ([Value.none, .ref L, .none, rawInt L, .none] ++ (if pl.isEmpty then List.replicate 6 Value.none else pl)).toArray } he₁
  refine wpAny_setField he₂ rfl (by simp) (h _ h₁.objs.size ?_ ?_ ?_)
  · refine ⟨fun b o h1 h2 q => ?_, fun b o h1 q => ?_⟩
    · rw [Heap.get?_update_other _ _ (Ne.symm h2)]
      exact Heap.get?_push_of_some _ ((hs₁.2.1 b h1).trans q)
    · obtain ⟨sl, hsl⟩ := hs₁.2.2 b o q
      refine ⟨sl, ?_⟩
      have hbe : e ≠ b := fun w => hene (w ▸ h1)
      rw [Heap.get?_update_other _ _ hbe]
      exact Heap.get?_push_of_some _ hsl
  · cases q : s.heap.get? h₁.objs.size with
    | none => rfl
    | some o => have := Heap.lt_size q; rw [hs₁.1] at this; exact absurd this (Nat.lt_irrefl _)
  · have hTe : h₁.objs.size ≠ e := Nat.ne_of_gt (Heap.lt_size he₁)
    have hT := (Heap.get?_update_other (h₁.push { cls := .type "traceback", dict := none, data := .fields ([Value.none, .ref L, .none, rawInt L, .none] ++ (if pl.isEmpty then List.replicate 6 Value.none else pl)).toArray }) (Obj.mapFields (·.setIfInBounds 1 (Value.ref h₁.objs.size))) (Ne.symm hTe)).trans (Heap.get?_push_size h₁ rfl)
    refine ⟨?_, hTe, _, _, hT, rfl, ?_⟩
    · rw [Heap.get?_update_self _ he₂ rfl]; rfl
    · first | (simp; done) | (rcases hpl with rfl | ⟨_, _, _, _, _, _, _, rfl⟩ <;> simp)
theorem land {e T tb : Addr} {fl : Value} {LS : List Addr} {Q : Unit → Shared → Prop} (ht : FlyAt s.heap e T tb fl)
    (h : ∀ h', Heap.SameBut tb s.heap h' → FlyAt h' e T tb .none → Q () { s with heap := h' }) : wpAny M A (setFlight (.ref e) none) Q E s := by
  obtain ⟨he, hne, ot, ts, hT, hd, h3⟩ := ht
  have hsz3 : 3 < ts.size := (Array.getElem?_eq_some_iff.mp h3).1
  unfold setFlight
  refine wpAny_bind (wpAny_field he rfl (x := .ref tb) rfl ?_)
  rw [if_pos (show (Value.ref tb != Value.none) = true from by simp)]
  refine wpAny_setField hT hd hsz3 (h _ (Heap.SameBut.update ..) ⟨?_, hne, _, _, Heap.get?_update_self _ hT (Obj.isFreed_of_fields (Obj.data_mapFields hd _)), Obj.data_mapFields hd _, by simp [hsz3]⟩)
  rw [Heap.get?_update_other _ _ hne]; exact he
end
end Mine
end
noncomputable section
open PySem PySem.W PyProof.Rows PySem.SeqAt PySem.MeetsSeq
set_option Elab.async false
set_option autoImplicit false
set_option maxRecDepth 100000
namespace Mine
section
variable {C : Cx} {s₀ : Shared} {R₀ : Reg} {V : List Addr} {sc : Scope} {env : Env} {W : List Addr} {s s' : Shared} {R R' Mu Mu' : Reg} {Δ Δ' : Vars} {n : Nat} {A : Around} {E : Value → Shared → Prop} {Q : Flow → Shared → Prop}
theorem delItem_int {d : Addr} {o : Obj} {kvs : List (Int × Value)} {k : Int} {t : Tok} {Qu : Unit → Shared → Prop} (hd : s.heap.get? d = some o) (hk : o.IsDictOf (iK C) kvs) (hv : (valueAt kvs k).isSome = true) (hz : kvs.length ≤ sizeLine)
    (h : ∀ h' o', Heap.SameBut d s.heap h' → h'.get? d = some o' → o'.IsDictOf (iK C) (without kvs k) → Qu () { s with heap := h', toks := s.toks + 1 }) : wpAny C.M A (delItem (.ref d) (.int k t)) Qu E s := by
  have hD : s.heap.DictOf (iK C) d kvs := dictAt_of hd hk
  unfold delItem
  try with_reducible refine wpAny_holding ?_
  refine wpAny_bind (wpAny_sequenceKey hD.typeIs (by decide) ?_)
  refine wpAny_bind (wpAny_callSpecial?_slot (name := Str.ofString "__delitem__") hD.typeIs PySem.F.slot_dict_delitem
    (call_meetsIn PySem.F.slot_dict_delitem hD.typeIs PySem.F.entry_dict_delitem (PySem.F.args_dict_delitem_2 _ _) (meets_dict_delitem_pairs (iK C) d (intKind_is _ _ _ _)) ⟨kvs, hD, hz, hv, fun h' hmm hs => ?_⟩))
  obtain ⟨o', ho', hd'⟩ := Heap.dictOf_iff.mp hmm
  exact wpAny_pure (h h' o' hs ho' hd')
/- a variable is read, whatever is being handled -/
theorem Fra.name {x : Str} {p : Pos} {d : Dat} {Qv : Value → Shared → Prop} (F : Fra C s₀ R₀ V sc env W s R Mu Δ) (h : Δ x = some d) (hQ : ∀ v, Rd R v d → Qv v s) (hx : ((x == ("__debug__" : Str)) || (x == ("__classdict__" : Str))) = false := by decide +kernel) :
    wpAny C.M A (eval (.Name x p) env) Qv E s := by
  obtain ⟨v, hv, hd⟩ := F.eo.vars x d h
  obtain ⟨h1, h2⟩ := Bool.or_eq_false_iff.mp hx
  exact wpAny_Name (wpAny_var (F.eo.hsc ▸ F.eo.fn) hv (hQ v hd) h2) h1
/- x.pop(), whatever is being handled -/
theorem Fra.pop {x : Str} {np ap pos : Pos} {l : Addr} {vs : List Value} {v : Value} {m : Nat} {Qv : Value → Shared → Prop} (F : Fra C s₀ R₀ V sc env W s R Mu Δ) (hx : Δ x = some (.val (.ref l))) (hl : Mu l = some (lstObj (vs ++ [v]) m)) (hz : vs.length < sizeLine)
    (h : ∀ s₁ m', KeepsBut [l] s s₁ → Fra C s₀ R₀ V sc env W s₁ R (Mu.set l (lstObj vs m')) Δ → Qv v s₁)
    (hn : ((x == ("__debug__" : Str)) || (x == ("__classdict__" : Str))) = false := by decide +kernel)
    (hline : (ap.endLine == pos.line) = true := by rfl) (hbase : attributeBase (.Name x np) (Str.ofString "pop") env (eval (.Name x np) env) = eval (.Name x np) env := by rfl) :
    wpAny C.M A (eval (.Call (.Attribute (.Name x np) (Str.ofString "pop") ap) [] [] pos) env) Qv E s := by
  refine wpAny_Call_method0_late hbase hline (F.name hx (fun ov h1 => ?_) hn)
  (have q_ := Rd.valE h1; clear h1; subst q_)
  have hl₁ := F.rom.mu _ _ hl
  refine ⟨"list", "list.pop", PySem.F.plainAttrs_list, PySem.F.slot_list_pop, PySem.F.type_list_pop, ⟨_, hl₁, rfl⟩, fun a ha => by (have q_ := vRR ha; clear ha; subst q_); exact ⟨_, hl₁, rfl⟩, ?_⟩
  refine PySem.P.pop_list (items := (vs ++ [v]).toArray) (n := m) (y := v) hl₁ (by simp) ?_ (by simp; omega)
  have hg : (s.heap.update l (Obj.mapSeq fun xs => xs.eraseIdxIfInBounds ((vs ++ [v]).toArray.size - 1))).get? l = some (Obj.mapSeq (fun xs => xs.eraseIdxIfInBounds ((vs ++ [v]).toArray.size - 1)) (lstObj (vs ++ [v]) m)) := Heap.get?_update_self _ hl₁ (by rfl)
  have hv : ((vs ++ [v]).toArray.eraseIdxIfInBounds ((vs ++ [v]).toArray.size - 1)) = vs.toArray := by
    simp [Array.eraseIdxIfInBounds, List.eraseIdx_append_of_length_le]
  refine h _ _ ⟨_, s.toks, rfl, fun b o hb e => (Heap.SameBut.update ..).extBut b o (fun q => hb (by simp [q])) e⟩ (F.mut (tk := s.toks) hl (fun _ q => nomatch q) (Heap.SameBut.update ..) (o' := lstObj vs ?_) (hg.trans ?_))
  rotate_left
  · simp only [Obj.mapSeq, hv]
    rfl
end
end Mine
end
noncomputable section
open PySem PySem.W PyProof.Rows PySem.SeqAt PySem.MeetsSeq
set_option Elab.async false
set_option autoImplicit false
set_option maxRecDepth 100000
namespace Mine
noncomputable abbrev frs (Out : List Env) : List Addr := Out.filterMap (·.frame)
/- the live frames, all of functions -/
noncomputable def Live (Out : List Env) (G : Reg) : Prop := ∀ e ∈ Out, e.scope.kind ≠ .module ∧ ∃ L o, e.frame = some L ∧ G L = some o ∧ (∀ vs, o.data ≠ .fields vs) ∧ ∀ v, o.data ≠ .cell v
noncomputable def UpTo (LS : List Addr) (G G' : Reg) : Prop := ∀ a ∈ LS, ∀ o, G a = some o → ∃ sl, G' a = some { o with slots := sl }
theorem UpTo.trans {LS : List Addr} {G G' G'' : Reg} (x : UpTo LS G G') (y : UpTo LS G' G'') : UpTo LS G G'' := fun a ha o e => let ⟨_, e1⟩ := x a ha o e; let ⟨sl, e2⟩ := y a ha _ e1; ⟨sl, e2⟩
theorem UpTo.of {LS : List Addr} {G G' : Reg} (x : ∀ a ∈ LS, ∀ o, G a = some o → G' a = some o) : UpTo LS G G' := fun a ha o e => ⟨o.slots, x a ha o e⟩
theorem UpTo.off {T LS : List Addr} {G G' : Reg} (x : Reg.keepsOff T G G') (h : ∀ a ∈ LS, a ∉ T) : UpTo LS G G' := .of fun a ha o e => x a o (h a ha) e
theorem Live.up {Out : List Env} {G G' : Reg} (x : Live Out G) (y : UpTo (frs Out) G G') : Live Out G' := fun e he => by
  obtain ⟨h1, L, o, h2, h3, h4, h5⟩ := x e he
  obtain ⟨sl, e'⟩ := y L (List.mem_filterMap.mpr ⟨e, he, h2⟩) o h3
  exact ⟨h1, L, _, h2, e', h4, h5⟩
theorem Live.obj {Out : List Env} {G : Reg} (x : Live Out G) {a : Addr} (ha : a ∈ frs Out) : ∃ o, G a = some o ∧ ∀ v, o.data ≠ .cell v := by
  obtain ⟨e, he, h⟩ := List.mem_filterMap.mp ha
  obtain ⟨_, L, o, h2, h3, _, h5⟩ := x e he
  rw [h2] at h; (have q_ := oSS h; clear h; subst q_)
  exact ⟨o, h3, h5⟩
theorem Live.fun {Out : List Env} {h : Heap} (x : Live Out h.get?) : h.FunFrames noH Out := by
  induction Out with
  | nil => trivial
  | cons e l ih =>
    obtain ⟨h1, L, o, h2, h3, h4, _⟩ := x e List.mem_cons_self
    exact ⟨h1, ⟨L, o, h2, rfl, h3, h4⟩, ih fun e' he' => x e' (List.mem_cons_of_mem _ he')⟩
section
variable {C : Cx} {s₀ : Shared} {R₀ : Reg} {V : List Addr} {sc : Scope} {env : Env} {W : List Addr} {s s' : Shared} {R R' Mu Mu' : Reg} {Δ Δ' : Vars} {n : Nat} {A : Around} {E : Value → Shared → Prop} {Q : Flow → Shared → Prop}
/- the slots of the own frame object are written -/
theorem Fra.slots {o : Obj} {sl : Array (Option Value)} (F : Fra C s₀ R₀ V sc env W s R Mu Δ) (ho : s.heap.get? env.locals = some o) (hf : ({ o with slots := sl } : Obj).isFreed = false) :
    Fra C s₀ R₀ V sc env W { s with heap := s.heap.update env.locals fun o => { o with slots := sl } } R Mu Δ := by
  have hs : Heap.SameBut env.locals s.heap (s.heap.update env.locals fun o => { o with slots := sl }) := Heap.SameBut.update ..
  have hg : (s.heap.update env.locals fun o => { o with slots := sl }).get? env.locals = some { o with slots := sl } := Heap.get?_update_self _ ho hf
  have ns : ∀ m, s.heap.Ns env.locals m → (s.heap.update env.locals fun o => { o with slots := sl }).Ns env.locals m := fun m hm => by
    obtain ⟨o', es, ep, h1, h2, h3⟩ := hm
    rw [ho] at h1; (have q_ := oSS h1; clear h1; subst q_)
    exact ⟨_, es, ep, hg, h2, h3⟩
  have e := F.ew
  refine F.stored ⟨_, s.toks, rfl, fun b o hb eb => hs.extBut b o (fun h => hb (h ▸ e.locW)) eb⟩ ?_
  refine ⟨⟨e.ok.hsc, e.ok.fn, e.ok.gl, e.ok.bl, fun y dy ey => ?_⟩, let ⟨m, x⟩ := e.ns; ⟨m, ns m x⟩, e.locW, fun c hc hn => let ⟨v, x⟩ := e.alive c hc hn; ⟨v, x.sameBut hs hn⟩, e.offR, e.inj, e.locne, fun y c h => let ⟨v, z⟩ := e.calive y c h; ⟨v, z.sameBut hs (fun q => e.locne y (q ▸ h))⟩⟩
  obtain ⟨v, hv, hr⟩ := e.ok.vars y dy ey
  refine ⟨v, ?_, hr⟩
  rcases hv with ⟨a1, m1, a2, a3⟩ | ⟨a1, c1, a2, a3⟩ | ⟨a1, c1, a2, a3⟩
  · exact .inl ⟨a1, m1, ns _ a2, a3⟩
  · exact .inr (.inl ⟨a1, c1, a2, a3.sameBut hs (fun q => e.locne y (q ▸ a2))⟩)
  · exact .inr (.inr ⟨a1, c1, a2, a3.sameBut hs (fun q => e.locne y (q ▸ a2))⟩)
/- as stepG, where the own frame's slots may change too -/
theorem Fra.deep {X : List Addr} (F : Fra C s₀ R₀ V sc env W s R Mu Δ) (k : KeepsBut (env.locals :: X) s s') (hl : UpTo [env.locals] s.heap.get? s'.heap.get?) (hX : ∀ a ∈ X, ∃ o, Mu a = some o ∧ ∀ v, o.data ≠ .cell v) (hX' : ∀ a ∈ X, ∃ o, s'.heap.get? a = some o)
    (h1 : R.le R') (h2 : R'.le (R.ext s.heap s'.heap)) (hM : ∀ a o, Mu' a = some o → s'.heap.get? a = some o ∧ R' a = none ∧ ((∃ o', Mu a = some o') ∨ s.heap.get? a = none)) :
    Fra C s₀ R₀ V sc env W s' R' Mu' Δ := by
  obtain ⟨m, o, es, ep, ho, hod, hm⟩ := F.ew.ns
  obtain ⟨sl, ho'⟩ := hl _ List.mem_cons_self o ho
  have hfr : ({ o with slots := sl } : Obj).isFreed = false := by simp only [Obj.isFreed, hod]
  have F₁ := F.slots ho hfr
  have hs : Heap.SameBut env.locals s.heap (s.heap.update env.locals fun o => { o with slots := sl }) := Heap.SameBut.update ..
  have hg : (s.heap.update env.locals fun o => { o with slots := sl }).get? env.locals = some { o with slots := sl } := Heap.get?_update_self _ ho hfr
  have same : ∀ b, b ≠ env.locals → (s.heap.update env.locals fun o => { o with slots := sl }).get? b = s.heap.get? b := fun b hb => Heap.get?_update_other _ _ (Ne.symm hb)
  have dead : ∀ b, (s.heap.update env.locals fun o => { o with slots := sl }).get? b = none ↔ s.heap.get? b = none := fun b => by
    by_cases hb : b = env.locals
    · subst hb; rw [hg, ho]; simp
    · rw [same b hb]
  have ext : R.ext (s.heap.update env.locals fun o => { o with slots := sl }) s'.heap = R.ext s.heap s'.heap := by
    funext b
    simp only [Reg.ext]
    by_cases hb : b = env.locals
    · subst hb; rw [hg, ho]
    · rw [same b hb]
  refine F₁.stepG (X := X) (s' := s') ?_ hX hX' h1 (ext ▸ h2) fun a o' e => ?_
  · obtain ⟨h', tk, rfl, x⟩ := k
    refine ⟨h', tk, rfl, fun b ob hb eb => ?_⟩
    by_cases hbl : b = env.locals
    · subst hbl; rw [hg] at eb; (have q_ := oSS eb; clear eb; subst q_); exact ho'
    · refine x b ob (fun h => ?_) (by dsimp only at eb; rw [same b hbl] at eb; exact eb)
      rcases List.mem_cons.mp h with q | q
      · exact hbl q
      · exact hb q
  · obtain ⟨g1, g2, g3⟩ := hM a o' e
    exact ⟨g1, g2, g3.imp (fun x => x) (fun x => (dead a).mpr x)⟩
/- the own frame among the live ones -/
theorem Fra.live {Out : List Env} (F : Fra C s₀ R₀ V sc env W s R Mu Δ) (hf : env.frame = some env.locals) (L : Live Out Mu) : Live (env :: Out) s.heap.get? := fun e he => by
  rcases List.mem_cons.mp he with rfl | he
  · obtain ⟨m, o, es, ep, ho, hod, hm⟩ := F.ew.ns
    exact ⟨by rw [F.eo.hsc, F.eo.fn]; decide, _, o, hf, ho, (fun vs h => by rw [hod] at h; cases h), (fun v h => by rw [hod] at h; cases h)⟩
  · obtain ⟨h1, L', o, h2, h3, h4⟩ := L e he
    exact ⟨h1, L', o, h2, (F.mu _ _ h3).1, h4⟩
theorem frs_cons (hf : env.frame = some env.locals) (Out : List Env) : frs (env :: Out) = env.locals :: frs Out := by simp [frs, hf]
end
/-! calls that change a sorter and mark the live frames -/
structure FPost (C : Cx) (cT cN : Addr) (Out : List Env) (s : Shared) (R : Reg) (Z : Srt) (σ : Sd) (v : Value) (s' : Shared) (Z' : Srt) (σ' : Sd) (d : Dat) : Prop where
  self : Z'.s = Z.s
  keep : KeepsBut (frs Out ++ Z.all σ) s s'
  fr : UpTo (frs Out) s.heap.get? s'.heap.get?
  at' : SAt C cT cN s'.heap.get? Z' σ'
  new : ∀ a ∈ Z'.all σ', a ∈ Z.all σ ∨ s.heap.get? a = none
  old : ∀ a ∈ Z.all σ, a ∈ Z'.all σ'
  val : Rd ((R.ext s.heap s'.heap).minus (Z'.all σ')) v d
noncomputable def FCall (C : Cx) (cT cN : Addr) (n : Nat) (f : Addr) (ds : List Dat) (Z : Srt) (σ : Sd) (P : Srt → Sd → Dat → Prop) : Prop :=
  ∀ A Out s R vs, Room n A → A.frames = some Out → Live Out s.heap.get? → Rok (C.at noM) R s.heap → RdAll R vs ds → SAt C cT cN s.heap.get? Z σ → (∀ a ∈ Z.all σ, R a = none) → (∀ a ∈ frs Out, R a = none ∧ a ∉ Z.all σ) →
    wpAny C.M A (call (.ref f) (.ref Z.s :: vs)) (fun v s' => ∃ Z' σ' d, P Z' σ' d ∧ FPost C cT cN Out s R Z σ v s' Z' σ' d) NoE s
section
variable {C : Cx} {cT cN : Addr} {s₀ : Shared} {R₀ : Reg} {V : List Addr} {sc : Scope} {env : Env} {W : List Addr} {s s' : Shared} {R R' Mu Mu' : Reg} {Δ Δ' : Vars} {n : Nat} {A : Around} {E : Value → Shared → Prop} {Z Z' : Srt} {σ σ' : Sd} {K : Frag} {od : Obj} {name : Str} {f : Addr}
/- such a call within a frame -/
theorem Fra.fcall {Out : List Env} {ds : List Dat} {vs : List Value} {P : Srt → Sd → Dat → Prop} {Qv : Value → Shared → Prop} (F : Fra C s₀ R₀ V sc env W s R Mu Δ) (rm : Room n A) (hfr : A.frames = some (env :: Out)) (hf : env.frame = some env.locals) (Lv : Live Out Mu) (dis : ∀ a ∈ frs Out, a ∉ Z.all σ) (S : SAt C cT cN Mu Z σ) (hc : FCall C cT cN n f ds Z σ P) (hvs : RdAll R vs ds)
    (h : ∀ v s' R' Mu' Z' σ' d, P Z' σ' d → Z'.s = Z.s → R.le R' → Rd R' v d → Fra C s₀ R₀ V sc env W s' R' Mu' Δ → SAt C cT cN Mu' Z' σ' → (∀ a ∈ Z'.all σ', a ∈ Z.all σ ∨ s.heap.get? a = none) → (∀ a ∈ Z.all σ, a ∈ Z'.all σ') → Reg.keepsOff (Z.all σ ++ frs Out) Mu Mu' → UpTo (frs Out) Mu Mu' → Qv v s') :
    wpAny C.M A (call (.ref f) (.ref Z.s :: vs)) Qv E s := by
  have hlz : env.locals ∉ Z.all σ := fun h => by
    obtain ⟨o, e, _⟩ := S.obj h
    exact (F.mu _ _ e).2.2.1 F.ew.locW
  refine noE (hc A (env :: Out) s R vs rm hfr (F.live hf Lv) F.ro hvs (S.on fun a o _ e => (F.mu a o e).1) (fun a ha => let ⟨o, e, _⟩ := S.obj ha; (F.mu a o e).2.1) fun a ha => ?_) fun v s' q => ?_
  · rw [frs_cons hf] at ha
    rcases List.mem_cons.mp ha with rfl | ha
    · exact ⟨F.ew.offR _ F.ew.locW, hlz⟩
    · obtain ⟨o, e, _⟩ := Lv.obj ha
      exact ⟨(F.mu _ _ e).2.1, dis a ha⟩
  obtain ⟨Z', σ', d, hP, p⟩ := q
  have pk := p.keep
  have pf := p.fr
  rw [frs_cons hf] at pk pf
  have reg : R.le ((R.ext s.heap s'.heap).minus (Z'.all σ')) := fun a o e => by
    refine Reg.minus_some (fun h => ?_) (Reg.ext_le F.ro.on a o e)
    rcases p.new a h with q | q
    · obtain ⟨o', e', _⟩ := S.obj q
      rw [(F.mu a o' e').2.1] at e; (have q_ := oNS e; clear e; exact q_.elim)
    · have := F.ro.on a o e; rw [q] at this; (have q_ := oNS this; clear this; exact q_.elim)
  have disj : ∀ a ∈ frs Out, a ∉ Z'.all σ' := fun a ha h => by
    rcases p.new a h with q | q
    · exact dis a ha q
    · obtain ⟨o, e, _⟩ := Lv.obj ha
      rw [(F.mu _ _ e).1] at q; (have q_ := oSN q; clear q; exact q_.elim)
  have F' : Fra C s₀ R₀ V sc env W s' ((R.ext s.heap s'.heap).minus (Z'.all σ')) (fun a => if a ∈ frs Out ++ Z'.all σ' then s'.heap.get? a else Mu a) Δ := by
    refine F.deep (X := frs Out ++ Z.all σ) pk (fun a ha o e => pf a (List.mem_cons.mpr (.inl (List.mem_singleton.mp ha))) o e) (fun a ha => ?_) (fun a ha => ?_) reg Reg.minus_le fun a o e => ?_
    · rcases List.mem_append.mp ha with h | h
      · exact Lv.obj h
      · exact S.obj h
    · rcases List.mem_append.mp ha with h | h
      · obtain ⟨o, e, _⟩ := Lv.obj h
        obtain ⟨sl, e'⟩ := pf a (List.mem_cons_of_mem _ h) o (F.mu _ _ e).1
        exact ⟨_, e'⟩
      · obtain ⟨o, e, _⟩ := p.at'.obj (p.old a h); exact ⟨o, e⟩
    · by_cases ha : a ∈ frs Out ++ Z'.all σ'
      · simp only [ha, if_true] at e
        rcases List.mem_append.mp ha with h | h
        · obtain ⟨o', e', _⟩ := Lv.obj h
          refine ⟨e, ?_, .inl ⟨o', e'⟩⟩
          cases q : ((R.ext s.heap s'.heap).minus (Z'.all σ')) a with
          | none => rfl
          | some o'' =>
            have := Reg.minus_le a o'' q
            rw [ext_off (F.mu _ _ e').1 (F.mu _ _ e').2.1] at this; (have q_ := oNS this; clear this; exact q_.elim)
        · refine ⟨e, Reg.minus_off h, ?_⟩
          rcases p.new a h with q | q
          · obtain ⟨o', e', _⟩ := S.obj q; exact .inl ⟨o', e'⟩
          · exact .inr q
      · simp only [ha, if_false] at e
        have ha1 : a ∉ frs Out := fun h => ha (List.mem_append_left _ h)
        have ha2 : a ∉ Z'.all σ' := fun h => ha (List.mem_append_right _ h)
        obtain ⟨h1, h2, h3, h4⟩ := F.mu a o e
        have hz : a ∉ Z.all σ := fun h => ha2 (p.old a h)
        refine ⟨pk.get (fun h => ?_) h1, ?_, .inl ⟨o, e⟩⟩
        · rcases List.mem_cons.mp h with h | h
          · exact h3 (h ▸ F.ew.locW)
          · rcases List.mem_append.mp h with h | h
            · exact ha1 h
            · exact hz h
        · cases q : ((R.ext s.heap s'.heap).minus (Z'.all σ')) a with
          | none => rfl
          | some o' =>
            have := Reg.minus_le a o' q
            rw [ext_off h1 h2] at this; (have q_ := oNS this; clear this; exact q_.elim)
  refine h v s' _ _ Z' σ' d hP p.self reg p.val F' (p.at'.on fun a o ha e => by simp only [List.mem_append_right (frs Out) ha, if_true]; exact e) p.new p.old (fun a o ha e => ?_) fun a ha o e => ?_
  · have hn : a ∉ frs Out ++ Z'.all σ' := fun h => by
      rcases List.mem_append.mp h with h | h
      · exact ha (List.mem_append_right _ h)
      · rcases p.new a h with q | q
        · exact ha (List.mem_append_left _ q)
        · rw [(F.mu a o e).1] at q; (have q_ := oSN q; clear q; exact q_.elim)
    simp only [hn, if_false]; exact e
  · obtain ⟨sl, e'⟩ := pf a (List.mem_cons_of_mem _ ha) o (F.mu _ _ e).1
    exact ⟨sl, by simp only [List.mem_append_left (Z'.all σ') ha, if_true]; exact e'⟩
/- x.m(), a method that changes the sorter x and marks the frames -/
theorem Fra.fmeth0 {Out : List Env} {o : Expr} {ap pos : Pos} {P : Srt → Sd → Dat → Prop} {Qv : Value → Shared → Prop} (F : Fra C s₀ R₀ V sc env W s R Mu Δ) (rm : Room n A) (B : Base C K) (O : MethA K cT name f) (hfr : A.frames = some (env :: Out)) (hf : env.frame = some env.locals) (Lv : Live Out Mu) (dis : ∀ a ∈ frs Out, a ∉ Z.all σ) (S : SAt C cT cN Mu Z σ) (hd : Mu Z.d = some od) (hl : lookIn name od = some none)
    (ho : Ev (C.at Mu) n sc Δ o (.val (.ref Z.s))) (hc : FCall C cT cN n f [] Z σ P)
    (h : ∀ v s' R' Mu' Z' σ' d, P Z' σ' d → Z'.s = Z.s → R.le R' → Rd R' v d → Fra C s₀ R₀ V sc env W s' R' Mu' Δ → SAt C cT cN Mu' Z' σ' → (∀ a ∈ Z'.all σ', a ∈ Z.all σ ∨ s.heap.get? a = none) → (∀ a ∈ Z.all σ, a ∈ Z'.all σ') → Reg.keepsOff (Z.all σ ++ frs Out) Mu Mu' → UpTo (frs Out) Mu Mu' → Qv v s')
    {pl : Sem Bool} (hm : eval (.Call (.Attribute o name ap) [] [] pos) env = (do
      let ov ← eval o env
      standAt ap.atName
      let (f, first) ← holding [ov] (getMethod ov name pl)
      callWith pos f first (backTo pos (starEach [] env)) (backToKw pos (keywordEach [] env))) := by rfl) :
    wpAny C.M A (eval (.Call (.Attribute o name ap) [] [] pos) env) Qv E s := by
  refine meth_run0 B O F rm ho S.s hd hl (fun s₁ R₁ l₁ k₁ F₁ => ?_) (pl := pl) hm
  refine F₁.fcall rm hfr hf Lv dis S hc .nil fun v s' R' Mu' Z' σ' d hP hs l hv F' S' hn ho hk hu => h v s' R' Mu' Z' σ' d hP hs (l₁.trans l) hv F' S' (fun a ha => ?_) ho hk hu
  rcases hn a ha with q | q
  · exact .inl q
  · right
    cases z : s.heap.get? a with
    | none => rfl
    | some o => rw [Keeps.hle k₁ _ _ z] at q; (have q_ := oSN q; clear q; exact q_.elim)
end
end Mine
end
noncomputable section
open PySem PySem.W PyProof.Rows PySem.SeqAt PySem.MeetsSeq
set_option Elab.async false
set_option autoImplicit false
set_option maxRecDepth 100000
namespace Mine
section
variable {M : Model} {A : Around} {E : Value → Shared → Prop} {s : Shared}
theorem callWith_wrap0 {pos : Pos} {env : Env} {q I : Addr} {Q : Value → Shared → Prop} (ho : s.heap.get? q = some (wrapObj I)) (h : wpAny M A (call (.ref q) []) Q E s) :
    wpAny M A (callWith pos (.ref q) [] (backTo pos (starEach [] env)) []) Q E s := by
  show wpAny M A (callWith pos (.ref q) [] [] []) Q E s
  unfold callWith
  refine wpAny_bind (wpAny_holding (PyProof.Rows.evalArgs_none (wpAny_bind (wpAny_standAt ?_))))
  simp only [List.any_nil, Bool.or_false]
  refine wpAny_bind (m := keeperOf (.ref q)) ?_
  unfold keeperOf
  refine wpAny_bind (wpAny_load ho ?_)
  dsimp only
  rw [if_pos (by decide)]
  refine wpAny_pure ?_
  exact wpAny_bind (wpAny_mono (by simpa using h) (fun r s₂ hr => wpAny_bind (wpAny_holding (wpAny_point (wpAny_pure hr)))) fun _ _ x => x)
end
section
variable {C : Cx} {s₀ : Shared} {R₀ : Reg} {V : List Addr} {sc : Scope} {env : Env} {W : List Addr} {s s' : Shared} {R R' Mu Mu' : Reg} {Δ Δ' : Vars} {n : Nat} {A : Around} {E : Value → Shared → Prop} {Q : Flow → Shared → Prop}
theorem fn_callF {a : Addr} {fd : FuncData} {xs : List Str} {body : List Stmt} {vs : List Value} {ds : List Dat} {Rs : Result → Shared → Prop} (f : FnC C a fd xs body) (rm : Room (n + 1) A) (ro : Rok (C.at noM) R s.heap) (hb : Bnd C fd vs xs ds R s) (hl : xs.length = ds.length)
    (h : ∀ env W s' R', env.scope = fd.scope → env.frame = some env.locals → Room n (A.deeper env) → Fra C s R [] fd.scope env W s' R' noM (updAll noV xs ds) → wpAny C.M (A.deeper env) (execs body env) (fun fl s₂ => Rs (.ok (.ret (match fl with | .ret v => v | _ => .none))) s₂)
      (fun e s' => wpAny C.M (A.deeper env) (leaving env e) (fun _ s'' => Rs (.error e) s'') (fun e' s'' => Rs (.error e') s'') s') s') :
    codeAny C.M A (.call (.ref a) ⟨vs, []⟩) Rs s := by
  obtain ⟨o, ho, hd⟩ := f.at'
  have k0 := ro.hle0
  refine codeAny_call_function rm.lt (k0 _ _ ho) hd f.co f.gen f.body' (f.code.keeps k0) ?_
  refine noE (hb _) fun b s₁ p => ?_
  obtain ⟨k, us, rfl, hr⟩ := p
  rw [f.glob, f.clo, f.bui]
  have r₁ := ro.ext (Keeps.hle k)
  refine fn_frame r₁ f.kind f.uniq CloOk.none hr hl f.par fun env W s' e1 e2 e3 e4 F => ⟨?_, ?_⟩
  · exact f.nolimit.keeps F.ro.hle0
  · exact codeAny_func (h env W s' _ e1 e2 rm.deeper (F.back k ro.on))
theorem fcall_fn {cT cN a : Addr} {fd : FuncData} {xs : List Str} {body : List Stmt} {ds es : List Dat} {Z : Srt} {σ : Sd} {P : Srt → Sd → Dat → Prop} (f : FnC C a fd xs body) (hl : xs.length = es.length)
    (hb : ∀ R s vs, R.on s.heap → Rok (C.at noM) R s.heap → RdAll R vs ds → Bnd C fd (.ref Z.s :: vs) xs es R s)
    (h : ∀ A Out env W s₀ s R R₁ Mu, env.scope = fd.scope → env.frame = some env.locals → A.frames = some (env :: Out) → Live Out Mu → (∀ a ∈ frs Out, a ∉ Z.all σ) → Room n A → Fra C s₀ R (frs Out ++ Z.all σ) fd.scope env W s R₁ Mu (updAll noV xs es) → SAt C cT cN Mu Z σ →
      wpAny C.M A (execs body env) (fun fl s₂ => ∃ R₂ Mu₂ Δ₂ Z' σ' d, Fra C s₀ R (frs Out ++ Z.all σ) fd.scope env W s₂ R₂ Mu₂ Δ₂ ∧ UpTo (frs Out) Mu Mu₂ ∧ SAt C cT cN Mu₂ Z' σ' ∧ P Z' σ' d ∧ Z'.s = Z.s ∧ (∀ a ∈ Z'.all σ', a ∈ Z.all σ ∨ s₀.heap.get? a = none) ∧ (∀ a ∈ Z.all σ, a ∈ Z'.all σ') ∧ Rd R₂ (match (motive := Flow → Value) fl with | .ret v => v | _ => .none) d) NoE s) :
    FCall C cT cN (n + 1) a ds Z σ P := by
  intro A Out s R vs rm hfr Lv ro hr S hR hO
  refine wpAny_call (fn_callF f rm ro (hb R s vs ro.on ro hr) hl fun env W s' R' e ef rm' F => ?_)
  have hVo : ∀ a ∈ frs Out ++ Z.all σ, ∃ o, s.heap.get? a = some o := fun a ha => by
    rcases List.mem_append.mp ha with q | q
    · obtain ⟨o, e, _⟩ := Lv.obj q; exact ⟨o, e⟩
    · obtain ⟨o, e, _⟩ := S.obj q; exact ⟨o, e⟩
  have F' : Fra C s R (frs Out ++ Z.all σ) fd.scope env W s' R' (fun a => if a ∈ frs Out ++ Z.all σ then s.heap.get? a else none) (updAll noV xs es) := F.lent (fun a ha => by
    cases q : R' a with
    | none => rfl
    | some o =>
      rcases F.sub a o q with h | h
      · rcases List.mem_append.mp ha with q | q
        · rw [(hO a q).1] at h; (have q_ := oNS h; clear h; exact q_.elim)
        · rw [hR a q] at h; (have q_ := oNS h; clear h; exact q_.elim)
      · obtain ⟨o', e'⟩ := hVo a ha; rw [e'] at h; (have q_ := oSN h; clear h; exact q_.elim)) hVo
  have U0 : UpTo (frs Out) s.heap.get? (fun a => if a ∈ frs Out ++ Z.all σ then s.heap.get? a else none) := .of fun a ha o e => by simp only [List.mem_append_left (Z.all σ) ha, if_true]; exact e
  refine noE (h _ Out env W s s' R R' _ e ef (Around.frames_deeper hfr) (Lv.up U0) (fun a ha => (hO a ha).2) rm' F' (S.on fun a o ha e => by simp only [List.mem_append_right (frs Out) ha, if_true]; exact e)) fun fl s₂ p => ?_
  obtain ⟨R₂, Mu₂, Δ₂, Z', σ', d, F₂, U, S₂, hP, hs, hn, ho, hv⟩ := p
  refine ⟨Z', σ', d, hP, hs, F₂.keep, fun a ha o e => ?_, S₂.on fun a o _ e => (F₂.mu a o e).1, hn, ho, hv.mono fun b ob e => ?_⟩
  · obtain ⟨sl, q⟩ := (U0.trans U) a ha o e
    exact ⟨sl, (F₂.mu _ _ q).1⟩
  refine Reg.minus_some (fun hb => ?_) ?_
  · obtain ⟨o', e', _⟩ := S₂.obj hb
    rw [(F₂.mu b o' e').2.1] at e; (have q_ := oNS e; clear e; exact q_.elim)
  · have on := F₂.ro.on b ob e
    rcases F₂.sub b ob e with q | q
    · simp only [Reg.ext, ro.on b ob q]; exact q
    · simp only [Reg.ext, q]; exact on
/- while with else -/
theorem st_whileE {test : Expr} {body orelse rest : List Stmt} {p : Pos} (I : Nat → Shared → Prop) (k : Nat) (h0 : I k s)
    (turn : ∀ k s', I k s' → wpAny C.M A (isTrue test env (eval test env)) (fun b s₁ => if b then wpAny C.M A (execs body env) (fun f s₂ => match f with
        | .next | .cont => ∃ m, m < k ∧ I m s₂
        | .brk => wpAny C.M A (execs rest env) Q E s₂
        | .ret v => Q (.ret v) s₂) NoE s₁ else wpAny C.M A (execs orelse env) (fun f s₂ => match f with | .next => wpAny C.M A (execs rest env) Q E s₂ | f => Q f s₂) NoE s₁) NoE s') :
    wpAny C.M A (execs (.While test body orelse p :: rest) env) Q E s := by
  refine wpAny_execs_cons (wpAny_While (codeAny_whileLoop I (fun m s' hI => ?_) k h0))
  refine noE (turn m s' hI) fun b s₁ h₁ => ?_
  cases b with
  | true =>
    simp only [if_true] at h₁ ⊢
    refine noE h₁ fun f s₂ h₂ => ?_
    cases f <;> exact h₂
  | false =>
    simp only [Bool.false_eq_true, if_false] at h₁ ⊢
    exact noE h₁ fun f s₂ h₂ => h₂
/-! new mutable objects -/
theorem st_list_new {x : Str} {p lp q : Pos} {rest : List Stmt} (F : Fra C s₀ R₀ V sc env W s R Mu Δ)
    (k : ∀ s' R' l, R.le R' → s.heap.get? l = none → s.heap.objs.size ≤ l → Fra C s₀ R₀ V sc env W s' R' (Mu.set l (lstObj [] 0)) (upd Δ x (.val (.ref l))) → wpAny C.M A (execs rest env) Q E s')
    (hs : swapsWith (.List [] lp) (some (.Name x p)) q.line env = pure false := by rfl) (hx : sc.names.lookup x = some .local ∨ sc.names.lookup x = some .cell := by first | exact Or.inl rfl | exact Or.inr rfl) :
    wpAny C.M A (execs (.Assign [.Name x p] (.List [] lp) q :: rest) env) Q E s := by
  refine wpAny_execs_cons (wpAny_Assign_Name (wpAny_List (wpAny_items_nil ⟨by simp, ?_⟩)) hs)
  obtain ⟨R₁, l₁, _, F₁⟩ := F.made (lstObj [] 0) rfl
  exact F₁.store (.val _) (fun s' _ F' => k s' _ _ l₁ fresh_none (Nat.le_refl _) F') hx
theorem st_dict_new {x : Str} {p lp q : Pos} {rest : List Stmt} (F : Fra C s₀ R₀ V sc env W s R Mu Δ)
    (k : ∀ s' R' l, R.le R' → s.heap.get? l = none → s.heap.objs.size ≤ l → Fra C s₀ R₀ V sc env W s' R' (Mu.set l emptyDict) (upd Δ x (.val (.ref l))) → wpAny C.M A (execs rest env) Q E s')
    (hs : swapsWith (.Dict [] [] lp) (some (.Name x p)) q.line env = pure false := by rfl) (hx : sc.names.lookup x = some .local ∨ sc.names.lookup x = some .cell := by first | exact Or.inl rfl | exact Or.inr rfl) :
    wpAny C.M A (execs (.Assign [.Name x p] (.Dict [] [] lp) q :: rest) env) Q E s := by
  refine wpAny_execs_cons (wpAny_Assign_Name (wpAny_Dict_empty ?_) hs)
  obtain ⟨R₁, l₁, _, F₁⟩ := F.made emptyDict rfl
  exact F₁.store (.val _) (fun s' _ F' => k s' _ _ l₁ fresh_none (Nat.le_refl _) F') hx
theorem st_set_new {x f : Str} {p fp cp q : Pos} {rest : List Stmt} (F : Fra C s₀ R₀ V sc env W s R Mu Δ) (rm : Room n A) (hf : Ev (C.at Mu) n sc Δ (.Name f fp) (.val (.type "set")))
    (k : ∀ s' R' l o, R.le R' → s.heap.get? l = none → o.SetObjOf (iK C) (fun _ => false) 0 → Fra C s₀ R₀ V sc env W s' R' (Mu.set l o) (upd Δ x (.val (.ref l))) → wpAny C.M A (execs rest env) Q E s')
    (hs : swapsWith (.Call (.Name f fp) [] [] cp) (some (.Name x p)) q.line env = pure false := by rfl) (hx : sc.names.lookup x = some .local ∨ sc.names.lookup x = some .cell := by first | exact Or.inl rfl | exact Or.inr rfl) :
    wpAny C.M A (execs (.Assign [.Name x p] (.Call (.Name f fp) [] [] cp) q :: rest) env) Q E s := by
  refine wpAny_execs_cons (wpAny_Assign_Name (Call_ (F.ev rm hf fun fv s₁ R₁ l₁ k₁ hv F₁ => ?_)) hs)
  (have q_ := Rd.valE hv; clear hv; subst q_)
  refine callWith_type0 (call_set_0 fun led => ?_)
  obtain ⟨R₂, l₂, _, F₂⟩ := F₁.made { cls := .type "set", dict := none, data := .set #[] 0 (.fresh 0 0 led) } rfl
  refine F₂.store (.val _) (fun s' _ F' => k s' _ _ _ (l₁.trans l₂) ?_ (setObjOf_fresh led) F') hx
  cases z : s.heap.get? s₁.heap.objs.size with
  | none => rfl
  | some o => have := Keeps.hle k₁ _ _ z; rw [fresh_none] at this; (have q_ := oNS this; clear this; exact q_.elim)
/-! questions -/
theorem op_in_set {D : Addr} {od : Obj} {S : Int → Bool} {m : Nat} {k : Int} (hD : C.mu D = some od) (hk : od.SetObjOf (iK C) S m) (hm : m < scanBound) : Op2 C n (compareOp .In) (.int k) (.val (.ref D)) (.bool (S k)) := by
  intro A s R v₁ v₂ rm ro h₁ h₂
  (have q_ := Rd.intE h₁; clear h₁; obtain ⟨_, rfl⟩ := q_); (have q_ := Rd.valE h₂; clear h₂; subst q_)
  exact wpAny_inSet_of (knd := iK C) (intKind_is _ _ _ _) rfl (hk.setOf (ro.mu _ _ hD) hm) ⟨Keeps.toks _ _, .bool _⟩
theorem op_in_dict {D : Addr} {od : Obj} {kvs : List (Int × Value)} {k : Int} (hD : C.mu D = some od) (hk : od.IsDictOf (iK C) kvs) (hds : (D == sysModules) = false) : Op2 C n (compareOp .In) (.int k) (.val (.ref D)) (.bool (valueAt kvs k).isSome) := by
  intro A s R v₁ v₂ rm ro h₁ h₂
  (have q_ := Rd.intE h₁; clear h₁; obtain ⟨_, rfl⟩ := q_); (have q_ := Rd.valE h₂; clear h₂; subst q_)
  exact wpAny_in_of (knd := iK C) (intKind_is _ _ _ _) hds (dictAt_of (C := C) (ro.mu _ _ hD) hk).mapOf ⟨Keeps.toks _ _, .bool _⟩
theorem evT_mul {e : Expr} {l : Addr} {vs : List Value} {m : Nat} (he : Ev C n sc Δ e (.val (.ref l))) (hl : C.mu l = some (lstObj vs m)) (hz : vs.length ≤ sizeLine)
    (hi : ∀ env whole, isTrue e env whole = (do let v ← whole; standAt e.pos; holding [v] (truthy v)) := by intro _ _; rfl) : EvT C n sc Δ e (!vs.isEmpty) := by
  refine evT_plain he (fun A s R v rm ro hv => ?_) hi
  (have q_ := Rd.valE hv; clear hv; subst q_)
  refine wpAny_truthy_list (items := vs.toArray) ⟨_, ro.mu _ _ hl, rfl, m, rfl⟩ (by rw [sizeLine_val] at hz; simp; omega) ⟨Keeps.toks _ _, ?_⟩
  simp
theorem call_len_mul {l : Addr} {vs : List Value} {m : Nat} {x : Str} {np p : Pos} {e : Expr} (hf : Ev C n sc Δ (.Name x np) (.val (.builtin "len"))) (he : Ev C n sc Δ e (.val (.ref l))) (hl : C.mu l = some (lstObj vs m)) (hz : vs.length ≤ sizeLine)
    (hs : ∀ env, starEach [e] env = [(false, eval e env)] := by intro _; rfl) : Ev C n sc Δ (.Call (.Name x np) [e] [] p) (.int vs.length) := by
  intro A env s R rm ro eo
  refine Call_ (noE (hf A env s R rm ro eo) fun f s₁ p₁ => ?_)
  have hf' := p₁.2
  (have q_ := Rd.valE hf'; clear hf'; subst q_)
  have k₁ := Keeps.hle p₁.1
  refine callWith_method1 (first := []) (wpAny_items_cons (noE (he A env s₁ _ rm (ro.ext k₁) (eo.ext ro k₁)) fun v s₂ p₂ => wpAny_items_nil ?_) (hs env)) (hs env) rfl
  have hv := p₂.2
  (have q_ := Rd.valE hv; clear hv; subst q_)
  have r₂ := (ro.ext k₁).ext (Keeps.hle p₂.1)
  have hL : s₂.heap.IsList l vs.toArray := ⟨_, r₂.mu _ _ hl, rfl, m, rfl⟩
  refine Calls.call_len_list hL (by rw [sizeLine_val] at hz; simp; omega) ?_
  refine ⟨Keeps.tr (Keeps.tr p₁.1 p₂.1) (Keeps.toks s₂ _), ?_⟩
  simp only [List.size_toArray]
  exact .int _ _
end
end Mine
end
noncomputable section
open PySem PySem.W PyProof.Rows PySem.SeqAt PySem.MeetsSeq
set_option Elab.async false
set_option autoImplicit false
set_option maxRecDepth 100000
namespace Mine
theorem stop_exc : isSubtype (.type "StopIteration") (.type "BaseException") = pure true := by rw [isSubtype_type]; kernel_rfl
theorem stop_self : isSubtype (.type "StopIteration") (.type "StopIteration") = pure true := by rw [isSubtype_type]; kernel_rfl
theorem stop_nt : isSubtype (.type ((Manifest.find? "StopIteration").elim "type" fun x => x.metatype)) (.type "tuple") = pure false := by rw [isSubtype_type]; kernel_rfl
noncomputable def ItAt (o : Obj) (l : Addr) (i : Nat) : Prop := o.cls = .type "list_iterator" ∧ o.data = .fields #[.ref l, .int i 0]
section
variable {C : Cx} {s₀ : Shared} {R₀ : Reg} {V : List Addr} {sc : Scope} {env : Env} {W : List Addr} {s s' : Shared} {R R' Mu Mu' : Reg} {Δ Δ' : Vars} {n : Nat} {A : Around} {E : Value → Shared → Prop} {Q : Flow → Shared → Prop}
/- seen.add(e) -/
theorem mset_add {o e : Expr} {ap pos : Pos} {l : Addr} {od : Obj} {S : Int → Bool} {m : Nat} {k : Int} {Qv : Value → Shared → Prop} (F : Fra C s₀ R₀ V sc env W s R Mu Δ) (rm : Room n A) (ho : Ev (C.at Mu) n sc Δ o (.val (.ref l))) (he : Ev (C.at Mu) n sc Δ e (.int k)) (hl : Mu l = some od) (hk : od.SetObjOf (iK C) S m) (hz : m + 1 < scanBound)
    (h : ∀ s₁ R₁ od', R.le R₁ → od'.SetObjOf (iK C) (fun j => S j || decide (j = k)) (if S k then m else m + 1) → Fra C s₀ R₀ V sc env W s₁ R₁ (Mu.set l od') Δ → Qv .none s₁)
    (hline : (ap.endLine == pos.line) = true := by rfl) (hbase : attributeBase o (Str.ofString "add") env (eval o env) = eval o env := by rfl) (hs : starEach [e] env = [(false, eval e env)] := by rfl) :
    wpAny C.M A (eval (.Call (.Attribute o (Str.ofString "add") ap) [e] [] pos) env) Qv E s := by
  refine wpAny_Call_method1_late hbase hline (by rw [hs]; rfl) (noE (ho A env s R rm F.rom F.eo) fun ov s₁ p₁ => ?_)
  have h1 := p₁.2
  (have q_ := Rd.valE h1; clear h1; subst q_)
  have F₁ := F.ext p₁.1
  have hS₁ : s₁.heap.SetOf (iK C) l S m := hk.setOf (F₁.rom.mu _ _ hl) (by omega)
  refine ⟨"set", "set.add", PySem.F.plainAttrs_set, PySem.F.slot_set_add, PySem.F.type_set_add, hS₁.typeIs, hS₁.noDict, ?_⟩
  have he' : backTo pos (starEach [e] env) = [(false, eval e env)] := by rw [hs]; rfl
  rw [← he']
  refine callWith_method1 (wpAny_items_cons (noE (he A env s₁ _ rm F₁.rom F₁.eo) fun v s₂ p₂ => wpAny_items_nil ?_) hs) hs rfl
  have F₂ := F₁.ext p₂.1
  have h2 := p₂.2
  (have q_ := Rd.intE h2; clear h2; obtain ⟨_, rfl⟩ := q_)
  refine call_set_add (knd := iK C) (intKind_is _ _ _ _) rfl (hk.setOf (F₂.rom.mu _ _ hl) (by omega)) hz fun h' hsb hS' => ?_
  obtain ⟨od', hod', hk'⟩ := hS'.objOf
  refine h _ _ od' ((Reg.ext_le F.ro.on).trans (Reg.ext_le F₁.ro.on)) hk' (F₂.mut hl (fun v q => ?_) hsb hod')
  obtain ⟨es, ep, t, hc, hd, _⟩ := id hk
  rw [hd] at q; cases q
/- d[k] = e -/
theorem st_dset {o i e : Expr} {sp pos : Pos} {D : Addr} {od : Obj} {kvs : List (Int × Value)} {k : Int} {d : Dat} {rest : List Stmt} (F : Fra C s₀ R₀ V sc env W s R Mu Δ) (rm : Room n A) (ho : Ev (C.at Mu) n sc Δ o (.val (.ref D))) (hi : Ev (C.at Mu) n sc Δ i (.int k)) (he : Ev (C.at Mu) n sc Δ e d) (hD : Mu D = some od) (hk : od.IsDictOf (iK C) kvs) (hz : kvs.length ≤ sizeLine)
    (h : ∀ s₁ R₁ v od', R.le R₁ → Rd R₁ v d → od'.IsDictOf (iK C) (stored kvs k v) → Fra C s₀ R₀ V sc env W s₁ R₁ (Mu.set D od') Δ → wpAny C.M A (execs rest env) Q E s₁)
    (hs : swapsWith e (some (.Subscript o i sp)) pos.line env = pure false := by rfl) :
    wpAny C.M A (execs (.Assign [.Subscript o i sp] e pos :: rest) env) Q E s := by
  refine wpAny_execs_cons (wpAny_Assign_Subscript (F.ev rm he fun v s₁ R₁ l₁ k₁ hv F₁ => F₁.ev rm ho fun ov s₂ R₂ l₂ k₂ hov F₂ => F₂.ev rm hi fun iv s₃ R₃ l₃ k₃ hiv F₃ => ?_) hs)
  (have q_ := Rd.valE hov; clear hov; subst q_)
  (have q_ := Rd.intE hiv; clear hiv; obtain ⟨_, rfl⟩ := q_)
  refine wpAny_setItem_pairs (knd := iK C) (intKind_is _ _ _ _) (dictAt_of (C := C) (F₃.rom.mu _ _ hD) hk) (fun h' hdict hsb => ?_) hz
  obtain ⟨od', hD', hdo'⟩ := Heap.dictOf_iff.mp hdict
  exact h _ R₃ v od' (l₁.trans (l₂.trans l₃)) (hv.mono (l₂.trans l₃)) hdo' (F₃.mut (tk := s₃.toks + 1) hD (fun v q => by obtain ⟨es, ep, _, hde, _⟩ := hk; rw [hde] at q; cases q) hsb hD')
/- iter(l).__next__ -/
theorem Fra.nextOf {f : Str} {fp cp ap : Pos} {e : Expr} {l : Addr} {vs : List Value} {m : Nat} {Qv : Value → Shared → Prop} (F : Fra C s₀ R₀ V sc env W s R Mu Δ) (rm : Room n A) (hf : Ev (C.at Mu) n sc Δ (.Name f fp) (.val (.builtin "iter"))) (he : Ev (C.at Mu) n sc Δ e (.val (.ref l))) (hl : Mu l = some (lstObj vs m))
    (h : ∀ s₁ R₁ I q oI, R.le R₁ → s.heap.get? I = none → ItAt oI l 0 → R₁ q = some (wrapObj I) → Fra C s₀ R₀ V sc env W s₁ R₁ (Mu.set I oI) Δ → Qv (.ref q) s₁)
    (hs : starEach [e] env = [(false, eval e env)] := by rfl)
    (hev : eval (.Attribute (.Call (.Name f fp) [e] [] cp) (Str.ofString "__next__") ap) env = (do
      let o ← eval (.Call (.Name f fp) [e] [] cp) env
      standAt ap.atName
      let r ← holding [o] (getAttr o (Str.ofString "__next__") true)
      letTemporaryGo (.Call (.Name f fp) [e] [] cp) o r
      pure r) := by with_unfolding_all rfl) :
    wpAny C.M A (eval (.Attribute (.Call (.Name f fp) [e] [] cp) (Str.ofString "__next__") ap) env) Qv E s := by
  refine Attribute_any_ (Call_ (F.ev rm hf fun fv s₁ R₁ l₁ k₁ hfv F₁ => ?_)) hev
  (have q_ := Rd.valE hfv; clear hfv; subst q_)
  refine callWith_method1 (first := []) (wpAny_items_cons (F₁.ev rm he fun v s₂ R₂ l₂ k₂ hv F₂ => wpAny_items_nil ?_) hs) hs rfl
  (have q_ := Rd.valE hv; clear hv; subst q_)
  have hL : s₂.heap.IsList l vs.toArray := ⟨_, F₂.rom.mu _ _ hl, rfl, m, rfl⟩
  refine Calls.call_function_entry (by decide +kernel) (by decide +kernel) kdk_entry_iter (kdk_args_iter _) ?_
  unfold Builtin.«iter»
  refine wpAny_bind (m := someArgs "iter" 1 2 _) (wpAny_of_eq (a := [Value.ref l]) (by first | rfl | kernel_rfl!) ?_)
  show wpAny _ _ (pyIter (.ref l) >>= _) _ _ _
  refine wpAny_bind (wpAny_pyIter_list hL (wpAny_pure ⟨_, rfl, ?_⟩))
  obtain ⟨R₃, l₃, _, F₃⟩ := F₂.made { cls := .type "list_iterator", data := .fields #[.ref l, .int 0 0] } rfl
  have hI := (F₃.mu _ _ (Reg.set_self _ _ _)).1
  refine getAttr_next hI rfl rfl ⟨_, rfl⟩ ?_
  have kq : Keeps { s₂ with heap := s₂.heap.push { cls := .type "list_iterator", data := .fields #[.ref l, .int 0 0] } } { s₂ with heap := (s₂.heap.push { cls := .type "list_iterator", data := .fields #[.ref l, .int 0 0] }).push (wrapObj s₂.heap.objs.size), toks := s₂.toks + 1 } := ⟨_, s₂.toks + 1, rfl, fun _ _ e => Heap.get?_push_of_some _ e⟩
  refine h _ _ s₂.heap.objs.size _ _ (l₁.trans (l₂.trans (l₃.trans (Reg.ext_le F₃.ro.on)))) ?_ ⟨rfl, rfl⟩ (Reg.new_ext fresh_none (Heap.get?_push_size _ rfl)) (F₃.ext kq)
  cases z : s.heap.get? s₂.heap.objs.size with
  | none => rfl
  | some o => have := Keeps.hle (Keeps.tr k₁ k₂) _ _ z; rw [fresh_none] at this; (have q_ := oNS this; clear this; exact q_.elim)
/- l[-1] of a mutable list -/
theorem op_last {v i : Expr} {l : Addr} {vs : List Value} {x : Value} {m : Nat} (hl : C.mu l = some (lstObj (vs ++ [x]) m)) (hz : vs.length < sizeLine)
    (hs : ∀ o u, subscripted i false o (.int (-1) u) = operate [o, .int (-1) u] (getItem o (.int (-1) u)) := by intro _ _; rfl) : Op2 C n (subscriptTail v i) (.val (.ref l)) (.int (-1)) (.val x) := by
  intro A s R v₁ v₂ rm ro h₁ h₂
  (have q_ := Rd.valE h₁; clear h₁; subst q_)
  (have q_ := Rd.intE h₂; clear h₂; obtain ⟨_, rfl⟩ := q_)
  have t : s.heap.IsList l (vs ++ [x]).toArray := ⟨_, ro.mu _ _ hl, rfl, m, rfl⟩
  exact tail_any t.typeIs slot_list_getitem.lookup (wpAny_getItem_list_neg t (by decide) (by simp; omega) (by decide) (by
    have : (-1 + (((vs ++ [x]).toArray.size : Nat) : Int)).toNat = vs.length := by simp only [List.size_toArray, List.length_append, List.length_cons, List.length_nil]; omega
    rw [this]; simp) (Post.pure ro (.val _))) (hs _ _)
/- try: x = it[-1]() / break / except StopIteration: … -/
theorem st_try_next {Out : List Env} {x it f : Str} {xp np cp up sp kp qp bp fp hp tp : Pos} {kk : Nat} {b₀ : Stmt} {suite rest : List Stmt} {l q I lst : Addr} {vs ws : List Value} {m m₂ i : Nat} {oI : Obj} {su : List Nat}
    (F : Fra C s₀ R₀ V sc env W s R Mu Δ) (rm : Room n A) (hfr : A.frames = some (env :: Out)) (hf : env.frame = some env.locals) (Lv : Live Out Mu) (hit : Δ it = some (.val (.ref l))) (hl : Mu l = some (lstObj (vs ++ [.ref q]) m)) (hz : vs.length < sizeLine) (hq : R q = some (wrapObj I)) (hI : Mu I = some oI) (hIt : ItAt oI lst i) (hIo : I ∉ frs Out)
    (hls : Mu lst = some (lstObj ws m₂)) (hws : RdAll noM ws (encN su)) (gs : GlobIs C f (.type "StopIteration")) (hfk : sc.names.lookup f = some .globalImplicit)
    (more : ∀ y, su[i]? = some y → ∀ s' R' o', R.le R' → ItAt o' lst (i + 1) → Fra C s₀ R₀ V sc env W s' R' (Mu.set I o') (upd Δ x (.int y)) → Q .brk s')
    (stop : su[i]? = none → ∀ s' R' Mu' e, R.le R' → Fra C s₀ R₀ V sc env W s' R' Mu' Δ → Reg.keepsOff (I :: frs Out) Mu Mu' → UpTo (frs Out) Mu Mu' → wpAny C.M (A.mark (some (.ref e))) (execs (b₀ :: suite) env) (fun f s₂ => match f with | .next => wpAny C.M A (execs rest env) Q E s₂ | f => Q f s₂) NoE s')
    (hx : sc.names.lookup x = some .local ∨ sc.names.lookup x = some .cell := by first | exact Or.inl rfl | exact Or.inr rfl)
    (hxi : ((it == ("__debug__" : Str)) || (it == ("__classdict__" : Str))) = false := by decide +kernel) (hxf : (f == ("__debug__" : Str)) = false := by decide +kernel)
    (hsw : swapsWith (.Call (.Subscript (.Name it np) (.UnaryOp .USub (.Constant (.int 1) kk kp) up) sp) [] [] cp) (some (.Name x xp)) qp.line env = pure false := by rfl) :
    wpAny C.M A (execs (.Try [.Assign [.Name x xp] (.Call (.Subscript (.Name it np) (.UnaryOp .USub (.Constant (.int 1) kk kp) up) sp) [] [] cp) qp, .Break bp] [.ExceptHandler (some (.Name f fp)) none (b₀ :: suite) hp] [] [] tp :: rest) env) Q E s := by
  refine wpAny_execs_cons (wpAny_Try_except (wpAny_execs_cons (wpAny_Assign_Name (Call_ ?_) hsw)))
  have hsub : Ev (C.at Mu) n sc Δ (.Subscript (.Name it np) (.UnaryOp .USub (.Constant (.int 1) kk kp) up) sp) (.val (.ref q)) := ev_sub (ev_name hit hxi) (ev_un ev_int op_neg) (op_last hl hz)
  refine F.ev rm hsub fun v s₁ R₁ l₁ k₁ hv F₁ => ?_
  (have q_ := Rd.valE hv; clear hv; subst q_)
  have hq₁ := F₁.ro.on _ _ (l₁ _ _ hq)
  have hI₁ := (F₁.mu _ _ hI).1
  have hls₁ := (F₁.mu _ _ hls).1
  have itr : s₁.heap.IsListIter I lst i := ⟨oI, hI₁, hIt.1, hIt.2⟩
  have lsl : s₁.heap.IsList lst ws.toArray := ⟨_, hls₁, rfl, m₂, rfl⟩
  have hlen : ws.length = su.length := by rw [hws.length]; simp [encN]
  refine callWith_wrap0 hq₁ (wpAny_call (call_wrap hq₁ ?_))
  cases hsu : su[i]? with
  | some y =>
    obtain ⟨wv, hw, hwr⟩ := hws.get (k := i) (d := .int (y : Int)) (by simp [encN, hsu])
    have := hwr
    (have q_ := Rd.intE this; clear this; obtain ⟨_, rfl⟩ := q_)
    rename_i tk
    refine next_item itr lsl (x := .int (y : Int) tk) (by simpa using hw) fun h' hit' hsb => ?_
    obtain ⟨o', ho', hc', hd'⟩ := hit'
    have F₂ := F₁.mut (tk := s₁.toks) hI (fun v q => by rw [hIt.2] at q; cases q) hsb ho'
    refine F₂.store (.int _ _) (fun s₃ _ F₃ => ?_) hx
    exact wpAny_execs_cons (wpAny_Break (more y hsu s₃ R₁ o' l₁ ⟨hc', hd'⟩ F₃))
  | none =>
    have hlive := F₁.live hf Lv
    have hIl : I ≠ env.locals := fun h => (F₁.mu _ _ hI).2.2.1 (h ▸ F₁.ew.locW)
    refine next_end rm.handled itr lsl (by simp only [List.getElem?_toArray]; rw [List.getElem?_eq_none_iff] at hsu ⊢; omega) fun h' e T ext hIa he hT heT hstop => ?_
    have kb : ∀ b o, b ≠ I → s₁.heap.get? b = some o → h'.get? b = some o := fun b o hb q => ext b o hb q
    have hlive₂ : Live (env :: Out) h'.get? := hlive.up (.of fun a ha o q => kb a o (fun h => by
      rw [frs_cons hf] at ha
      rcases List.mem_cons.mp ha with ha | ha
      · exact hIl (h ▸ ha)
      · exact hIo (h ▸ ha)) q)
    refine note_first (s := { s₁ with heap := h' }) (outer := Out) hfr hlive₂.fun hf hstop fun h₂ tb mk htb fly => ?_
    have old : ∀ b, (∃ o, s₁.heap.get? b = some o) → b ≠ e ∧ b ≠ tb := fun b ⟨o, q⟩ => by
      refine ⟨(fun h => by rw [h, he] at q; (have q_ := oNS q; clear q; exact q_.elim)), fun h => ?_⟩
      by_cases hb : b = I
      · obtain ⟨o', q'⟩ := hIa
        rw [← h, hb, q'] at htb; (have q_ := oSN htb; clear htb; exact q_.elim)
      · rw [← h, kb b o hb q] at htb; (have q_ := oSN htb; clear htb; exact q_.elim)
    refine land (LS := frs Out) (s := { s₁ with heap := h₂ }) fly fun h₃ sb₃ fly₃ => ?_
    refine wpAny_handleBy_builtin stop_exc stop_nt stop_self (wpAny_Name (gs _ env _ _ _ (F₁.eo.hsc ▸ F₁.eo.fn) (by rw [← F₁.eo.hsc] at hfk; exact hfk) F₁.eo.gl F₁.eo.bl ?_ ⟨rfl, ⟨_, fly₃.1, rfl⟩, ?_⟩) hxf)
    · intro b o q
      have qR := F₁.ro.base b o q
      have q₁ := F₁.ro.on b o qR
      obtain ⟨g1, g2⟩ := old b ⟨o, q₁⟩
      refine sb₃.extBut b o g2 (mk.keep b o (fun h => ?_) g1 (kb b o (fun h => ?_) q₁))
      · change b ∈ frs (env :: Out) at h
        rw [frs_cons hf] at h
        rcases List.mem_cons.mp h with h | h
        · rw [h, F₁.ew.offR _ F₁.ew.locW] at qR; (have q_ := oNS qR; clear qR; exact q_.elim)
        · obtain ⟨o', q', _⟩ := Lv.obj h
          rw [(F₁.mu _ _ q').2.1] at qR; (have q_ := oNS qR; clear qR; exact q_.elim)
      · rw [h, (F₁.mu _ _ hI).2.1] at qR; (have q_ := oNS qR; clear qR; exact q_.elim)
    · rw [if_pos rfl]
      refine land (LS := frs Out) (s := { s₁ with heap := h₃ }) fly₃ fun h₄ sb₄ fly₄ => ?_
      have heL : e ∉ frs (env :: Out) := fun hm => by
        obtain ⟨o, q, _⟩ := hlive.obj hm
        rw [he] at q; (have q_ := oNS q; clear q; exact q_.elim)
      have keep₄ : ∀ b o, b ∉ frs (env :: Out) → b ≠ I → s₁.heap.get? b = some o → h₄.get? b = some o := fun b o hb hbI q => by
        obtain ⟨g1, g2⟩ := old b ⟨o, q⟩
        exact sb₄.extBut b o g2 (sb₃.extBut b o g2 (mk.keep b o hb g1 (kb b o hbI q)))
      have fr₄ : UpTo (frs (env :: Out)) s₁.heap.get? h₄.get? := fun b hb o q => by
        obtain ⟨g1, g2⟩ := old b ⟨o, q⟩
        have hbI : b ≠ I := fun h => by
          rw [frs_cons hf] at hb
          rcases List.mem_cons.mp hb with hb | hb
          · exact hIl (h ▸ hb)
          · exact hIo (h ▸ hb)
        obtain ⟨sl, q2⟩ := mk.fr b o hb (kb b o hbI q)
        exact ⟨sl, sb₄.extBut b _ g2 (sb₃.extBut b _ g2 q2)⟩
      have hI₄ : ∃ o, h₄.get? I = some o := by
        obtain ⟨o, q⟩ := hIa
        have hIL : I ∉ frs (env :: Out) := fun hb => by
          rw [frs_cons hf] at hb
          rcases List.mem_cons.mp hb with hb | hb
          · exact hIl hb
          · exact hIo hb
        obtain ⟨g1, g2⟩ := old I ⟨_, hI₁⟩
        exact ⟨o, sb₄.extBut I o g2 (sb₃.extBut I o g2 (mk.keep I o hIL g1 q))⟩
      rw [frs_cons hf] at keep₄ fr₄
      have F₄ : Fra C s₀ R₀ V sc env W { s₁ with heap := h₄ } (R₁.ext s₁.heap h₄) (fun a => if a ∈ I :: frs Out then h₄.get? a else Mu a) Δ := by
        refine F₁.deep (X := I :: frs Out) ⟨h₄, s₁.toks, rfl, fun b o hb q => keep₄ b o (fun h => hb ?_) (fun h => hb (by simp [h])) q⟩ (fun a ha o q => fr₄ a (by rw [List.mem_singleton.mp ha]; exact List.mem_cons_self) o q) (fun a ha => ?_) (fun a ha => ?_) (Reg.ext_le F₁.ro.on) (.refl _) fun a o q => ?_
        · rcases List.mem_cons.mp h with h | h
          · exact h ▸ List.mem_cons_self
          · exact List.mem_cons_of_mem _ (List.mem_cons_of_mem _ h)
        · rcases List.mem_cons.mp ha with rfl | ha
          · exact ⟨oI, hI, fun v q => by rw [hIt.2] at q; cases q⟩
          · exact Lv.obj ha
        · rcases List.mem_cons.mp ha with rfl | ha
          · exact hI₄
          · obtain ⟨o, q, _⟩ := Lv.obj ha
            obtain ⟨sl, q'⟩ := fr₄ a (List.mem_cons_of_mem _ ha) o (F₁.mu _ _ q).1
            exact ⟨_, q'⟩
        · by_cases ha : a ∈ I :: frs Out
          · simp only [ha, if_true] at q
            have hM : ∃ o', Mu a = some o' := by
              rcases List.mem_cons.mp ha with rfl | ha
              · exact ⟨_, hI⟩
              · obtain ⟨o, q, _⟩ := Lv.obj ha; exact ⟨o, q⟩
            obtain ⟨o', q'⟩ := hM
            exact ⟨q, ext_off (F₁.mu _ _ q').1 (F₁.mu _ _ q').2.1, .inl ⟨o', q'⟩⟩
          · simp only [ha, if_false] at q
            obtain ⟨g1, g2, g3, g4⟩ := F₁.mu _ _ q
            refine ⟨keep₄ a o (fun h => ?_) (fun h => ha (by simp [h])) g1, ext_off g1 g2, .inl ⟨o, q⟩⟩
            rcases List.mem_cons.mp h with h | h
            · exact g3 (h ▸ F₁.ew.locW)
            · exact ha (List.mem_cons_of_mem _ h)
      refine wpAny_mono (stop hsu _ _ _ e (l₁.trans (Reg.ext_le F₁.ro.on)) F₄ (fun a o ha q => by simp only [ha, if_false]; exact q) fun a ha o q => ?_) (fun f s₂ h => ?_) fun _ _ h => h.elim
      · obtain ⟨sl, q'⟩ := fr₄ a (List.mem_cons_of_mem _ ha) o (F₁.mu _ _ q).1
        exact ⟨sl, by simp only [List.mem_cons_of_mem I ha, if_true]; exact q'⟩
      · exact h
end
end Mine
end
noncomputable section
open PySem PySem.W PyProof.Rows PySem.SeqAt PySem.MeetsSeq
set_option Elab.async false
set_option autoImplicit false
set_option maxRecDepth 100000
namespace Mine
section
variable {C : Cx} {s₀ : Shared} {R₀ : Reg} {V : List Addr} {sc : Scope} {env : Env} {W : List Addr} {s s' : Shared} {R R' Mu Mu' : Reg} {Δ Δ' : Vars} {n : Nat} {A : Around} {E : Value → Shared → Prop} {Q : Flow → Shared → Prop}
/- del d[l.pop()], whatever is being handled -/
theorem st_del_pop {d x : Str} {dn np ap cp sp dp : Pos} {D l : Addr} {od : Obj} {kvs : List (Int × Value)} {vs : List Value} {k : Int} {t : Tok} {m : Nat} {rest : List Stmt} (F : Fra C s₀ R₀ V sc env W s R Mu Δ) (hd : Δ d = some (.val (.ref D))) (hx : Δ x = some (.val (.ref l))) (hD : Mu D = some od) (hk : od.IsDictOf (iK C) kvs) (hz : kvs.length ≤ sizeLine) (hv : (valueAt kvs k).isSome = true)
    (hl : Mu l = some (lstObj (vs ++ [.int k t]) m)) (hlz : vs.length < sizeLine) (hne : D ≠ l)
    (h : ∀ s₁ m' od', od'.IsDictOf (iK C) (without kvs k) → Fra C s₀ R₀ V sc env W s₁ R ((Mu.set l (lstObj vs m')).set D od') Δ → wpAny C.M A (execs rest env) Q E s₁)
    (hnd : ((d == ("__debug__" : Str)) || (d == ("__classdict__" : Str))) = false := by decide +kernel) (hnx : ((x == ("__debug__" : Str)) || (x == ("__classdict__" : Str))) = false := by decide +kernel)
    (hline : (ap.endLine == cp.line) = true := by rfl) (hbase : attributeBase (.Name x np) (Str.ofString "pop") env (eval (.Name x np) env) = eval (.Name x np) env := by rfl) :
    wpAny C.M A (execs (.Delete [.Subscript (.Name d dn) (.Call (.Attribute (.Name x np) (Str.ofString "pop") ap) [] [] cp) sp] dp :: rest) env) Q E s := by
  refine wpAny_execs_cons (wpAny_Delete (wpAny_deleteEach_cons ?_))
  rw [arm_delete_Subscript]
  refine wpAny_bind (F.name hd (fun ov hov => ?_) hnd)
  (have q_ := Rd.valE hov; clear hov; subst q_)
  refine wpAny_bind (wpAny_holding (F.pop hx hl hlz (fun s₁ m' kb F₁ => ?_) hnx hline hbase))
  refine wpAny_bind (wpAny_standAt (wpAny_bind (wpAny_holding ?_)))
  have hD₁ : (Mu.set l (lstObj vs m')) D = some od := by rw [Reg.set_ne _ _ hne]; exact hD
  refine delItem_int (C := C) (F₁.rom.mu _ _ hD₁) hk hv hz fun h' od' hsb hod' hk' => ?_
  refine wpAny_release (wpAny_deleteEach_nil (h _ m' od' hk' (F₁.mut (tk := s₁.toks + 1) hD₁ (fun v q => ?_) hsb hod')))
  obtain ⟨es, ep, _, hde, _⟩ := hk; rw [hde] at q; cases q
end
/-! the search for a cycle -/
structure DE where
  k : Nat
  I : Addr
  q : Addr
  i : Nat
structure Ad where
  S : Addr
  I : Addr
  N : Addr
  D : Addr
noncomputable abbrev Ad.l (a : Ad) : List Addr := [a.S, a.I, a.N, a.D]
structure DInv (C : Cx) (Z : Srt) (σ : Sd) (a : Ad) (Out : List Env) (r : Nat → Nat) (Mi R M : Reg) (st : List DE) (sn : List Nat) : Prop where
  sS : ∃ vs m, M a.S = some (lstObj vs m) ∧ RdAll noM vs (encN (st.map DE.k))
  sI : ∃ m, M a.I = some (lstObj (st.map fun e => .ref e.q) m)
  sN : ∃ o S, M a.N = some o ∧ o.SetObjOf (iK C) S sn.length ∧ ∀ k : Nat, S (k : Int) = decide (k ∈ sn)
  sD : ∃ o kvs, M a.D = some o ∧ o.IsDictOf (iK C) kvs ∧ kvs.map (·.1) = st.map (fun e => (e.k : Int))
  ent : ∀ e ∈ st, R e.q = some (wrapObj e.I) ∧ (∃ o, M e.I = some o ∧ ItAt o (Z.suc e.k) e.i) ∧ e.k ∈ σ.ks ∧ e.I ∉ a.l ++ frs Out ∧ Mi e.I = none ∧ e.k ∈ sn
  nod : (st.map DE.I).Nodup
  asc : (st.map fun e => r e.k).Pairwise (· < ·)
  sub : ∀ k ∈ sn, k ∈ σ.ks
  snod : sn.Nodup
  fr : UpTo (frs Out) Mi M
  off : Reg.keepsOff (a.l ++ frs Out) Mi M
noncomputable def rest1 (σ : Sd) (sn : List Nat) : Nat := ((σ.ks.filter fun k => decide (k ∉ sn)).map fun k => 2 + (σ.su k).length).sum
noncomputable def rest2 (σ : Sd) (st : List DE) : Nat := (st.map fun e => 1 + ((σ.su e.k).length - e.i)).sum
section
variable {C : Cx} {Z : Srt} {σ : Sd} {a : Ad} {Out : List Env} {r : Nat → Nat} {Mi R R' M M' : Reg} {st : List DE} {sn : List Nat} {k : Nat} {I q : Addr}
theorem DInv.le (h : DInv C Z σ a Out r Mi R M st sn) (l : R.le R') : DInv C Z σ a Out r Mi R' M st sn :=
  { h with ent := fun e he => let ⟨h1, h2⟩ := h.ent e he; ⟨l _ _ h1, h2⟩ }
theorem DInv.push (h : DInv C Z σ a Out r Mi R M st sn) (nd : (a.l).Nodup) (dis : ∀ b ∈ a.l, b ∉ frs Out) (hk : k ∈ σ.ks) (hks : k ∉ sn) (hr : ∀ e ∈ st, r e.k < r k) (hl : R.le R') (hq : R' q = some (wrapObj I)) {oI oN oD : Obj} {S : Int → Bool} {m1 m2 : Nat} {vs : List Value} {kvs : List (Int × Value)} {tk : Tok}
    (hI : M I = none) (hMi : Mi I = none) (hIt : ItAt oI (Z.suc k) 0) (hN : oN.SetObjOf (iK C) S (sn.length + 1)) (hS : ∀ j : Nat, S (j : Int) = decide (j ∈ sn ++ [k])) (hvs : RdAll noM vs (encN (st.map DE.k))) (hD : oD.IsDictOf (iK C) kvs) (hkv : kvs.map (·.1) = st.map (fun e => (e.k : Int)) ++ [(k : Int)])
    (hIl : I ∉ a.l ++ frs Out) :
    DInv C Z σ a Out r Mi R' (((((M.set a.N oN).set I oI).set a.I (lstObj (st.map (fun e => .ref e.q) ++ [.ref q]) m1)).set a.D oD).set a.S (lstObj (vs ++ [.int k tk]) m2)) (st ++ [⟨k, I, q, 0⟩]) (sn ++ [k]) := by
  have nd' : a.S ≠ a.I ∧ a.S ≠ a.N ∧ a.S ≠ a.D ∧ a.I ≠ a.N ∧ a.I ≠ a.D ∧ a.N ≠ a.D := by
    simp only [Ad.l, List.nodup_cons, List.mem_cons, List.not_mem_nil, or_false, not_or] at nd
    exact ⟨nd.1.1, nd.1.2.1, nd.1.2.2, nd.2.1.1, nd.2.1.2, nd.2.2.1⟩
  obtain ⟨n1, n2, n3, n4, n5, n6⟩ := nd'
  have hI4 : I ≠ a.S ∧ I ≠ a.I ∧ I ≠ a.N ∧ I ≠ a.D := by
    simp only [Ad.l, List.mem_append, List.mem_cons, List.not_mem_nil, or_false, not_or] at hIl
    exact ⟨hIl.1.1, hIl.1.2.1, hIl.1.2.2.1, hIl.1.2.2.2⟩
  obtain ⟨i1, i2, i3, i4⟩ := hI4
  have get : ∀ b, b ∉ a.l → b ≠ I → (((((M.set a.N oN).set I oI).set a.I (lstObj (st.map (fun e => .ref e.q) ++ [.ref q]) m1)).set a.D oD).set a.S (lstObj (vs ++ [.int k tk]) m2)) b = M b := fun b hb hbI => by
    simp only [Ad.l, List.mem_cons, List.not_mem_nil, or_false, not_or] at hb
    rw [Reg.set_ne _ _ hb.1, Reg.set_ne _ _ hb.2.2.2, Reg.set_ne _ _ hb.2.1, Reg.set_ne _ _ hbI, Reg.set_ne _ _ hb.2.2.1]
  refine ⟨⟨_, m2, Reg.set_self _ _ _, ?_⟩, ⟨m1, ?_⟩, ⟨oN, S, ?_, by simpa using hN, hS⟩, ⟨oD, kvs, ?_, hD, by simpa using hkv⟩, fun e he => ?_, ?_, ?_, fun j hj => ?_, ?_, fun b hb o e => ?_, fun b o hb e => ?_⟩
  · have := hvs.append (.cons (.int (k : Int) tk) .nil : RdAll noM [.int (k : Int) tk] [.int (k : Int)])
    simpa [encN] using this
  · rw [Reg.set_ne _ _ n1.symm, Reg.set_ne _ _ n5, Reg.set_self]; simp
  · rw [Reg.set_ne _ _ n2.symm, Reg.set_ne _ _ n6, Reg.set_ne _ _ n4.symm, Reg.set_ne _ _ i3.symm, Reg.set_self]
  · rw [Reg.set_ne _ _ n3.symm, Reg.set_self]
  · rcases List.mem_append.mp he with he | he
    · obtain ⟨h1, ⟨o, h2, h3⟩, h4, h5, h6, h7⟩ := h.ent e he
      refine ⟨hl _ _ h1, ⟨o, ?_, h3⟩, h4, h5, h6, List.mem_append_left _ h7⟩
      rw [get _ (fun hb => h5 (List.mem_append_left _ hb)) (fun q => by rw [q, hI] at h2; (have q_ := oNS h2; clear h2; exact q_.elim))]; exact h2
    · rw [List.mem_singleton.mp he]
      refine ⟨hq, ⟨oI, ?_, hIt⟩, hk, hIl, hMi, List.mem_append_right _ (by simp)⟩
      show (((((M.set a.N oN).set I oI).set a.I _).set a.D oD).set a.S _) I = some oI
      rw [Reg.set_ne _ _ i1, Reg.set_ne _ _ i4, Reg.set_ne _ _ i2, Reg.set_self]
  · rw [List.map_append, List.nodup_append]
    refine ⟨h.nod, by simp, fun b hb c hc => ?_⟩
    obtain ⟨e, he, rfl⟩ := List.mem_map.mp hb
    simp only [List.map_cons, List.map_nil, List.mem_singleton] at hc
    subst hc
    obtain ⟨_, ⟨o, h2, _⟩, _⟩ := h.ent e he
    intro q; rw [q, hI] at h2; (have q_ := oNS h2; clear h2; exact q_.elim)
  · rw [List.map_append, List.pairwise_append]
    refine ⟨h.asc, by simp, fun b hb c hc => ?_⟩
    obtain ⟨e, he, rfl⟩ := List.mem_map.mp hb
    simp only [List.map_cons, List.map_nil, List.mem_singleton] at hc
    subst hc
    exact hr e he
  · rcases List.mem_append.mp hj with hj | hj
    · exact h.sub j hj
    · rw [List.mem_singleton.mp hj]; exact hk
  · rw [List.nodup_append]
    refine ⟨h.snod, by simp, fun b hb c hc => ?_⟩
    rw [List.mem_singleton.mp hc]
    intro q; exact hks (q ▸ hb)
  · obtain ⟨sl, e'⟩ := h.fr b hb o e
    refine ⟨sl, ?_⟩
    rw [get b (fun hb' => dis b hb' hb) (fun q => hIl (List.mem_append_right _ (q ▸ hb)))]; exact e'
  · rw [get b (fun hb' => hb (List.mem_append_left _ hb')) (fun q => by rw [q, hMi] at e; (have q_ := oNS e; clear e; exact q_.elim))]; exact h.off b o hb e
theorem DInv.item {e : DE} {o' : Obj} (h : DInv C Z σ a Out r Mi R M (st ++ [e]) sn) (hl : R.le R') (hIt : ItAt o' (Z.suc e.k) (e.i + 1)) : DInv C Z σ a Out r Mi R' (M.set e.I o') (st ++ [{ e with i := e.i + 1 }]) sn := by
  obtain ⟨h1, h2, h3, h4, h5, h6⟩ := h.ent e (List.mem_append_right _ (by simp))
  have ne : ∀ b, b ∈ a.l ++ frs Out → b ≠ e.I := fun b hb q => h4 (q ▸ hb)
  have nl : ∀ b, b ∈ a.l → b ≠ e.I := fun b hb => ne b (List.mem_append_left _ hb)
  refine ⟨?_, ?_, ?_, ?_, fun x hx => ?_, ?_, ?_, h.sub, h.snod, fun b hb o eb => ?_, fun b o hb eb => ?_⟩
  · obtain ⟨vs, m, e1, e2⟩ := h.sS
    exact ⟨vs, m, by rw [Reg.set_ne _ _ (nl _ (by simp [Ad.l]))]; exact e1, by simpa using e2⟩
  · obtain ⟨m, e1⟩ := h.sI
    exact ⟨m, by rw [Reg.set_ne _ _ (nl _ (by simp [Ad.l]))]; simpa using e1⟩
  · obtain ⟨o, S, e1, e2⟩ := h.sN
    exact ⟨o, S, by rw [Reg.set_ne _ _ (nl _ (by simp [Ad.l]))]; exact e1, e2⟩
  · obtain ⟨o, kvs, e1, e2, e3⟩ := h.sD
    exact ⟨o, kvs, by rw [Reg.set_ne _ _ (nl _ (by simp [Ad.l]))]; exact e1, e2, by simpa using e3⟩
  · rcases List.mem_append.mp hx with hx | hx
    · obtain ⟨g1, ⟨o, g2, g3⟩, g4⟩ := h.ent x (List.mem_append_left _ hx)
      refine ⟨hl _ _ g1, ⟨o, ?_, g3⟩, g4⟩
      have nd := h.nod
      rw [List.map_append, List.nodup_append] at nd
      have := nd.2.2 x.I (List.mem_map.mpr ⟨x, hx, rfl⟩) e.I (by simp)
      rw [Reg.set_ne _ _ this]; exact g2
    · rw [List.mem_singleton.mp hx]
      exact ⟨hl _ _ h1, ⟨o', Reg.set_self _ _ _, hIt⟩, h3, h4, h5, h6⟩
  · simpa using h.nod
  · simpa using h.asc
  · obtain ⟨sl, e'⟩ := h.fr b hb o eb
    exact ⟨sl, by rw [Reg.set_ne _ _ (ne b (List.mem_append_right _ hb))]; exact e'⟩
  · rw [Reg.set_ne _ _ (fun q => by rw [q, h5] at eb; (have q_ := oNS eb; clear eb; exact q_.elim))]; exact h.off b o hb eb
theorem DInv.pop {e : DE} {oD : Obj} {vs : List Value} {kvs : List (Int × Value)} {m1 m2 : Nat} (h : DInv C Z σ a Out r Mi R M (st ++ [e]) sn) (nd : (a.l).Nodup) (dis : ∀ b ∈ a.l, b ∉ frs Out) (hl : R.le R') (ho : Reg.keepsOff (e.I :: frs Out) M M') (hu : UpTo (frs Out) M M')
    (hvs : RdAll noM vs (encN (st.map DE.k))) (hD : oD.IsDictOf (iK C) kvs) (hkv : kvs.map (·.1) = st.map (fun e => (e.k : Int))) :
    DInv C Z σ a Out r Mi R' (((M'.set a.S (lstObj vs m1)).set a.D oD).set a.I (lstObj (st.map fun e => .ref e.q) m2)) st sn := by
  have nd' : a.S ≠ a.I ∧ a.S ≠ a.N ∧ a.S ≠ a.D ∧ a.I ≠ a.N ∧ a.I ≠ a.D ∧ a.N ≠ a.D := by
    simp only [Ad.l, List.nodup_cons, List.mem_cons, List.not_mem_nil, or_false, not_or] at nd
    exact ⟨nd.1.1, nd.1.2.1, nd.1.2.2, nd.2.1.1, nd.2.1.2, nd.2.2.1⟩
  obtain ⟨n1, n2, n3, n4, n5, n6⟩ := nd'
  obtain ⟨h1, h2, h3, h4, h5, h6⟩ := h.ent e (List.mem_append_right _ (by simp))
  have get : ∀ b, b ∉ a.l → (((M'.set a.S (lstObj vs m1)).set a.D oD).set a.I (lstObj (st.map fun e => .ref e.q) m2)) b = M' b := fun b hb => by
    simp only [Ad.l, List.mem_cons, List.not_mem_nil, or_false, not_or] at hb
    rw [Reg.set_ne _ _ hb.2.1, Reg.set_ne _ _ hb.2.2.2, Reg.set_ne _ _ hb.1]
  refine ⟨⟨vs, m1, ?_, hvs⟩, ⟨m2, Reg.set_self _ _ _⟩, ?_, ⟨oD, kvs, ?_, hD, hkv⟩, fun x hx => ?_, ?_, ?_, h.sub, h.snod, fun b hb o eb => ?_, fun b o hb eb => ?_⟩
  · rw [Reg.set_ne _ _ n1, Reg.set_ne _ _ n3, Reg.set_self]
  · obtain ⟨o, S, e1, e2⟩ := h.sN
    refine ⟨o, S, ?_, e2⟩
    rw [Reg.set_ne _ _ n4.symm, Reg.set_ne _ _ n6, Reg.set_ne _ _ n2.symm]
    refine ho _ _ (fun hb => ?_) e1
    rcases List.mem_cons.mp hb with hb | hb
    · exact h4 (List.mem_append_left _ (by rw [← hb]; simp [Ad.l]))
    · exact dis _ (by simp [Ad.l]) hb
  · rw [Reg.set_ne _ _ n5.symm, Reg.set_self]
  · obtain ⟨g1, ⟨o, g2, g3⟩, g4, g5, g6⟩ := h.ent x (List.mem_append_left _ hx)
    refine ⟨hl _ _ g1, ⟨o, ?_, g3⟩, g4, g5, g6⟩
    have nd := h.nod
    rw [List.map_append, List.nodup_append] at nd
    have := nd.2.2 x.I (List.mem_map.mpr ⟨x, hx, rfl⟩) e.I (by simp)
    rw [get _ (fun hb => g5 (List.mem_append_left _ hb))]
    refine ho _ _ (fun hb => ?_) g2
    rcases List.mem_cons.mp hb with hb | hb
    · exact this hb
    · exact g5 (List.mem_append_right _ hb)
  · have := h.nod
    rw [List.map_append, List.nodup_append] at this
    exact this.1
  · have := h.asc
    rw [List.map_append, List.pairwise_append] at this
    exact this.1
  · obtain ⟨sl, e'⟩ := (h.fr.trans hu) b hb o eb
    exact ⟨sl, by rw [get b (fun hb' => dis b hb' hb)]; exact e'⟩
  · rw [get b (fun hb' => hb (List.mem_append_left _ hb'))]
    refine ho b o (fun hb' => ?_) (h.off b o hb eb)
    rcases List.mem_cons.mp hb' with hb' | hb'
    · rw [hb', h5] at eb; (have q_ := oNS eb; clear eb; exact q_.elim)
    · exact hb (List.mem_append_right _ hb')
theorem rest2_append (σ : Sd) (st : List DE) (e : DE) : rest2 σ (st ++ [e]) = rest2 σ st + (1 + ((σ.su e.k).length - e.i)) := by simp [rest2]
theorem rest1_push (σ : Sd) (sn : List Nat) (hn : σ.ks.Nodup) {k : Nat} (hk : k ∈ σ.ks) (hs : k ∉ sn) : rest1 σ (sn ++ [k]) + (2 + (σ.su k).length) = rest1 σ sn := by
  unfold rest1
  have : ∀ l : List Nat, l.Nodup → k ∈ l → ((l.filter fun j => decide (j ∉ sn ++ [k])).map fun k => 2 + (σ.su k).length).sum + (2 + (σ.su k).length) = ((l.filter fun j => decide (j ∉ sn)).map fun k => 2 + (σ.su k).length).sum := by
    intro l
    induction l with
    | nil => intro _ h; cases h
    | cons j l ih =>
      intro hl hm
      have hl' := List.nodup_cons.mp hl
      by_cases hj : j = k
      · subst hj
        have e1 : (l.filter fun i => decide (i ∉ sn ++ [j])) = l.filter fun i => decide (i ∉ sn) := by
          apply List.filter_congr
          intro i hi
          have : i ≠ j := fun q => hl'.1 (q ▸ hi)
          simp [this]
        rw [List.filter_cons_of_neg (by simp), List.filter_cons_of_pos (by simpa using hs), e1]
        simp only [List.map_cons, List.sum_cons]; omega
      · have hm' : k ∈ l := by rcases List.mem_cons.mp hm with h | h; exact absurd h.symm hj; exact h
        have := ih hl'.2 hm'
        by_cases hjs : j ∈ sn
        · rw [List.filter_cons_of_neg (by simp [hjs]), List.filter_cons_of_neg (by simpa using hjs)]; exact this
        · rw [List.filter_cons_of_pos (by simp [hjs, hj]), List.filter_cons_of_pos (by simpa using hjs)]
          simp only [List.map_cons, List.sum_cons]; omega
  exact this _ hn hk
end
end Mine
end
noncomputable section
open PySem PySem.W PyProof.Rows PySem.SeqAt PySem.MeetsSeq
set_option Elab.async false
set_option autoImplicit false
set_option maxRecDepth 100000
namespace Mine
section
variable {C : Cx} {s₀ : Shared} {R₀ : Reg} {V : List Addr} {sc : Scope} {env : Env} {W : List Addr} {s s' : Shared} {R R' Mu Mu' : Reg} {Δ Δ' : Vars} {n : Nat} {A : Around} {E : Value → Shared → Prop} {Q : Flow → Shared → Prop}
noncomputable abbrev Fra.P (_ : Fra C s₀ R₀ V sc env W s R Mu Δ) (s' : Shared) (R' M' : Reg) (Δ' : Vars) : Prop := Fra C s₀ R₀ V sc env W s' R' M' Δ'
theorem Fra.noMu (F : Fra C s₀ R₀ V sc env W s R Mu Δ) {a : Addr} (h : s.heap.get? a = none) : Mu a = none := by
  cases q : Mu a with
  | none => rfl
  | some o => rw [(F.mu _ _ q).1] at h; (have q_ := oSN h; clear h; exact q_.elim)
theorem mlist_appendW {o e : Expr} {ap pos : Pos} {l : Addr} {vs : List Value} {m : Nat} {Qv : Value → Shared → Prop} (F : Fra C s₀ R₀ V sc env W s R Mu Δ) (rm : Room n A) (ho : Ev (C.at Mu) n sc Δ o (.val (.ref l))) (hz : vs.length ≤ sizeLine)
    (he : ∀ s₁ R₁, R.le R₁ → Keeps s s₁ → Fra C s₀ R₀ V sc env W s₁ R₁ Mu Δ → wpAny C.M A (eval e env) (fun v s₂ => ∃ R₂ Mu₂, Fra C s₀ R₀ V sc env W s₂ R₂ Mu₂ Δ ∧ Mu₂ l = some (lstObj vs m) ∧ ∀ s₃ m', Fra C s₀ R₀ V sc env W s₃ R₂ (Mu₂.set l (lstObj (vs ++ [v]) m')) Δ → Qv .none s₃) E s₁)
    (hl : Mu l = some (lstObj vs m))
    (hline : (ap.endLine == pos.line) = true := by rfl) (hbase : attributeBase o (Str.ofString "append") env (eval o env) = eval o env := by rfl) (hs : starEach [e] env = [(false, eval e env)] := by rfl) :
    wpAny C.M A (eval (.Call (.Attribute o (Str.ofString "append") ap) [e] [] pos) env) Qv E s := by
  refine wpAny_Call_method1_late hbase hline (by rw [hs]; rfl) (F.ev rm ho fun ov s₁ R₁ l₁ k₁ hv F₁ => ?_)
  (have q_ := Rd.valE hv; clear hv; subst q_)
  refine ⟨"list", "list.append", PySem.F.plainAttrs_list, PySem.F.slot_list_append, PySem.F.type_list_append, ⟨_, F₁.rom.mu _ _ hl, rfl⟩, fun a ha => by (have q_ := vRR ha; clear ha; subst q_); exact ⟨_, F₁.rom.mu _ _ hl, rfl⟩, ?_⟩
  have he' : backTo pos (starEach [e] env) = [(false, eval e env)] := by rw [hs]; rfl
  rw [← he']
  refine callWith_method1 (wpAny_items_cons (wpAny_mono (he s₁ R₁ l₁ k₁ F₁) (fun v s₂ p₂ => wpAny_items_nil ?_) fun _ _ x => x) hs) hs rfl
  obtain ⟨R₂, Mu₂, F₂, hl₂, h⟩ := p₂
  refine wpAny_list_append_plain (items := vs.toArray) ⟨m, F₂.rom.mu _ _ hl₂⟩ (fun h' hp hsb => ?_) (by simpa using hz)
  obtain ⟨m', hp⟩ := hp
  refine h _ m' (F₂.mut hl₂ (fun _ q => nomatch q) hsb ?_)
  rw [hp]; simp [lstObj]
/- an if whose ways meet again in P -/
theorem st_ifP {t : Expr} {b : Bool} {body orelse rest : List Stmt} {p : Pos} (P : Shared → Prop) (F : Fra C s₀ R₀ V sc env W s R Mu Δ) (rm : Room n A) (ht : EvT (C.at Mu) n sc Δ t b)
    (k : ∀ s' R', R.le R' → Fra C s₀ R₀ V sc env W s' R' Mu Δ → wpAny C.M A (execs (if b then body else orelse) env) (fun f s₂ => match f with | .next => P s₂ | f => Q f s₂) E s')
    (h : ∀ s', P s' → wpAny C.M A (execs rest env) Q E s') :
    wpAny C.M A (execs (.If t body orelse p :: rest) env) Q E s :=
  st_if F rm ht fun s' R' l F' => wpAny_mono (k s' R' l F') (fun f s₂ q => by cases f <;> first | exact h s₂ q | exact q) fun _ _ x => x
theorem Fra.evT {t : Expr} {b : Bool} {Qb : Bool → Shared → Prop} (F : Fra C s₀ R₀ V sc env W s R Mu Δ) (rm : Room n A) (ht : EvT (C.at Mu) n sc Δ t b)
    (h : ∀ s₁ R₁, R.le R₁ → Fra C s₀ R₀ V sc env W s₁ R₁ Mu Δ → Qb b s₁) : wpAny C.M A (isTrue t env (eval t env)) Qb E s :=
  noE (ht A env s R rm F.rom F.eo) fun c s₁ p₁ => by
    obtain ⟨k₁, rfl⟩ := p₁
    exact h s₁ _ (Reg.ext_le F.ro.on) (F.ext k₁)
theorem RdAll.snoc {R : Reg} {v : Value} {d : Dat} : ∀ {vs : List Value} {ds : List Dat}, RdAll R (vs ++ [v]) (ds ++ [d]) → RdAll R vs ds ∧ Rd R v d
  | [], [], h => by
    cases h with
    | cons h r => exact ⟨.nil, h⟩
  | [], x :: ds, h => by
    have := h.length; simp at this
  | x :: vs, [], h => by
    have := h.length; simp at this
  | x :: vs, y :: ds, h => by
    cases h with
    | cons h r => exact ⟨.cons h (RdAll.snoc r).1, (RdAll.snoc r).2⟩
theorem evT_true {p : Pos} {k : Nat} : EvT C n sc Δ (.Constant (.bool true) k p) true := evT_plain ev_bool (fun A s R v rm ro hv => by (have q_ := Rd.boolE hv; clear hv; subst q_); exact wpAny_truthy_bool ⟨Keeps.rfl' _, rfl⟩)
end
section
variable {C : Cx} {Z : Srt} {σ : Sd} {a : Ad} {Out : List Env} {r : Nat → Nat} {Mi R R' M M' : Reg} {st : List DE} {sn : List Nat} {k : Nat} {I q : Addr}
theorem DInv.base (h : DInv C Z σ a Out r Mi R M [] sn) (e : ∀ b ∈ a.l ++ frs Out, M' b = M b) : DInv C Z σ a Out r M' R' M' [] sn := by
  have el : ∀ b ∈ a.l, M' b = M b := fun b hb => e b (List.mem_append_left _ hb)
  refine ⟨?_, ?_, ?_, ?_, (fun x hx => nomatch hx), List.nodup_nil, List.Pairwise.nil, h.sub, h.snod, UpTo.of (fun _ _ _ e => e), fun _ _ _ e => e⟩
  · obtain ⟨vs, m, e1, e2⟩ := h.sS; exact ⟨vs, m, (el _ (by simp [Ad.l])).trans e1, e2⟩
  · obtain ⟨m, e1⟩ := h.sI; exact ⟨m, (el _ (by simp [Ad.l])).trans e1⟩
  · obtain ⟨o, S, e1, e2⟩ := h.sN; exact ⟨o, S, (el _ (by simp [Ad.l])).trans e1, e2⟩
  · obtain ⟨o, kvs, e1, e2⟩ := h.sD; exact ⟨o, kvs, (el _ (by simp [Ad.l])).trans e1, e2⟩
theorem valueAt_keys {kvs : List (Int × Value)} {k : Int} : (valueAt kvs k).isSome = decide (k ∈ kvs.map (·.1)) := by
  unfold valueAt
  rw [Option.isSome_map]
  by_cases h : k ∈ kvs.map (·.1)
  · rw [decide_eq_true h, List.find?_isSome]
    obtain ⟨x, hx, rfl⟩ := List.mem_map.mp h
    exact ⟨x, hx, by simp⟩
  · rw [decide_eq_false h]
    cases q : (kvs.find? fun kv => decide (kv.1 = k)) with
    | none => rfl
    | some x =>
      have := List.find?_some q
      exact absurd (List.mem_map.mpr ⟨x, List.mem_of_find?_eq_some q, by simpa using this⟩) h
theorem stored_keys {kvs : List (Int × Value)} {k : Int} {v : Value} (h : k ∉ kvs.map (·.1)) : (stored kvs k v).map (·.1) = kvs.map (·.1) ++ [k] := by
  rw [stored_new]
  · simp
  · have := valueAt_keys (kvs := kvs) (k := k)
    rw [decide_eq_false h] at this
    cases q : valueAt kvs k with
    | none => rfl
    | some _ => rw [q] at this; cases this
theorem without_last {kvs : List (Int × Value)} {ks : List Int} {k : Int} (h : kvs.map (·.1) = ks ++ [k]) (hk : k ∉ ks) : (without kvs k).map (·.1) = ks := by
  have e : (without kvs k).map (·.1) = (kvs.map (·.1)).filter fun j => decide (j ≠ k) := by
    unfold without
    rw [List.filter_map]; rfl
  rw [e, h, List.filter_append]
  have : ks.filter (fun j => decide (j ≠ k)) = ks := by
    rw [List.filter_eq_self]
    intro j hj
    simpa using fun q : j = k => hk (q ▸ hj)
  rw [this]; simp
theorem sn_len (h : DInv C Z σ a Out r Mi R M st sn) (hl : σ.ks.length ≤ 7) : sn.length ≤ 7 := by
  have : ∀ (l m : List Nat), l.Nodup → (∀ k ∈ l, k ∈ m) → l.length ≤ m.length := fun l => by
    induction l with
    | nil => intros; simp
    | cons x l ih =>
      intro m hn hs
      have hn' := List.nodup_cons.mp hn
      have hx : x ∈ m := hs x List.mem_cons_self
      have := ih (m.erase x) hn'.2 (fun k hk => (List.mem_erase_of_ne (show k ≠ x from fun q => hn'.1 (q ▸ hk))).mpr (hs k (List.mem_cons_of_mem _ hk)))
      rw [List.length_erase_of_mem hx] at this
      have hp : 0 < m.length := List.length_pos_of_mem hx
      simp only [List.length_cons]; omega
  exact Nat.le_trans (this _ _ h.snod h.sub) hl
theorem st_len (h : DInv C Z σ a Out r Mi R M st sn) (hl : σ.ks.length ≤ 7) : st.length ≤ 7 := by
  have hs := sn_len h hl
  have : ∀ (l m : List Nat), l.Nodup → (∀ k ∈ l, k ∈ m) → l.length ≤ m.length := fun l => by
    induction l with
    | nil => intros; simp
    | cons x l ih =>
      intro m hn hs
      have hn' := List.nodup_cons.mp hn
      have hx : x ∈ m := hs x List.mem_cons_self
      have := ih (m.erase x) hn'.2 (fun k hk => (List.mem_erase_of_ne (show k ≠ x from fun q => hn'.1 (q ▸ hk))).mpr (hs k (List.mem_cons_of_mem _ hk)))
      rw [List.length_erase_of_mem hx] at this
      have hp : 0 < m.length := List.length_pos_of_mem hx
      simp only [List.length_cons]; omega
  have nd : (st.map DE.k).Nodup := by
    have := h.asc
    rw [List.pairwise_map] at this
    rw [List.Nodup, List.pairwise_map]
    exact this.imp fun hlt q => by rw [q] at hlt; exact Nat.lt_irrefl _ hlt
  have := this (st.map DE.k) sn nd (fun k hk => by obtain ⟨e, he, rfl⟩ := List.mem_map.mp hk; exact (h.ent e he).2.2.2.2.2)
  rw [List.length_map] at this
  omega
end
end Mine
end
noncomputable section
open PySem PySem.W PyProof.Rows PySem.SeqAt PySem.MeetsSeq
set_option Elab.async false
set_option autoImplicit false
set_option maxRecDepth 100000
namespace Mine
section
variable {C : Cx} (B : Base C (K1 C)) {Z : Srt} {σ : Sd}
include B
theorem g_stop : GlobIs C (Str.ofString "StopIteration") (.type "StopIteration") := glob_bui B (by kernel_rfl!) (by decide +kernel) (by decide +kernel)
theorem find_spec {r : Nat → Nat} (hsu : ∀ k ∈ σ.ks, ∀ j ∈ σ.su k, j ∈ σ.ks ∧ r k < r j) : FCall C aT aN 2 aCyc [] Z σ (fun Z' σ' d => Z' = Z ∧ σ' = σ ∧ d = .none) := by
  refine fcall_fn (xs := [Str.ofString "self"]) (es := [.val (.ref Z.s)]) (fnC B rfl (by kernel_rfl!) rfl (by kernel_rfl!)) rfl (fun R s vs ro _ hr => by (have q_ := RdAll.nilE hr; clear hr; subst q_); exact bnd_plain ro (by kernel_rfl!) (.cons (.val _) .nil)) ?_
  intro A Out env W s₀ s R R₁ Mu hsc hf hfr Lv dis rm F S
  refine cps fun Q hQ => ?_
  obtain ⟨h, t, n, hd⟩ := S.d
  refine st_assign F rm (ev_own B.at (k_n2i _) (ev_name rfl) S.s hd look_n2i) fun s₁ R₂ l₁ F₁ => ?_
  refine st_list_new F₁ fun s₂ R₃ lS l₂ hS0 hSs F₂ => ?_
  refine st_list_new F₂ fun s₃ R₄ lI l₃ hI0 hIs F₃ => ?_
  refine st_set_new F₃ rm (ev_glob (g_setT B.at) rfl) fun s₄ R₅ lN oN l₄ hN0 hoN F₄ => ?_
  refine st_dict_new F₄ fun s₅ R₆ lD l₅ hD0 hDs F₅ => ?_
  have mS := F₁.noMu hS0
  have mI := F₂.noMu hI0
  have mN := F₃.noMu hN0
  have mD := F₄.noMu hD0
  have off : ∀ {M : Reg} {a b : Addr} {o : Obj}, (M.set b o) a = none → a ≠ b ∧ M a = none := fun {M a b o} h => by
    by_cases q : a = b
    · rw [q, Reg.set_self] at h; (have q_ := oSN h; clear h; exact q_.elim)
    · exact ⟨q, by rw [Reg.set_ne _ _ q] at h; exact h⟩
  obtain ⟨nIS, mI⟩ := off mI
  obtain ⟨nNI, mN⟩ := off mN
  obtain ⟨nNS, mN⟩ := off mN
  obtain ⟨nDN, mD⟩ := off mD
  obtain ⟨nDI, mD⟩ := off mD
  obtain ⟨nDS, mD⟩ := off mD
  have hsm : (lD == sysModules) = false := beq_eq_false_iff_ne.mpr (Nat.ne_of_gt (Nat.lt_of_lt_of_le (modules_low (B.nolimit.keeps F₄.ro.hle0)) hDs))
  generalize ha : (Ad.mk lS lI lN lD) = a
  have haS : a.S = lS := by rw [← ha]
  have haI : a.I = lI := by rw [← ha]
  have haN : a.N = lN := by rw [← ha]
  have haD : a.D = lD := by rw [← ha]
  have nd : a.l.Nodup := by
    rw [← ha]
    simp only [Ad.l, List.nodup_cons, List.mem_cons, List.not_mem_nil, or_false, not_or, List.nodup_nil, and_true, not_false_eq_true]
    exact ⟨⟨nIS.symm, nNS.symm, nDS.symm⟩, ⟨nNI.symm, nDI.symm⟩, nDN.symm⟩
  have mnone : ∀ b ∈ a.l, Mu b = none := fun b hb => by
    rw [← ha] at hb
    simp only [Ad.l, List.mem_cons, List.not_mem_nil, or_false] at hb
    rcases hb with rfl | rfl | rfl | rfl <;> assumption
  have dis4 : ∀ b ∈ a.l, b ∉ frs Out := fun b hb hb' => by
    obtain ⟨o, e, _⟩ := Lv.obj hb'
    rw [mnone b hb] at e; (have q_ := oNS e; clear e; exact q_.elim)
  have disZ : ∀ b ∈ Z.all σ, b ∉ a.l := fun b hb hb' => by
    obtain ⟨o, e, _⟩ := S.obj hb
    rw [mnone b hb'] at e; (have q_ := oNS e; clear e; exact q_.elim)
  subst haS haI haN haD
  generalize hM : ((((Mu.set a.S (lstObj [] 0)).set a.I (lstObj [] 0)).set a.N oN).set a.D emptyDict : Reg) = M5 at F₅
  change Reg at M5
  have eM : ∀ b, b ∉ a.l → M5 b = Mu b := fun b hb => by
    simp only [Ad.l, List.mem_cons, List.not_mem_nil, or_false, not_or] at hb
    rw [← hM, Reg.set_ne _ _ hb.2.2.2, Reg.set_ne _ _ hb.2.2.1, Reg.set_ne _ _ hb.2.1, Reg.set_ne _ _ hb.1]
  have S5 : SAt C aT aN M5 Z σ := S.on fun b o hb e => by rw [eM b (disZ b hb)]; exact e
  have U5 : UpTo (frs Out) Mu M5 := .of fun b hb o e => by rw [eM b (fun q => dis4 b q hb)]; exact e
  have Lv5 : Live Out M5 := Lv.up U5
  have D5 : DInv C Z σ a Out r M5 R₆ M5 [] [] := by
    refine ⟨⟨[], 0, ?_, .nil⟩, ⟨0, ?_⟩, ⟨oN, _, ?_, hoN, by simp⟩, ⟨emptyDict, [], ?_, ⟨#[], 0, ⟨rfl, rfl, rfl⟩, rfl, fun e he => by simp at he, .nil, List.nodup_nil⟩, rfl⟩, (fun x hx => nomatch hx), List.nodup_nil, List.Pairwise.nil, (fun x hx => nomatch hx), List.nodup_nil, .of (fun _ _ _ e => e), fun _ _ _ e => e⟩
    · rw [← hM, Reg.set_ne _ _ nDS.symm, Reg.set_ne _ _ nNS.symm, Reg.set_ne _ _ nIS.symm, Reg.set_self]
    · rw [← hM, Reg.set_ne _ _ nDI.symm, Reg.set_ne _ _ nNI.symm, Reg.set_self]; rfl
    · rw [← hM, Reg.set_ne _ _ nDN.symm, Reg.set_self]
    · rw [← hM, Reg.set_self]
  obtain ⟨od, hD, hdo⟩ := S5.D
  have hDm : (M5.minus (a.l ++ frs Out)) Z.D = some od := Reg.minus_some (fun q => by
    rcases List.mem_append.mp q with q | q
    · exact disZ _ (Srt.mem_all.mpr (.inr (.inr (.inl rfl)))) q
    · exact dis _ q (Srt.mem_all.mpr (.inr (.inr (.inl rfl))))) hD
  have hcast : (nodePairs σ.ks Z.inf).map (fun kv => Dat.int kv.1) = σ.ks.map fun (k : Nat) => Dat.int (k : Int) := by simp [nodePairs]
  refine st_for (L := σ.ks) (enc := fun k => Dat.int (k : Int)) (tds := fun k => [.int (k : Int)]) [Str.ofString "node"] (a.l ++ frs Out) (fun _ => ofL [(Str.ofString "self", .val (.ref Z.s)), (Str.ofString "n2i", .val (.ref Z.D)), (Str.ofString "stack", .val (.ref a.S)), (Str.ofString "itstack", .val (.ref a.I)), (Str.ofString "seen", .val (.ref a.N)), (Str.ofString "node2stacki", .val (.ref a.D))])
    (fun i R M => ∃ sn, DInv C Z σ a Out r M R M [] sn ∧ UpTo (frs Out) M5 M) F₅ rm (hcast ▸ evIt_dict (ev_name rfl) hDm hdo S.sm) (AllIn.le ⟨rfl, rfl, rfl, rfl, rfl, rfl, trivial⟩) (fun b hb => ?_) (by decide +kernel) (fun _ _ => ⟨rfl, rfl⟩)
    (fun i R R' M M' hJ l he => ?_) ⟨[], D5, .of fun _ _ _ e => e⟩ ?_ ?_
  · rcases List.mem_append.mp hb with q | q
    · simp only [Ad.l, List.mem_cons, List.not_mem_nil, or_false] at q
      rcases q with rfl | rfl | rfl | rfl
      · obtain ⟨vs, m, e, _⟩ := D5.sS; exact ⟨_, e⟩
      · obtain ⟨m, e⟩ := D5.sI; exact ⟨_, e⟩
      · obtain ⟨o, S, e, _⟩ := D5.sN; exact ⟨_, e⟩
      · obtain ⟨o, S, e, _⟩ := D5.sD; exact ⟨_, e⟩
    · obtain ⟨o, e, _⟩ := Lv5.obj q; exact ⟨o, e⟩
  · obtain ⟨sn, D, U⟩ := hJ
    exact ⟨sn, D.base he, U.trans (.of fun b hb o e => (he b (List.mem_append_right _ hb)).trans e)⟩
  · intro i k s₆ R₇ M₆ hi l₆ hk F₆ ⟨sn, D, U⟩
    refine cps fun Qf hQf => ?_
    have hkk : k ∈ σ.ks := List.mem_of_getElem? hi
    have SM : ∀ M, Reg.keepsOff (a.l ++ frs Out) M₆ M → SAt C aT aN M Z σ := fun M hM => S5.on fun b o hb e => by
      have hb' : b ∉ a.l ++ frs Out := fun q => by
        rcases List.mem_append.mp q with q | q
        · exact disZ b hb q
        · exact dis b q hb
      exact hM b o hb' (hk b o hb' e)
    generalize hΔ : (fun y : Nat => ofL [(Str.ofString "self", .val (.ref Z.s)), (Str.ofString "n2i", .val (.ref Z.D)), (Str.ofString "stack", .val (.ref a.S)), (Str.ofString "itstack", .val (.ref a.I)), (Str.ofString "seen", .val (.ref a.N)), (Str.ofString "node2stacki", .val (.ref a.D)), (Str.ofString "node", .int (y : Int))]) = Δn
    have F₆ := F₆.toL [(Str.ofString "self", .val (.ref Z.s)), (Str.ofString "n2i", .val (.ref Z.D)), (Str.ofString "stack", .val (.ref a.S)), (Str.ofString "itstack", .val (.ref a.I)), (Str.ofString "seen", .val (.ref a.N)), (Str.ofString "node2stacki", .val (.ref a.D)), (Str.ofString "node", .int (k : Int))] ⟨rfl, rfl, rfl, rfl, rfl, rfl, rfl, trivial⟩
    have L6 : Live Out M₆ := Lv5.up U
    have hlen := S5.len
    obtain ⟨oN₆, Sn, eN, hN, hSn⟩ := id D.sN
    have hsl := sn_len D hlen
    refine st_if F₆ rm (evT_cmp (ev_name rfl) (ev_name rfl) (op_in_set eN hN (by simp only [scanBound]; omega))) fun s₇ R₈ l₇ F₇ => ?_
    rw [hSn k]
    by_cases hks : k ∈ sn
    · rw [decide_eq_true hks, if_pos rfl]
      refine wpAny_execs_cons (wpAny_Continue (hQf _ _ ⟨R₈, M₆, l₇, fun _ _ _ e => e, F₇.toL _ ⟨rfl, rfl, rfl, rfl, rfl, rfl, trivial⟩, sn, D.le l₇, U⟩))
    rw [decide_eq_false hks, if_neg Bool.false_ne_true]
    refine st_nil ?_
    refine st_while (fun n s => ∃ R M st sn y, F.P s R M (Δn y) ∧ R₇.le R ∧ DInv C Z σ a Out r M₆ R M st sn ∧ y ∈ σ.ks ∧ (∀ e ∈ st, r e.k < r y) ∧ n = rest1 σ sn + rest2 σ st) _ ⟨R₈, M₆, [], sn, k, by rw [← hΔ]; exact F₇, l₇, D.le l₇, hkk, (fun e he => nomatch he), rfl⟩ ?_
    rintro n s₈ ⟨R₉, M₈, st, sn, y, F₈, l₈, D, hy, hr, rfl⟩
    rw [← hΔ] at F₈
    refine noE (evT_true (C := C.at M₈) A env s₈ R₉ rm F₈.rom F₈.eo) fun b s₉ p₉ => ?_
    obtain ⟨k₉, rfl⟩ := p₉
    rw [if_pos rfl]
    refine cps fun Qw hQw => ?_
    have F₉ := F₈.ext k₉
    have D₉ := D.le (Reg.ext_le F₈.ro.on (h' := s₉.heap))
    have l₉ := l₈.trans (Reg.ext_le F₈.ro.on (h' := s₉.heap))
    generalize R₉.ext s₈.heap s₉.heap = R₉ at F₉ D₉ l₉
    obtain ⟨oN₉, Sn, eN, hN, hSn⟩ := id D₉.sN
    have hsl := sn_len D₉ hlen
    refine (fun (P : Shared → Prop) (hP : ∀ s, (∃ R M st' sn' z, F.P s R M (Δn z) ∧ R₇.le R ∧ DInv C Z σ a Out r M₆ R M st' sn' ∧ rest1 σ sn' + rest2 σ st' ≤ rest1 σ sn + rest2 σ st) → P s) (hP' : ∀ s, P s → ∃ R M st' sn' z, F.P s R M (Δn z) ∧ R₇.le R ∧ DInv C Z σ a Out r M₆ R M st' sn' ∧ rest1 σ sn' + rest2 σ st' ≤ rest1 σ sn + rest2 σ st) => ?_) _ (fun _ h => h) (fun _ h => h)
    refine st_ifP P F₉ rm (evT_cmp (ev_name rfl) (ev_name rfl) (op_in_set eN hN (by simp only [scanBound]; omega))) (fun s₁₀ R₁₀ l₁₀ F₁₀ => ?_) ?_
    · rw [hSn y]
      have hyst : (y : Int) ∉ st.map (fun e => (e.k : Int)) := fun q => by
        obtain ⟨e, he, q⟩ := List.mem_map.mp q
        have := hr e he
        have : e.k = y := by omega
        subst this; omega
      obtain ⟨oD, kvs, eD, hD', hkv⟩ := id D₉.sD
      by_cases hys : y ∈ sn
      · rw [decide_eq_true hys, if_pos rfl]
        refine st_if F₁₀ rm (evT_cmp (ev_name rfl) (ev_name rfl) (op_in_dict eD hD' hsm)) fun s₁₁ R₁₁ l₁₁ F₁₁ => ?_
        rw [valueAt_keys, hkv, decide_eq_false hyst, if_neg Bool.false_ne_true]
        exact st_nil (st_nil (hP _ ⟨R₁₁, M₈, st, sn, y, by rw [← hΔ]; exact F₁₁, l₉.trans (l₁₀.trans l₁₁), D₉.le (l₁₀.trans l₁₁), Nat.le_refl _⟩))
      · rw [decide_eq_false hys, if_neg Bool.false_ne_true]
        have hstl := st_len D₉ hlen
        have M8some : ∀ b ∈ a.l ++ frs Out, ∃ o, M₈ b = some o := fun b hb => by
          rcases List.mem_append.mp hb with q | q
          · simp only [Ad.l, List.mem_cons, List.not_mem_nil, or_false] at q
            rcases q with rfl | rfl | rfl | rfl
            · obtain ⟨vs, m, e, _⟩ := D₉.sS; exact ⟨_, e⟩
            · obtain ⟨m, e⟩ := D₉.sI; exact ⟨_, e⟩
            · exact ⟨_, eN⟩
            · exact ⟨_, eD⟩
          · obtain ⟨o, e, _⟩ := (L6.up D₉.fr).obj q; exact ⟨o, e⟩
        refine st_expr (mset_add F₁₀ rm (ev_name rfl) (ev_name rfl) eN hN (by simp only [scanBound]; omega) fun s₁₁ R₁₁ oN' l₁₁ hN' F₁₁ => ?_) F₁₀.quiet
        have hSy : Sn (y : Int) = false := by rw [hSn]; exact decide_eq_false hys
        rw [hSy, if_neg Bool.false_ne_true] at hN'
        obtain ⟨mI', eI⟩ := id D₉.sI
        obtain ⟨vs, mS', eS, hvs⟩ := id D₉.sS
        have hvl : vs.length = st.length := by rw [hvs.length]; simp [encN]
        have S₁₁ : SAt C aT aN (M₈.set a.N oN') Z σ := SM _ fun b o hb e => by
          rw [Reg.set_ne _ _ (fun q => hb (List.mem_append_left _ (by rw [q]; simp [Ad.l])))]; exact D₉.off b o hb e
        obtain ⟨od₂, hD₂, hdo₂⟩ := S₁₁.D
        obtain ⟨t', u', hin⟩ := S₁₁.inf y hy
        obtain ⟨ws, m₂, esu, hws⟩ := S₁₁.suc y hy
        refine st_expr (mlist_appendW F₁₁ rm (ev_name rfl) (by rw [sizeLine_val]; simp; omega) (fun s₁₂ R₁₂ l₁₂ k₁₂ F₁₂ => F₁₂.nextOf rm (ev_glob (g_iter B.at) rfl) (ev_slot B.at (k_suc _) (ev_sub (ev_name rfl) (ev_name rfl) (op_ditem hD₂ hdo₂ (S₁₁.node hy))) hin (S₁₁.emp y hy) rfl) esu fun s₁₃ R₁₃ I q oI l₁₃ hI0 hIt hq F₁₃ => ?_) ((Reg.set_ne _ _ nNI.symm).trans eI)) F₁₁.quiet
        obtain ⟨nIN, mI0⟩ := off (F₁₂.noMu hI0)
        have hIl : I ∉ a.l ++ frs Out := fun hb => by
          obtain ⟨o, e⟩ := M8some I hb
          rw [mI0] at e; (have q_ := oNS e; clear e; exact q_.elim)
        have hMi : M₆ I = none := by
          cases z : M₆ I with
          | none => rfl
          | some o => rw [D₉.off I o hIl z] at mI0; (have q_ := oSN mI0; clear mI0; exact q_.elim)
        have hI4 : I ≠ a.S ∧ I ≠ a.I ∧ I ≠ a.N ∧ I ≠ a.D := by
          have := hIl
          simp only [Ad.l, List.mem_append, List.mem_cons, List.not_mem_nil, or_false, not_or] at this
          exact ⟨this.1.1, this.1.2.1, this.1.2.2.1, this.1.2.2.2⟩
        obtain ⟨i1, i2, i3, i4⟩ := hI4
        refine ⟨R₁₃, _, F₁₃, (Reg.set_ne _ _ i2.symm).trans ((Reg.set_ne _ _ nNI.symm).trans eI), fun s₁₄ m₁₄ F₁₄ => ?_⟩
        refine st_dset F₁₄ rm (ev_name rfl) (ev_name rfl) (call_len_mul (ev_glob (g_len B.at) rfl) (ev_name rfl) ((Reg.set_ne _ _ nIS.symm).trans ((Reg.set_ne _ _ i1.symm).trans ((Reg.set_ne _ _ nNS.symm).trans eS))) (by rw [sizeLine_val, hvl]; omega))
          ((Reg.set_ne _ _ nDI).trans ((Reg.set_ne _ _ i4.symm).trans ((Reg.set_ne _ _ nDN).trans eD))) hD' (by
            have : kvs.length = st.length := by simpa using congrArg List.length hkv
            rw [sizeLine_val]; omega) fun s₁₅ R₁₅ v oD' l₁₅ hv hD'' F₁₅ => ?_
        refine st_expr (mlist_append F₁₅ rm (ev_name rfl) (ev_name rfl) ((Reg.set_ne _ _ nDS.symm).trans ((Reg.set_ne _ _ nIS.symm).trans ((Reg.set_ne _ _ i1.symm).trans ((Reg.set_ne _ _ nNS.symm).trans eS)))) (by rw [sizeLine_val, hvl]; omega) fun s₁₆ R₁₆ v' m₁₆ l₁₆ hv' F₁₆ => ?_) F₁₅.quiet
        (have q_ := Rd.intE hv'; clear hv'; obtain ⟨_, rfl⟩ := q_)
        have hR : R₉.le R₁₆ := l₁₀.trans (l₁₁.trans (l₁₂.trans (l₁₃.trans (l₁₅.trans l₁₆))))
        refine st_nil (hP _ ⟨R₁₆, _, st ++ [⟨y, I, q, 0⟩], sn ++ [y], y, by rw [← hΔ]; exact F₁₆, l₉.trans hR, D₉.push nd dis4 hy hys hr hR ((l₁₅.trans l₁₆) _ _ hq) mI0 hMi hIt hN' (fun j => ?_) hvs hD'' (by rw [stored_keys (by rw [hkv]; exact hyst), hkv]) hIl, ?_⟩)
        · rw [hSn]
          by_cases hj : j = y
          · simp [hj]
          · have : ¬ ((j : Int) = (y : Int)) := by omega
            simp [hj, this]
        · have := rest1_push σ sn S₁₁.nod hy hys
          rw [rest2_append]
          dsimp only
          omega
    · intro s₁₁ h₁₁
      obtain ⟨R₁₁, M₁₁, st', sn', z, F₁₁, l₁₁, D₁₁, hle⟩ := hP' _ h₁₁
      clear hP hP' h₁₁
      refine st_whileE (fun n s => ∃ R M st' sn' z, F.P s R M (Δn z) ∧ R₇.le R ∧ DInv C Z σ a Out r M₆ R M st' sn' ∧ n = rest1 σ sn' + rest2 σ st' ∧ n ≤ rest1 σ sn + rest2 σ st) _ ⟨R₁₁, M₁₁, st', sn', z, F₁₁, l₁₁, D₁₁, rfl, hle⟩ ?_
      clear hle D₁₁ l₁₁ F₁₁
      rintro n s₁₂ ⟨R₁₂, M₁₂, st', sn', z, F₁₂, l₁₂, D₁₂, rfl, hle⟩
      rw [← hΔ] at F₁₂
      obtain ⟨vs, mS', eS, hvs⟩ := id D₁₂.sS
      have hstl := st_len D₁₂ hlen
      have hvl : vs.length = st'.length := by rw [hvs.length]; simp [encN]
      refine F₁₂.evT rm (evT_mul (ev_name rfl) eS (by rw [sizeLine_val]; omega)) fun s₁₃ R₁₃ lx F₁₃ => ?_
      have D₁₃ := D₁₂.le lx
      have l₁₃ := l₁₂.trans lx
      rcases List.eq_nil_or_concat st' with rfl | ⟨st₀, e, rfl⟩
      · cases vs with
        | cons _ _ => simp at hvl
        | nil =>
          rw [if_neg (by simp)]
          refine wpAny_execs_cons (wpAny_Break (hQw _ _ (st_nil (hQf _ _ ⟨R₁₃, M₁₂, l₁₃, D₁₃.off, F₁₃.toL _ ⟨rfl, rfl, rfl, rfl, rfl, rfl, trivial⟩, sn', D₁₃.base (fun _ _ => rfl), U.trans D₁₃.fr⟩))))
      · try rw [List.concat_eq_append] at *
        have hne : vs ≠ [] := fun q => by rw [q] at hvl; simp at hvl
        rw [if_pos (by simpa using hne)]
        refine cps fun Qe hQe => ?_
        obtain ⟨vs₀, v, rfl⟩ : ∃ vs₀ v, vs = vs₀ ++ [v] := ⟨vs.dropLast, vs.getLast hne, (List.dropLast_concat_getLast hne).symm⟩
        obtain ⟨hvs₀, hv⟩ := RdAll.snoc (ds := encN (st₀.map DE.k)) (d := .int (e.k : Int)) (by simpa [encN] using hvs)
        (have q_ := Rd.intE hv; clear hv; obtain ⟨_, rfl⟩ := q_)
        rename_i tk
        have S₁₃ := SM M₁₂ D₁₃.off
        obtain ⟨hq, ⟨oI, eI, hIt⟩, hek, heI, heMi, hesn⟩ := D₁₃.ent e (List.mem_append_right _ (by simp))
        obtain ⟨mI', eIs⟩ := id D₁₃.sI
        obtain ⟨oD, kvs, eD, hD', hkv⟩ := id D₁₃.sD
        obtain ⟨ws, m₂, esu, hws⟩ := S₁₃.suc e.k hek
        have hl0 : st₀.length ≤ 7 := by simp at hstl; omega
        have hkn : (e.k : Int) ∉ st₀.map (fun x => (x.k : Int)) := fun q => by
          obtain ⟨x, hx, q⟩ := List.mem_map.mp q
          have asc := D₁₃.asc
          rw [List.map_append, List.pairwise_append] at asc
          have := asc.2.2 (r x.k) (List.mem_map.mpr ⟨x, hx, rfl⟩) (r e.k) (by simp)
          have e' : x.k = e.k := by omega
          rw [e'] at this; omega
        have hkvl : kvs.length ≤ 7 := by
          have : kvs.length = (st₀ ++ [e]).length := by simpa using congrArg List.length hkv
          omega
        refine st_try_next F₁₃ rm hfr hf (L6.up D₁₃.fr) rfl (by simpa using eIs) (by rw [sizeLine_val]; simp; omega) hq eI hIt (fun q => heI (List.mem_append_right _ q)) esu hws (g_stop B) rfl (fun y' hy' s₁₄ R₁₄ o' l₁₄ hIt' F₁₄ => ?_) (fun hend s₁₄ R₁₄ M₁₄ ex l₁₄ F₁₄ ho hu => ?_)
        · have hym : y' ∈ σ.su e.k := List.mem_of_getElem? hy'
          have hlt : e.i < (σ.su e.k).length := (List.getElem?_eq_some_iff.mp hy').1
          obtain ⟨hyk, hyr⟩ := hsu e.k hek y' hym
          refine hQe _ _ (st_nil (hQw _ _ ⟨_, ?_, R₁₄, _, st₀ ++ [{ e with i := e.i + 1 }], sn', y', by rw [← hΔ]; exact F₁₄.toL _ ⟨rfl, rfl, rfl, rfl, rfl, rfl, rfl, trivial⟩, l₁₃.trans l₁₄, D₁₃.item l₁₄ hIt', hyk, fun x hx => ?_, rfl⟩))
          · rw [rest2_append] at hle ⊢
            dsimp only
            omega
          · rcases List.mem_append.mp hx with hx | hx
            · have asc := D₁₃.asc
              rw [List.map_append, List.pairwise_append] at asc
              have := asc.2.2 (r x.k) (List.mem_map.mpr ⟨x, hx, rfl⟩) (r e.k) (by simp)
              omega
            · rw [List.mem_singleton.mp hx]; exact hyr
        · have keepA : ∀ b o, b ∈ a.l → M₁₂ b = some o → M₁₄ b = some o := fun b o hb e' => ho b o (fun q => by
            rcases List.mem_cons.mp q with q | q
            · exact heI (List.mem_append_left _ (q ▸ hb))
            · exact dis4 b hb q) e'
          refine st_del_pop F₁₄ rfl rfl (keepA _ _ (by simp [Ad.l]) eD) hD' (by rw [sizeLine_val]; omega) (by rw [valueAt_keys, hkv]; simp) (keepA _ _ (by simp [Ad.l]) eS) (by rw [sizeLine_val]; simp at hvl; omega) nDS fun s₁₅ m₁₅ oD' hD'' F₁₅ => ?_
          refine st_expr (F₁₅.pop (vs := st₀.map fun x => .ref x.q) (v := .ref e.q) rfl ((Reg.set_ne _ _ nDI.symm).trans ((Reg.set_ne _ _ nIS).trans (keepA _ _ (by simp [Ad.l]) (by simpa using eIs)))) (by rw [sizeLine_val]; simp; omega) fun s₁₆ m₁₆ kb F₁₆ => ?_) F₁₅.quiet
          refine st_nil (st_nil (hQe _ _ ⟨_, ?_, R₁₄, _, st₀, sn', z, by rw [← hΔ]; exact F₁₆, l₁₃.trans l₁₄, D₁₃.pop nd dis4 l₁₄ ho hu hvs₀ hD'' (without_last (by simpa using hkv) hkn), rfl, ?_⟩))
          · rw [rest2_append]; omega
          · rw [rest2_append] at hle; omega
  · intro s₆ R₇ M₆ l₆ hk F₆ ⟨sn, D, U⟩
    refine st_ret F₆ rm ev_none fun s₇ R₈ v l₇ F₇ hv => ?_
    refine hQ _ _ ⟨R₈, M₆, _, Z, σ, _, F₇, U5.trans U, S5.on fun b o hb e => hk b o (fun q => ?_) e, ⟨rfl, rfl, rfl⟩, rfl, fun b hb => .inl hb, fun b hb => hb, hv⟩
    rcases List.mem_append.mp q with q | q
    · exact disZ b hb q
    · exact dis b q hb
end
end Mine
end
noncomputable section
open PySem PySem.W PyProof.Rows PySem.SeqAt PySem.MeetsSeq
set_option Elab.async false
set_option autoImplicit false
set_option maxRecDepth 100000
namespace Mine
section
variable {C : Cx} {s₀ : Shared} {R₀ : Reg} {V : List Addr} {sc : Scope} {env : Env} {W : List Addr} {s s' : Shared} {R R' Mu Mu' : Reg} {Δ Δ' : Vars} {n : Nat} {A : Around} {E : Value → Shared → Prop} {Q : Flow → Shared → Prop}
theorem Fra.begin1 {D : Addr} {o : Obj} (F : Fra C s₀ R₀ V sc env W s R Mu Δ) (k : Keeps s s') (hD : s.heap.get? D = none) (ho : s'.heap.get? D = some o) : R.le ((R.ext s.heap s'.heap).minus [D]) ∧ Fra C s₀ R₀ V sc env W s' ((R.ext s.heap s'.heap).minus [D]) (Mu.set D o) Δ := by
  have F' := F.begin (X := [D]) k (fun a ha => by rw [List.mem_singleton.mp ha]; exact hD)
  refine ⟨fun a oa e => Reg.minus_some (fun h => ?_) (Reg.ext_le F.ro.on a oa e), ?_⟩
  · have := F.ro.on a oa e
    rw [List.mem_singleton.mp h, hD] at this; (have q_ := oNS this; clear this; exact q_.elim)
  have e : (fun a => if a ∈ [D] then s'.heap.get? a else Mu a) = Mu.set D o := by
    funext a
    simp only [List.mem_singleton, Reg.set]
    by_cases h : a = D
    · subst h; simp only [if_true]; exact ho
    · simp only [h, if_false]
  rw [← e]; exact F'
/- a comprehension whose list is mutable -/
theorem Fra.lcM {α : Type} {L : List α} {enc : α → Dat} {tds : α → List Dat} {p : α → Bool} {f : α → Dat} {elt target iter : Expr} {ifs : List Expr} {pos : Pos} {scope : Scope} {Qv : Value → Shared → Prop} (xs : List Str)
    (F : Fra C s₀ R₀ V sc env W s R Mu Δ) (rm : Room n A) (hit : EvIt (C.at Mu) n sc Δ iter (L.map enc)) (hc : compOkB sc scope Δ xs = true)
    (hT : ∀ a ∈ L, Tgt target (enc a) xs (tds a)) (ht : ∀ a ∈ L, EvTs (C.at Mu) n (relab scope sc) (updAll (inner scope Δ) xs (tds a)) ifs (p a)) (he : ∀ a ∈ L, p a = true → Ev (C.at Mu) n (relab scope sc) (updAll (inner scope Δ) xs (tds a)) elt (f a)) (hlen : L.length ≤ sizeLine)
    (k : ∀ s' R' D ys m, R.le R' → s.heap.get? D = none → RdAll R' ys ((L.filter p).map f) → Fra C s₀ R₀ V sc env W s' R' (Mu.set D (lstObj ys m)) Δ → Qv (.ref D) s')
    (hs : ∀ env x, foldedSetIterable iter env x = pure x := by intro _ _; rfl) :
    wpAny C.M A (eval (.ListComp elt [⟨target, iter, ifs, 0⟩] scope pos) env) Qv E s := by
  rw [eval_ListComp]
  refine comp_run (C := C.at Mu) (use := none) rm F.rom F.eo hit (.of hc) hT ht he hlen (hs env) fun D C' s' kS hC hD hne hns hl => ?_
  obtain ⟨m, hm⟩ := hns
  obtain ⟨o, nn, ys, ho, hcl, hd, hr, rfl⟩ := hl
  refine ⟨m, hm, fun h' hs' => ?_⟩
  have kb : KeepsBut [C'] s' { s' with heap := h' } := ⟨h', s'.toks, rfl, fun b o hb e => hs'.extBut b o (by simpa using hb) e⟩
  have kS' := kb.keeps kS fun a ha => by rw [List.mem_singleton.mp ha]; exact hC
  obtain ⟨l, F'⟩ := F.begin1 kS' hD (hs'.extBut D _ hne ho)
  have hy : ({ cls := .type "list", data := .seq ys nn } : Obj) = lstObj ys.toList nn := by simp [lstObj]
  rw [hy] at F'
  refine k _ _ D ys.toList nn l hD (hr.mono fun a o e => ?_) F'
  have hn : a ∉ [C', D] := fun h => by rw [Reg.minus_off h] at e; (have q_ := oNS e; clear e; exact q_.elim)
  have e' := Reg.minus_le a o e
  refine Reg.minus_some (fun h => hn (by simp at h ⊢; exact .inr h)) ?_
  simp only [Reg.ext] at e' ⊢
  split at e'
  · exact e'
  · exact hs'.extBut a o (fun h => hn (by simp [h])) e'
/- a name gets a mutable list by a comprehension, stored straight -/
theorem st_lcM {α : Type} {L : List α} {enc : α → Dat} {tds : α → List Dat} {p : α → Bool} {f : α → Dat} {elt target iter : Expr} {ifs : List Expr} {pos : Pos} {scope : Scope} {x : Str} {px q : Pos} {rest : List Stmt} (xs : List Str)
    (F : Fra C s₀ R₀ V sc env W s R Mu Δ) (rm : Room n A) (hit : EvIt (C.at Mu) n sc Δ iter (L.map enc)) (hc : compOkB sc scope Δ xs = true)
    (hT : ∀ a ∈ L, Tgt target (enc a) xs (tds a)) (ht : ∀ a ∈ L, EvTs (C.at Mu) n (relab scope sc) (updAll (inner scope Δ) xs (tds a)) ifs (p a)) (he : ∀ a ∈ L, p a = true → Ev (C.at Mu) n (relab scope sc) (updAll (inner scope Δ) xs (tds a)) elt (f a)) (hlen : L.length ≤ sizeLine)
    (k : ∀ s' R' D ys m, R.le R' → s.heap.get? D = none → RdAll R' ys ((L.filter p).map f) → Fra C s₀ R₀ V sc env W s' R' (Mu.set D (lstObj ys m)) (upd Δ x (.val (.ref D))) → wpAny C.M A (execs rest env) Q E s')
    (hsB : swapB sc scope x px pos = true := by decide +kernel)
    (hx : sc.names.lookup x = some .local ∨ sc.names.lookup x = some .cell := by first | exact Or.inl rfl | exact Or.inr rfl)
    (hs : ∀ x, foldedSetIterable iter env x = pure x := by intro _; rfl) :
    wpAny C.M A (execs (.Assign [.Name x px] (.ListComp elt [⟨target, iter, ifs, 0⟩] scope pos) q :: rest) env) Q E s := by
  have hsw := swaps_eq (elt := elt) (gens := [⟨target, iter, ifs, 0⟩]) (scope := scope) (p := pos) (px := px) (x := x) (line := q.line) F.eo.hsc F.eo.fn
  rw [hsB] at hsw
  refine wpAny_execs_cons ?_
  rw [exec_Assign_Name_used _ _ _ _ hsw]
  refine wpAny_bind (wpAny_standAt (wpAny_bind ?_))
  show wpAny C.M A (do let _ ← comprehension (.ListComp elt [⟨target, iter, ifs, 0⟩] scope pos) scope env _ (newList []) false (eval iter env) (some (assign (.Name x px) env))) _ _ s
  refine wpAny_bind (wpAny_mono (comp_run (C := C.at Mu) (use := some (assign (.Name x px) env)) (Q := fun _ s' => ∃ R' D ys m, R.le R' ∧ s.heap.get? D = none ∧ RdAll R' ys ((L.filter p).map f) ∧ Fra C s₀ R₀ V sc env W s' R' (Mu.set D (lstObj ys m)) (upd Δ x (.val (.ref D)))) (E := E) rm F.rom F.eo hit (.of hc) hT ht he hlen hs ?_) (fun _ s' hq => wpAny_pure (wpAny_pure ?_)) fun _ _ e => e)
  · intro D C' s' kS hC hD hne hns hl
    obtain ⟨m, hm⟩ := hns
    obtain ⟨o, nn, ys, ho, hcl, hd, hr, rfl⟩ := hl
    have hCW : C' ∉ W := fun h => by obtain ⟨o, e⟩ := F.ew.isW h; rw [hC] at e; (have q_ := oNS e; clear e; exact q_.elim)
    obtain ⟨lD, F'⟩ := F.begin1 kS hD ho
    have hy : ({ cls := .type "list", data := .seq ys nn } : Obj) = lstObj ys.toList nn := by simp [lstObj]
    rw [hy] at F'
    have le' : R.le (((R.ext s.heap s'.heap).minus [D]).minus [C']) := fun a o e => Reg.minus_some (fun h => by
      have := F.ro.on a o e
      rw [List.mem_singleton.mp h, hC] at this; (have q_ := oNS this; clear this; exact q_.elim)) (lD a o e)
    have F₂ : Fra C s₀ R₀ V sc env W s' (((R.ext s.heap s'.heap).minus [D]).minus [C']) (Mu.set D (lstObj ys.toList nn)) Δ :=
      { F' with
        ro := ⟨F.ro.base.trans le', fun a o e => F'.ro.on a o (Reg.minus_le a o e), (fun _ _ e => nomatch e)⟩
        le := F.le.trans le'
        sub := fun a o e => F'.sub a o (Reg.minus_le a o e)
        ew := F.ew.keeps (Keeps.hle kS) le' (fun a ha => by
          cases x : ((R.ext s.heap s'.heap).minus [D]).minus [C'] a with
          | none => rfl
          | some o => have := F'.ew.offR a ha; rw [Reg.minus_le a o x] at this; (have q_ := oSN this; clear this; exact q_.elim))
        mu := fun a o e => by
          obtain ⟨h1, h2, h3, h4⟩ := F'.mu a o e
          refine ⟨h1, ?_, h3, h4⟩
          cases x : ((R.ext s.heap s'.heap).minus [D]).minus [C'] a with
          | none => rfl
          | some o => rw [Reg.minus_le a o x] at h2; cases h2 }
    have hv : RdAll (((R.ext s.heap s'.heap).minus [D]).minus [C']) ys.toList ((L.filter p).map f) := by
      refine hr.mono fun a o e => ?_
      have hn : a ∉ [C', D] := fun h => by rw [Reg.minus_off h] at e; (have q_ := oNS e; clear e; exact q_.elim)
      exact Reg.minus_some (fun h => hn (by simp at h ⊢; exact .inl h)) (Reg.minus_some (fun h => hn (by simp at h ⊢; exact .inr h)) (Reg.minus_le a o e))
    show wpAny C.M A (assign (.Name x px) env (.ref D)) _ _ _
    refine wpAny_assign_Name (F₂.store (.val (.ref D)) (fun s₃ kb₃ F₃ => ?_) hx)
    refine ⟨m, hm.at' fun o e => kb₃.get hCW e, fun h' hs' => ⟨_, D, ys.toList, nn, le', hD, hv, ?_⟩⟩
    have kb : KeepsBut [C'] s₃ { s₃ with heap := h' } := ⟨h', s₃.toks, rfl, fun b o hb e => hs'.extBut b o (by simpa using hb) e⟩
    have offC : ∀ a ∈ [C'], (((R.ext s.heap s'.heap).minus [D]).minus [C']) a = none := fun a ha => Reg.minus_off ha
    refine { F₃ with
      keep := ?_
      vnew := fun a ha => let ⟨o, e⟩ := F₃.vnew a ha; ⟨o, kb.get (fun h => ?_) e⟩
      ro := ⟨F₃.ro.base, kb.reg F₃.ro.on offC, (fun _ _ e => nomatch e)⟩
      ew := ?_
      mu := fun a o e => ?_ }
    · obtain ⟨hh, tk, rfl, xx⟩ := F₃.keep
      refine ⟨h', tk, rfl, fun b o hb eb => hs'.extBut b o (fun h => ?_) (xx b o hb eb)⟩
      have := F.keep.get hb eb
      rw [h, hC] at this; (have q_ := oNS this; clear this; exact q_.elim)
    · obtain ⟨o, e⟩ := F.vnew a ha
      rw [List.mem_singleton.mp h, hC] at e; (have q_ := oNS e; clear e; exact q_.elim)
    · have e := F₃.ew
      have hCc : ∀ y c, env.cells.lookup y = some c → c ≠ C' := fun y c h h' => by
        obtain ⟨o, _, z, _⟩ := F.ew.calive y c h; rw [h', hC] at z; (have q_ := oNS z; clear z; exact q_.elim)
      refine ⟨⟨e.ok.hsc, e.ok.fn, e.ok.gl, e.ok.bl, fun y dy ey => ?_⟩, let ⟨m, x⟩ := e.ns; ⟨m, x.sameBut hs' fun h => hCW (h ▸ e.locW)⟩, e.locW, fun c hc hn => let ⟨v, x⟩ := e.alive c hc hn; ⟨v, x.sameBut hs' fun h => hCW (h ▸ hc)⟩, e.offR, e.inj, e.locne, fun y c h => let ⟨o, z⟩ := e.calive y c h; ⟨o, z.sameBut hs' (hCc y c h)⟩⟩
      obtain ⟨v, hv, hr⟩ := e.ok.vars y dy ey
      refine ⟨v, ?_, hr⟩
      rcases hv with ⟨a1, m1, a2, a3⟩ | ⟨a1, c1, a2, a3⟩ | ⟨a1, c1, a2, a3⟩
      · exact .inl ⟨a1, m1, a2.sameBut hs' fun h => hCW (h ▸ e.locW), a3⟩
      · exact .inr (.inl ⟨a1, c1, a2, a3.sameBut hs' (hCc _ _ a2)⟩)
      · exact .inr (.inr ⟨a1, c1, a2, a3.sameBut hs' (hCc _ _ a2)⟩)
    · obtain ⟨h1, h2, h3, h4⟩ := F₃.mu a o e
      refine ⟨kb.get (fun h => ?_) h1, h2, h3, h4⟩
      have hC' := List.mem_singleton.mp h
      by_cases haD : a = D
      · exact hne (haD ▸ hC')
      · rw [Reg.set_ne _ _ haD] at e
        obtain ⟨g1, _⟩ := F.mu a o e
        rw [hC', hC] at g1; (have q_ := oNS g1; clear g1; exact q_.elim)
  · obtain ⟨R', D, ys, m, hR, hD, hv, F'⟩ := hq
    exact k s' R' D ys m hR hD hv F'
end
end Mine
end
noncomputable section
open PySem PySem.W PyProof.Rows PySem.SeqAt PySem.MeetsSeq
set_option Elab.async false
set_option autoImplicit false
set_option maxRecDepth 100000
namespace Mine
theorem RdAll.ofNats {R R' : Reg} : ∀ {vs : List Value} {l : List Nat}, RdAll R vs (encN l) → RdAll R' vs (encN l)
  | _, [], h => by (have q_ := RdAll.nilE h; clear h; subst q_); exact .nil
  | _, k :: l, h => by
    cases h with
    | cons h r => (have q_ := Rd.intE h; clear h; obtain ⟨_, rfl⟩ := q_); exact .cons (.int _ _) (RdAll.ofNats r)
noncomputable def Srt.withq (Z : Srt) (D : Addr) : Srt := { Z with q := D, role := fun a => if a = D then .q else Z.role a }
theorem SAt.newq {C : Cx} {cT cN : Addr} {M : Reg} {Z : Srt} {σ : Sd} {D : Addr} {ys : List Value} {m n : Nat} {l : List Nat} {h : Nat → Int} {t : Nat → Tok} (S : SAt C cT cN M Z σ) (hrd : σ.rd = none) (hD : M D = none) (hys : RdAll noM ys (encN l)) :
    SAt C cT cN ((M.set D (lstObj ys m)).set Z.d (dictOf (sEnts Z (.ref D) σ.po σ.nf h t) n)) (Z.withq D) { σ with rd := some l } := by
  have ne : ∀ {a x}, Z.role a = x → x ≠ .d → a ≠ Z.d := fun ha hx => role_ne ha S.rd hx
  have nD : ∀ {a : Addr} {o : Obj}, M a = some o → a ≠ D := fun {a o} e q => by rw [q, hD] at e; (have q_ := oNS e; clear e; exact q_.elim)
  obtain ⟨hh, tt, nn, ed⟩ := S.d
  have g : ∀ {a : Addr} {x : Role} {o : Obj}, Z.role a = x → x ≠ .d → M a = some o → ((M.set D (lstObj ys m)).set Z.d (dictOf (sEnts Z (.ref D) σ.po σ.nf h t) n)) a = some o := fun ha hx e => by
    rw [Reg.set_ne _ _ (ne ha hx), Reg.set_ne _ _ (nD e)]; exact e
  have rr : ∀ {a : Addr} {o : Obj}, M a = some o → (Z.withq D).role a = Z.role a := fun e => by simp [Srt.withq, nD e]
  exact { s := g S.rs (by simp) S.s
          d := ⟨h, t, n, Reg.set_self _ _ _⟩
          D := let ⟨o, e, r⟩ := S.D; ⟨o, g S.rD (by simp) e, r⟩
          inf := fun k hk => let ⟨t, u, e⟩ := S.inf k hk; ⟨t, u, g (S.rinf k hk) (by simp) e⟩
          emp := fun k hk => g (S.remp k hk) (by simp) (S.emp k hk)
          suc := fun k hk => let ⟨vs, n, e, r⟩ := S.suc k hk; ⟨vs, n, g (S.rsuc k hk) (by simp) e, r⟩
          q := fun l' hl => by
            (have q_ := oSS hl; clear hl; subst q_)
            refine ⟨ys, m, ?_, hys⟩
            show ((M.set D (lstObj ys m)).set Z.d _) D = _
            rw [Reg.set_ne _ _ (nD ed).symm, Reg.set_self]
          rs := (rr S.s).trans S.rs
          rd := (rr ed).trans S.rd
          rD := let ⟨o, e, r⟩ := S.D; (rr e).trans S.rD
          rq := fun _ => by simp [Srt.withq]
          rinf := fun k hk => let ⟨t, u, e⟩ := S.inf k hk; (rr e).trans (S.rinf k hk)
          remp := fun k hk => (rr (S.emp k hk)).trans (S.remp k hk)
          rsuc := fun k hk => let ⟨vs, n, e, r⟩ := S.suc k hk; (rr e).trans (S.rsuc k hk)
          nod := S.nod
          sm := S.sm
          len := S.len }
section
variable {C : Cx} (B : Base C (K1 C)) {Z : Srt} {σ : Sd}
include B
theorem prep_spec {r : Nat → Nat} (hrd : σ.rd = none) (hsu : ∀ k ∈ σ.ks, ∀ j ∈ σ.su k, j ∈ σ.ks ∧ r k < r j) : FCall C aT aN 3 aPrep [] Z σ (fun Z' σ' d => σ' = { σ with rd := some (σ.ks.filter fun k => decide (σ.np k = 0)) } ∧ d = .none) := by
  refine fcall_fn (xs := [Str.ofString "self"]) (es := [.val (.ref Z.s)]) (fnC B rfl (by kernel_rfl!) rfl (by kernel_rfl!)) rfl (fun R s vs ro _ hr => by (have q_ := RdAll.nilE hr; clear hr; subst q_); exact bnd_plain ro (by kernel_rfl!) (.cons (.val _) .nil)) ?_
  intro A Out env W s₀ s R R₁ Mu hsc hf hfr Lv dis rm F S
  refine cps fun Q hQ => ?_
  obtain ⟨h, t, n, hd⟩ := S.d
  have hrv : rdV Z σ.rd = .none := by rw [hrd]; rfl
  rw [hrv] at hd
  refine st_if F rm (evT_cmp (ev_own B.at (k_rdy _) (ev_name rfl) S.s hd look_rdy) ev_none op_isnot_none) fun s₁ R₂ l₁ F₁ => ?_
  refine st_nil ?_
  obtain ⟨od, hD, hdo⟩ := S.D
  have hcast : (nodePairs σ.ks Z.inf).map (fun kv => Dat.val kv.2) = σ.ks.map fun (k : Nat) => Dat.val (.ref (Z.inf k)) := by simp [nodePairs]
  refine wpAny_execs_cons (plainObj_wpAny_Assign_Attribute (F₁.lcM (L := σ.ks) (enc := fun k => Dat.val (.ref (Z.inf k))) (tds := fun k => [Dat.val (.ref (Z.inf k))]) (p := fun k => decide (σ.np k = 0)) (f := fun k => Dat.int (k : Int)) [Str.ofString "i"] rm
    (hcast ▸ evIt_values (ev_own B.at (k_n2i _) (ev_name rfl) S.s hd look_n2i) hD hdo S.sm) rfl (fun _ _ => ⟨rfl, rfl⟩) (fun k hk => ?_) (fun k hk _ => ?_) (by rw [sizeLine_val]; have := S.len; omega) fun s₂ R₃ D ys m l₂ hD0 hys F₂ => ?_) rfl)
  · obtain ⟨t', u', hin⟩ := S.inf k hk
    exact (show (σ.np k == 0) = decide (σ.np k = 0) from rfl) ▸ evT_cmp (Ev.asInt (ev_slot B.at (k_np _) (ev_name rfl) hin (S.emp k hk) rfl)) ev_int op_eq_int
  · obtain ⟨t', u', hin⟩ := S.inf k hk
    exact Ev.asInt (ev_slot B.at (k_node _) (ev_name rfl) hin (S.emp k hk) rfl)
  · have mD := F₁.noMu hD0
    have nD : ∀ {a : Addr} {o : Obj}, Mu a = some o → a ≠ D := fun {a o} e q => by rw [q, mD] at e; (have q_ := oNS e; clear e; exact q_.elim)
    have hx₂ : (Mu.set D (lstObj ys m)) Z.s = some (insObj aT Z.d #[]) := by rw [Reg.set_ne _ _ (nD S.s)]; exact S.s
    have hd₂ : (Mu.set D (lstObj ys m)) Z.d = some (dictOf (sEnts Z .none σ.po σ.nf h t) n) := by rw [Reg.set_ne _ _ (nD hd)]; exact hd
    refine F₂.ev rm (d := .val (.ref Z.s)) (ev_name rfl) fun ov s₃ R₄ l₃ k₃ hov F₃ => ?_
    (have q_ := Rd.valE hov; clear hov; subst q_)
    have r₃ := F₃.rom
    have O := k_rdy C
    refine setA_own (B.ins r₃.hle0) (r₃.mu _ _ hx₂) (r₃.mu _ _ hd₂) O.set O.over O.take O.dict (by rw [getL_rdy]; rfl) rfl (by rw [put_rdy, sEnts_len]; omega) fun h' hsb hg => ?_
    have F₄ := F₃.mut (tk := s₃.toks + 2) hd₂ (fun _ q => nomatch q) hsb hg
    rw [put_rdy] at F₄
    have S₄ := S.newq (m := m) (n := (putN (Str.ofString "_ready_nodes") (sEnts Z .none σ.po σ.nf h t) n)) (h := h) (t := t) hrd mD (RdAll.ofNats (R' := noM) hys)
    obtain ⟨h₄, t₄, n₄, hd₄⟩ := S₄.d
    generalize hM₄ : ((Mu.set D (lstObj ys m)).set Z.d (dictOf (sEnts Z (.ref D) σ.po σ.nf h t) (putN (Str.ofString "_ready_nodes") (sEnts Z .none σ.po σ.nf h t) n)) : Reg) = M₄ at F₄ S₄ hd₄
    change Reg at M₄
    have offM : ∀ b, b ≠ D → b ≠ Z.d → M₄ b = Mu b := fun b h1 h2 => by rw [← hM₄, Reg.set_ne _ _ h2, Reg.set_ne _ _ h1]
    have frd : ∀ b ∈ frs Out, b ≠ D ∧ b ≠ Z.d := fun b hb => by
      obtain ⟨o, e, _⟩ := Lv.obj hb
      exact ⟨nD e, fun q => dis b hb (q ▸ Srt.mem_all.mpr (.inr (.inl rfl)))⟩
    have U₄ : UpTo (frs Out) Mu M₄ := .of fun b hb o e => by rw [offM b (frd b hb).1 (frd b hb).2]; exact e
    have memZ : ∀ a, a ∈ (Z.withq D).all { σ with rd := some (σ.ks.filter fun k => decide (σ.np k = 0)) } → a ∈ Z.all σ ∨ a = D := fun a ha => by
      rcases Srt.mem_all.mp ha with h | h | h | ⟨_, h⟩ | h
      · exact .inl (Srt.mem_all.mpr (.inl h))
      · exact .inl (Srt.mem_all.mpr (.inr (.inl h)))
      · exact .inl (Srt.mem_all.mpr (.inr (.inr (.inl h))))
      · exact .inr h
      · exact .inl (Srt.mem_all.mpr (.inr (.inr (.inr (.inr h)))))
    have memZ' : ∀ a, a ∈ Z.all σ → a ∈ (Z.withq D).all { σ with rd := some (σ.ks.filter fun k => decide (σ.np k = 0)) } := fun a ha => by
      rcases Srt.mem_all.mp ha with h | h | h | ⟨q, h⟩ | h
      · exact Srt.mem_all.mpr (.inl h)
      · exact Srt.mem_all.mpr (.inr (.inl h))
      · exact Srt.mem_all.mpr (.inr (.inr (.inl h)))
      · exact absurd hrd q
      · exact Srt.mem_all.mpr (.inr (.inr (.inr (.inr h))))
    show wpAny C.M A (execs _ env) _ _ _
    refine st_set F₄ (F₄.fmeth0 (Z := Z.withq D) rm B (k_cyc C) hfr hf (Lv.up U₄) (fun b hb hz => ?_) S₄ hd₄ look_cyc (ev_name rfl) (find_spec B (r := r) hsu) fun v s' R' Mu' Z' σ' d hP hs l hv F' S' hn ho hoff hup => ?_)
    · rcases memZ b hz with q | q
      · exact dis b hb q
      · exact (frd b hb).1 q
    · obtain ⟨rfl, rfl, rfl⟩ := hP
      refine ⟨R', Mu', _, F', hv, fun s₆ F₆ => ?_⟩
      refine st_if F₆ rm (evT_plain (b := false) (ev_name rfl) fun A s R v rm ro hv => ?_) fun s₇ R₇ l₇ F₇ => ?_
      · (have q_ := Rd.noneE hv; clear hv; subst q_)
        exact PyProof.Rows.truthy_none ⟨Keeps.rfl' _, rfl⟩
      · refine st_nil (st_nil (hQ _ _ ⟨R₇, Mu', _, _, _, .none, F₇, U₄.trans hup, S', ⟨rfl, rfl⟩, rfl, fun b hb => ?_, memZ', .none⟩))
        rcases memZ b hb with q | q
        · exact .inl q
        · exact .inr (q ▸ F₁.dead hD0)
end
end Mine
end
noncomputable section
/-! bits of ints, plain -/
set_option autoImplicit false
namespace Mine
noncomputable def Bits (m : Nat) (x : Int) : Prop := x.natAbs < 2 ^ m
theorem Bits.mono {a b : Nat} {x : Int} (h : Bits a x) (hab : a ≤ b) : Bits b x := Nat.lt_of_lt_of_le h (Nat.pow_le_pow_right (by decide) hab)
theorem Bits.mul {a b : Nat} {x y : Int} (hx : Bits a x) (hy : Bits b y) : Bits (a + b) (x * y) := by
  unfold Bits at *
  rw [Int.natAbs_mul, Nat.pow_add]
  exact Nat.mul_lt_mul_of_lt_of_le hx (Nat.le_of_lt hy) (Nat.pow_pos (by decide))
theorem Bits.add {a : Nat} {x y : Int} (hx : Bits a x) (hy : Bits a y) : Bits (a + 1) (x + y) := by
  unfold Bits at *
  rw [Nat.pow_succ]; omega
theorem Bits.sign (k : Nat) : Bits 1 ((-1) ^ k) := by
  unfold Bits
  rw [Int.natAbs_pow]
  simp
theorem Bits.smul {b : Nat} {x : Int} (k : Nat) (h : Bits b x) : Bits b ((-1) ^ k * x) := by
  unfold Bits at *
  rw [Int.natAbs_mul, Int.natAbs_pow]
  simpa using h
theorem Bits.sum_le {b : Nat} : ∀ (l : List Int), (∀ x ∈ l, Bits b x) → l.sum.natAbs ≤ l.length * (2 ^ b - 1)
  | [], _ => by simp
  | x :: l, h => by
    have ih := Bits.sum_le l fun y hy => h y (List.mem_cons_of_mem _ hy)
    have hx := h x List.mem_cons_self
    unfold Bits at hx
    rw [List.sum_cons, List.length_cons, Nat.add_mul, Nat.one_mul]
    omega
theorem Bits.sum {b k : Nat} {l : List Int} (h : ∀ x ∈ l, Bits b x) (hl : l.length ≤ 2 ^ k) : Bits (b + k) l.sum := by
  have h1 := Bits.sum_le l h
  unfold Bits
  have hp : 0 < 2 ^ b := Nat.pow_pos (by decide)
  have h2 : l.length * (2 ^ b - 1) ≤ 2 ^ k * (2 ^ b - 1) := Nat.mul_le_mul_right _ hl
  have h3 : 2 ^ k * (2 ^ b - 1) < 2 ^ k * 2 ^ b := Nat.mul_lt_mul_of_pos_left (by omega) (Nat.pow_pos (by decide))
  rw [Nat.add_comm, Nat.pow_add]
  omega
theorem Bits.one : Bits 1 1 := by unfold Bits; decide
theorem Bits.zero (b : Nat) : Bits b 0 := Nat.pow_pos (by decide)

/-! the determinant, by the first row -/
noncomputable def cutR (k : Nat) (r : List Int) : List Int := r.take k ++ r.drop (k + 1)
noncomputable def detN : Nat → List (List Int) → Int
  | _, [] => 1
  | 0, _ => 1
  | m + 1, r :: rows => ((List.range (rows.length + 1)).map fun k => (-1) ^ k * r.getD k 0 * detN m (rows.map (cutR k))).sum
theorem cutR_mem {k : Nat} {r : List Int} {x : Int} (h : x ∈ cutR k r) : x ∈ r := by
  rcases List.mem_append.mp h with h | h
  · exact List.mem_of_mem_take h
  · exact List.mem_of_mem_drop h
theorem cutR_len {k : Nat} {r : List Int} (h : k < r.length) : (cutR k r).length = r.length - 1 := by
  unfold cutR; rw [List.length_append, List.length_take, List.length_drop]; omega
theorem getD_some {r : List Int} {i : Nat} (h : i < r.length) : r[i]? = some (r.getD i 0) := by
  rw [List.getD_eq_getElem?_getD, List.getElem?_eq_getElem h]; rfl
theorem getD_mem {r : List Int} {i : Nat} (h : i < r.length) : r.getD i 0 ∈ r := List.mem_of_getElem? (getD_some h)
theorem getD_bits {b : Nat} {r : List Int} {i : Nat} (h : ∀ x ∈ r, Bits b x) : Bits b (r.getD i 0) := by
  by_cases hi : i < r.length
  · exact h _ (getD_mem hi)
  · rw [List.getD_eq_getElem?_getD, List.getElem?_eq_none (by omega)]; exact Bits.zero b
theorem det_bits (b m : Nat) : ∀ (tb : List (List Int)), tb.length ≤ 4 → (∀ r ∈ tb, ∀ x ∈ r, Bits b x) → Bits (tb.length * (b + 2) + 1) (detN m tb) := by
  induction m with
  | zero =>
    intro tb _ _
    have : detN 0 tb = 1 := by cases tb <;> rfl
    rw [this]; exact Bits.one.mono (by omega)
  | succ m ih =>
    intro tb h4 hb
    cases tb with
    | nil => exact Bits.one.mono (by omega)
    | cons r rows =>
      have hl : rows.length ≤ 4 := by simp at h4; omega
      have key : ∀ x ∈ ((List.range (rows.length + 1)).map fun k => (-1) ^ k * r.getD k 0 * detN m (rows.map (cutR k))), Bits (b + (rows.length * (b + 2) + 1)) x := by
        intro x hx
        obtain ⟨k, _, rfl⟩ := List.mem_map.mp hx
        refine Bits.mul (Bits.smul k (getD_bits (hb r (by simp)))) ?_
        have := ih (rows.map (cutR k)) (by simpa using hl) fun q hq x hx => by
          obtain ⟨q', hq', rfl⟩ := List.mem_map.mp hq
          exact hb q' (by simp [hq']) x (cutR_mem hx)
        simpa using this
      have := Bits.sum (k := 2) key (by simp at h4 ⊢; omega)
      refine this.mono ?_
      rw [List.length_cons, Nat.add_mul]; omega

/-! all ways apart, step by step -/
noncomputable def headB (rec : Int → List Int → List Int → List Int → Int) (here : Int) (used : List Int) : List Int → List Int → Int
  | [], ends => if ends.contains here then (-1) ^ (ends.idxOf here) else 0
  | s :: st, ends => if ends.contains here then (if used.contains s then 0 else (-1) ^ (ends.idxOf here) * rec s (used ++ [s]) st (cutR (ends.idxOf here) ends)) else 0
noncomputable def apartB (rec : Int → List Int → List Int → List Int → Int) (ways : List (List (Int × Int))) (here : Int) (used starts ends : List Int) : Int :=
  headB rec here used starts ends + ((ways.getD here.toNat []).map fun p => if used.contains p.1 then 0 else p.2 * rec p.1 (used ++ [p.1]) starts ends).sum
noncomputable def apartN (ways : List (List (Int × Int))) : Nat → Int → List Int → List Int → List Int → Int
  | 0 => apartB (fun _ _ _ _ => 0) ways
  | m + 1 => apartB (apartN ways m) ways
theorem apart_bits {ways : List (List (Int × Int))} {b : Nat} (hw : ∀ l ∈ ways, l.length ≤ 15 ∧ ∀ p ∈ l, Bits b p.2) : ∀ (m : Nat) (here : Int) (used starts ends : List Int), Bits ((m + 1) * (b + 5) + 1) (apartN ways m here used starts ends) := by
  have step : ∀ (β : Nat) (rec : Int → List Int → List Int → List Int → Int), (∀ a b c d, Bits β (rec a b c d)) → 1 ≤ β → ∀ here used starts ends, Bits (β + b + 5) (apartB rec ways here used starts ends) := by
    intro β rec hr hβ here used starts ends
    unfold apartB
    refine Bits.add (a := β + b + 4) ?_ ?_
    · cases starts with
      | nil =>
        simp only [headB]
        split
        · exact (Bits.sign _).mono (by omega)
        · exact Bits.zero _
      | cons s st =>
        simp only [headB]
        split
        · split
          · exact Bits.zero _
          · exact (Bits.smul _ (hr _ _ _ _)).mono (by omega)
        · exact Bits.zero _
    · refine Bits.sum (k := 4) (b := β + b) ?_ ?_
      · intro x hx
        obtain ⟨p, hp, rfl⟩ := List.mem_map.mp hx
        split
        · exact Bits.zero _
        · have hpb : Bits b p.2 := by
            by_cases hi : here.toNat < ways.length
            · rw [List.getD_eq_getElem?_getD, List.getElem?_eq_getElem hi] at hp
              exact (hw _ (List.getElem_mem hi)).2 p hp
            · rw [List.getD_eq_getElem?_getD, List.getElem?_eq_none (by omega)] at hp; cases hp
          have := Bits.mul hpb (hr p.1 (used ++ [p.1]) starts ends)
          exact this.mono (by omega)
      · rw [List.length_map]
        by_cases hi : here.toNat < ways.length
        · rw [List.getD_eq_getElem?_getD, List.getElem?_eq_getElem hi]
          have := (hw _ (List.getElem_mem hi)).1
          simp; omega
        · rw [List.getD_eq_getElem?_getD, List.getElem?_eq_none (by omega)]; simp
  intro m
  induction m with
  | zero =>
    intro here used starts ends
    exact (step 1 _ (fun _ _ _ _ => Bits.zero _) (Nat.le_refl _) here used starts ends).mono (by omega)
  | succ m ih =>
    intro here used starts ends
    refine (step _ _ ih (by omega) here used starts ends).mono ?_
    have : (m + 1 + 1) * (b + 5) = (m + 1) * (b + 5) + (b + 5) := by rw [Nat.succ_mul]
    omega
theorem nodup_len {α : Type} [BEq α] [LawfulBEq α] : ∀ {l M : List α}, l.Nodup → (∀ x ∈ l, x ∈ M) → l.length ≤ M.length
  | [], _, _, _ => Nat.zero_le _
  | a :: l, M, hn, hs => by
    rw [List.nodup_cons] at hn
    have ha := hs a List.mem_cons_self
    have h1 := nodup_len (M := M.erase a) hn.2 fun x hx => by
      have hne : x ≠ a := fun h => hn.1 (h ▸ hx)
      exact (List.mem_erase_of_ne hne).mpr (hs x (List.mem_cons_of_mem _ hx))
    rw [List.length_erase_of_mem ha] at h1
    have := List.length_pos_of_mem ha
    rw [List.length_cons]; omega
/- seven distinct names below seven are all of them -/
theorem all_used {used : List Int} (hn : used.Nodup) (hr : ∀ x ∈ used, 0 ≤ x ∧ x < 7) (hl : 7 ≤ used.length) {x : Int} (h0 : 0 ≤ x) (h7 : x < 7) : used.contains x = true := by
  cases hc : used.contains x with
  | true => rfl
  | false =>
    exfalso
    have hx : x ∉ used := by simpa using hc
    have hsub : ∀ y ∈ x :: used, y ∈ ([0, 1, 2, 3, 4, 5, 6] : List Int) := fun y hy => by
      have : 0 ≤ y ∧ y < 7 := by
        rcases List.mem_cons.mp hy with rfl | hy
        · exact ⟨h0, h7⟩
        · exact hr y hy
      have : y = 0 ∨ y = 1 ∨ y = 2 ∨ y = 3 ∨ y = 4 ∨ y = 5 ∨ y = 6 := by omega
      simpa using this
    have := nodup_len (List.nodup_cons.mpr ⟨hx, hn⟩) hsub
    simp at this; omega
end Mine
end
noncomputable section
open PySem PySem.W PyProof.Rows PySem.SeqAt PySem.MeetsSeq
set_option Elab.async false
set_option autoImplicit false
set_option maxRecDepth 100000
namespace Mine
noncomputable def encR (r : List Int) : Dat := .lst (r.map Dat.int)
noncomputable def encT (t : List (List Int)) : Dat := .lst (t.map encR)
theorem intBits_le {m : Nat} {x : Int} (h : Bits m x) : Builtin.Int.intBits x ≤ m := by
  unfold Builtin.Int.intBits
  split
  · exact Nat.zero_le _
  · rename_i hx
    have h0 : x.natAbs ≠ 0 := by intro h; apply hx; simp at h; simp [h]
    exact (Nat.log2_lt h0).mpr h
theorem mulOk {a b : Nat} {x y : Int} (hx : Bits a x) (hy : Bits b y) (h : a + b ≤ 2 ^ 27) : IntMulOk x y := by
  have h1 := intBits_le hx
  have h2 := intBits_le hy
  unfold IntMulOk Builtin.Int.intTooBig bitsLine
  simp only [Bool.and_eq_true, decide_eq_true_eq, not_and]
  intro _ _
  omega
section
variable {C : Cx} (B : Base C (K1 C))
include B
theorem det_spec (m : Nat) : ∀ (tb : List (List Int)), tb.length ≤ m → tb.length ≤ 3 → (∀ r ∈ tb, r.length = tb.length) → (∀ r ∈ tb, ∀ x ∈ r, Bits (2 ^ 23) x) → CallOp C (m + 1) (.ref 165) [encT tb] (.int (detN m tb)) := by
  induction m with
  | zero =>
    intro tb hl
    have : tb = [] := List.eq_nil_of_length_eq_zero (Nat.le_zero.mp hl)
    subst this
    intro _ _ _
    refine callop_fn (xs := [Str.ofString "table"]) (fnOk B rfl (by kernel_rfl!) rfl (by kernel_rfl!) (bind1 fun _ => by kernel_rfl!)) rfl ?_
    intro A env W s₀ s R hsc rm F
    refine st_if F rm (evT_cmp (ev_name rfl) (ev_list evAll_nil) op_eq_nilm) fun s₁ R₁ l₁ F₁ => ?_
    exact st_ret F₁ rm ev_int fun s₂ R₂ v l₂ F₂ hv => ⟨v, rfl, F₂.post hv⟩
  | succ m ih =>
    intro tb hl h3 hw hb
    refine callop_fn (xs := [Str.ofString "table"]) (fnOk B rfl (by kernel_rfl!) rfl (by kernel_rfl!) (bind1 fun _ => by kernel_rfl!)) rfl ?_
    intro A env W s₀ s R hsc rm F
    refine st_if F rm (evT_cmp (ev_name rfl) (ev_list evAll_nil) op_eq_nilm) fun s₁ R₁ l₁ F₁ => ?_
    cases tb with
    | nil => exact st_ret F₁ rm ev_int fun s₂ R₂ v l₂ F₂ hv => ⟨v, rfl, F₂.post hv⟩
    | cons r rows =>
      have hlen : (r :: rows).length ≤ sizeLine := by rw [sizeLine_val]; omega
      have hrl : r.length = rows.length + 1 := hw r (by simp)
      have hcl : rows.length + 1 ≤ 3 := by simpa using h3
      refine st_nil ?_
      refine st_assign F₁ rm ev_int fun s₂ R₂ l₂ F₂ => ?_
      refine st_for (L := rangeI 0 (((r :: rows).length : Nat) : Int)) (enc := Dat.int) (tds := fun k => [.int k]) [Str.ofString "k"] [] (fun i => ofL [(Str.ofString "table", encT (r :: rows)), (Str.ofString "total", .int (((List.range i).map fun k => (-1) ^ k * r.getD k 0 * detN m (rows.map (cutR k))).sum))]) (fun _ _ _ => True)
        F₂ rm (evIt_range1 (ev_glob (g_range B.at) rfl) (ev_callb (ev_glob (g_len B.at) rfl) (evAll_cons (ev_name rfl) evAll_nil) (call_lenm hlen)) (by rw [sizeLine_val] at hlen; omega)) (AllIn.le ⟨rfl, rfl, trivial⟩) (by simp) (by decide +kernel) (fun a _ => ⟨rfl, rfl⟩) (fun _ _ _ _ _ _ _ _ => trivial) trivial ?_ ?_
      · intro i a s₃ R₃ Mu₃ hi l₃ _ F₃ _
        obtain ⟨rfl, hilt⟩ := rangeI_get hi
        have hi' : i < rows.length + 1 := by simpa using hilt
        rw [Int.zero_add] at F₃
        refine st_lc0 (L := rows) (enc := encR) (tds := fun r => [encR r]) (f := fun r => encR (cutR i r)) [Str.ofString "row"] F₃ rm (evIt_lst ((ev_from (ev_name rfl) ev_int (by decide) hlen))) (by kernel_rfl!) (fun _ _ => ⟨rfl, rfl⟩) ?_ (by simp at hlen; omega) fun s₄ R₄ l₄ F₄ => ?_
        · intro row hrow
          have hrl' : row.length ≤ 3 := by have := hw row (by simp [hrow]); simp at this; omega
          refine Ev.cast (ev_bin (ev_upto (l := row) (g := Dat.int) (ev_name rfl) (ev_name rfl) (by omega) (by rw [sizeLine_val]; omega)) (ev_from (l := row) (g := Dat.int) (ev_name rfl) (ev_bin (ev_name rfl) ev_int op_add) (by omega) (by rw [sizeLine_val]; omega)) (op_catm (by rw [sizeLine_val]; simp; omega))) ?_
          rfl
        · rw [show rows.map (fun r => encR (cutR i r)) = (rows.map (cutR i)).map encR from by simp] at F₄
          have hb1 : Bits (2 ^ 23) (r.getD i 0) := getD_bits (hb r (by simp))
          have hbr : ∀ q ∈ rows.map (cutR i), ∀ x ∈ q, Bits (2 ^ 23) x := fun q hq x hx => by
            obtain ⟨q', hq', rfl⟩ := List.mem_map.mp hq
            exact hb q' (by simp [hq']) x (cutR_mem hx)
          have hb2 : Bits (2 ^ 26) (detN m (rows.map (cutR i))) := by
            refine (det_bits (2 ^ 23) m (rows.map (cutR i)) (by simp; omega) hbr).mono ?_
            have : (rows.map (cutR i)).length ≤ 2 := by simp; omega
            generalize (rows.map (cutR i)).length = j at this
            rw [show (2 : Nat) ^ 23 = 8388608 from by decide, show (2 : Nat) ^ 26 = 67108864 from by decide]
            omega
          have hsq : ∀ q ∈ rows.map (cutR i), q.length = (rows.map (cutR i)).length := fun q hq => by
            obtain ⟨q', hq', rfl⟩ := List.mem_map.mp hq
            have := hw q' (by simp [hq'])
            rw [cutR_len (by simp at this; omega)]
            simp at this ⊢; omega
          refine st_aug F₄ rm rfl (ev_bin (ev_bin (ev_bin (ev_un ev_int op_neg) (ev_name rfl) (op_pow (by omega) (by omega) (by decide))) (ev_sub (ev_sub (ev_name rfl) ev_int (op_itemm (l := r :: rows) (g := encR) (x := r) rfl (by decide) hlen)) (ev_name rfl) (op_itemm (l := r) (g := Dat.int) (x := r.getD i 0) (getD_some (by omega)) (by omega) (by rw [sizeLine_val]; omega))) (op_mul (mulOk (Bits.sign i) hb1 (by decide))))
            (ev_callf (ev_glob (g_det B.at) rfl) (B.K 165 _ rfl) rfl (evAll_cons (ev_name rfl) evAll_nil) (ih (rows.map (cutR i)) (by simpa using hl) (by simp; omega) hsq hbr)) (op_mul (mulOk (Bits.smul i hb1) hb2 (by decide)))) op_iadd fun s₅ R₅ l₅ F₅ => st_nil ⟨R₅, _, (l₄.trans l₅), fun _ _ _ e => e, F₅.toL _ ⟨rfl, ?_, trivial⟩, trivial⟩
          rw [List.range_succ, List.map_append, List.sum_append]
          simp only [List.map_cons, List.map_nil, List.sum_cons, List.sum_nil, Int.add_zero]
          rfl
      · intro s₃ R₃ Mu₃ l₃ _ F₃ _
        refine st_ret F₃ rm (ev_name rfl) fun s₄ R₄ v l₄ F₄ hv => ⟨v, rfl, F₄.post ?_⟩
        simpa [rangeI_len, detN] using hv
end
end Mine
end
noncomputable section
open PySem PySem.W PyProof.Rows PySem.SeqAt PySem.MeetsSeq
set_option Elab.async false
set_option autoImplicit false
set_option maxRecDepth 100000
namespace Mine
noncomputable def encI (l : List Int) : Dat := .lst (l.map Dat.int)
noncomputable def encP (p : Int × Int) : Dat := .tup [.int p.1, .int p.2]
noncomputable def encW (w : List (List (Int × Int))) : Dat := .lst (w.map fun l => .lst (l.map encP))
structure WaysOk (ways : List (List (Int × Int))) (b : Nat) : Prop where
  len : ways.length = 7
  each : ∀ l ∈ ways, l.length ≤ 15 ∧ ∀ p ∈ l, 0 ≤ p.1 ∧ p.1 < 7 ∧ Bits b p.2
structure UsedOk (used : List Int) (m : Nat) : Prop where
  nodup : used.Nodup
  low : ∀ x ∈ used, 0 ≤ x ∧ x < 7
  room : 7 ≤ used.length + m
theorem UsedOk.push {used : List Int} {m : Nat} {x : Int} (h : UsedOk used (m + 1)) (h0 : 0 ≤ x) (h7 : x < 7) (hx : used.contains x = false) : UsedOk (used ++ [x]) m := by
  have hx' : x ∉ used := by simpa using hx
  refine ⟨List.nodup_append.mpr ⟨h.nodup, by simp, fun a ha b hb => ?_⟩, fun y hy => ?_, by have := h.room; simp; omega⟩
  · rw [List.mem_singleton.mp hb]; exact fun e => hx' (e ▸ ha)
  · rcases List.mem_append.mp hy with hy | hy
    · exact h.low y hy
    · rw [List.mem_singleton.mp hy]; exact ⟨h0, h7⟩
section
variable {C : Cx} (B : Base C (K1 C))
include B
theorem apart_step {ways : List (List (Int × Int))} {b β n : Nat} (hb : b ≤ 2 ^ 21) (hβ : β ≤ 2 ^ 26) (hw : WaysOk ways b) (rec : Int → List Int → List Int → List Int → Int) {here : Int} {used starts ends : List Int} (h0 : 0 ≤ here) (h7 : here < 7)
    (hs : ∀ x ∈ starts, 0 ≤ x ∧ x < 7) (hsl : starts.length ≤ 3) (hel : ends.length ≤ 3) (hul : used.length ≤ 7) (hβr : ∀ a b c d, Bits β (rec a b c d))
    (hrec : ∀ x, 0 ≤ x → x < 7 → used.contains x = false → ∀ starts' ends', (∀ x ∈ starts', 0 ≤ x ∧ x < 7) → starts'.length ≤ 3 → ends'.length ≤ 3 → CallOp C n (.ref 172) [encW ways, .int x, encI (used ++ [x]), encI starts', encI ends'] (.int (rec x (used ++ [x]) starts' ends'))) :
    CallOp C (n + 1) (.ref 172) [encW ways, .int here, encI used, encI starts, encI ends] (.int (apartB rec ways here used starts ends)) := by
  refine callop_fn (xs := [Str.ofString "ways", Str.ofString "here", Str.ofString "used", Str.ofString "starts", Str.ofString "ends"]) (fnOk B rfl (by kernel_rfl!) rfl (by kernel_rfl!) (bind5 fun _ _ _ _ _ => by kernel_rfl!)) rfl ?_
  intro A env W s₀ s R hsc rm F
  refine st_assign F rm ev_int fun s₁ R₁ l₁ F₁ => ?_
  let Δ (t : Int) : Vars := ofL [(Str.ofString "ways", encW ways), (Str.ofString "here", .int here), (Str.ofString "used", encI used), (Str.ofString "starts", encI starts), (Str.ofString "ends", encI ends), (Str.ofString "total", .int t)]
  let T₀ : Int := headB rec here used starts ends
  have hu' : used.length ≤ sizeLine := by rw [sizeLine_val]; omega
  have hwl : here.toNat < ways.length := by rw [hw.len]; omega
  have hget : ways[here.toNat]? = some (ways.getD here.toNat []) := by rw [List.getD_eq_getElem?_getD, List.getElem?_eq_getElem hwl]; rfl
  have hmem : ways.getD here.toNat [] ∈ ways := List.mem_of_getElem? hget
  obtain ⟨hl15, heach⟩ := hw.each _ hmem
  refine st_ifj (Δ T₀) F₁ rm (evT_cmp (ev_name rfl) (ev_name rfl) op_in_ints) (fun s₂ R₂ l₂ F₂ => ?_) fun s₂ R₂ l₂ F₂ => ?_
  · cases hc : ends.contains here with
    | false => exact st_nil ⟨rfl, R₂, l₂, F₂.toL _ ⟨rfl, rfl, rfl, rfl, rfl, by cases starts <;> simp only [T₀, headB, hc] <;> rfl, trivial⟩⟩
    | true =>
      have hin : here ∈ ends := by simpa using hc
      have hidx : ends.idxOf here < ends.length := List.idxOf_lt_length_iff.mpr hin
      refine st_assign F₂ rm (ev_index (ev_name rfl) (ev_name rfl) hin (by rw [sizeLine_val]; omega)) fun s₃ R₃ l₃ F₃ => ?_
      refine st_assign (d := encI (cutR (ends.idxOf here) ends)) F₃ rm (Ev.cast (ev_bin (ev_upto (l := ends) (g := Dat.int) (ev_name rfl) (ev_name rfl) (by omega) (by rw [sizeLine_val]; omega)) (ev_from (l := ends) (g := Dat.int) (ev_name rfl) (ev_bin (ev_name rfl) ev_int op_add) (by omega) (by rw [sizeLine_val]; omega)) (op_catm (by rw [sizeLine_val]; simp; omega))) rfl) fun s₄ R₄ l₄ F₄ => ?_
      refine st_if F₄ rm (evT_cmp (ev_name rfl) (ev_list evAll_nil) op_eq_nilm) fun s₅ R₅ l₅ F₅ => ?_
      have up := l₂.trans (l₃.trans (l₄.trans l₅))
      cases hst : starts with
      | nil =>
        subst hst
        refine st_aug F₅ rm rfl (ev_bin (ev_un ev_int op_neg) (ev_name rfl) (op_pow (by omega) (by omega) (by decide))) op_iadd fun s₆ R₆ l₆ F₆ => st_nil (st_nil ⟨rfl, R₆, up.trans l₆, F₆.toL _ ⟨rfl, rfl, rfl, rfl, rfl, ?_, trivial⟩⟩)
        simp only [T₀, headB, hc, if_true]
        exact congrArg (fun z => some (Dat.int z)) (Int.zero_add _)
      | cons st0 str =>
        subst hst
        have hst0 : 0 ≤ st0 ∧ st0 < 7 := hs st0 (by simp)
        refine st_if F₅ rm (evT_cmp (ev_sub (ev_name rfl) ev_int (op_itemm (l := st0 :: str) (g := Dat.int) (x := st0) rfl (by decide) (by rw [sizeLine_val]; omega))) (ev_name rfl) op_notin_ints) fun s₆ R₆ l₆ F₆ => ?_
        cases hcu : used.contains st0 with
        | true => exact st_nil (st_nil (st_nil ⟨rfl, R₆, up.trans l₆, F₆.toL _ ⟨rfl, rfl, rfl, rfl, rfl, by simp only [T₀, headB, hc, hcu, if_true]; rfl, trivial⟩⟩))
        | false =>
          refine st_aug F₆ rm rfl (ev_bin (ev_bin (ev_un ev_int op_neg) (ev_name rfl) (op_pow (by omega) (by omega) (by decide))) (ev_callf (ev_glob (g_apart B.at) rfl) (B.K 172 _ rfl) rfl
            (evAll_cons (ev_name rfl) (evAll_cons (ev_sub (ev_name rfl) ev_int (op_itemm (l := st0 :: str) (g := Dat.int) (x := st0) rfl (by decide) (by rw [sizeLine_val]; omega))) (evAll_cons (Ev.cast (d' := encI (used ++ [st0])) (ev_bin (ev_name rfl) (ev_list (evAll_cons (ev_sub (ev_name rfl) ev_int (op_itemm (l := st0 :: str) (g := Dat.int) (x := st0) rfl (by decide) (by rw [sizeLine_val]; omega))) evAll_nil)) (op_catm (b := [st0]) (by rw [sizeLine_val]; simp; omega))) rfl)
              (evAll_cons (Ev.cast (d' := encI str) (ev_from (l := st0 :: str) (g := Dat.int) (ev_name rfl) ev_int (by decide) (by rw [sizeLine_val]; omega)) rfl) (evAll_cons (ev_name rfl) evAll_nil)))))
            (hrec st0 hst0.1 hst0.2 hcu str (cutR (ends.idxOf here) ends) (fun x hx => hs x (by simp [hx])) (by simp at hsl; omega) (by rw [cutR_len hidx]; omega))) (op_mul (mulOk (Bits.sign _) (hβr _ _ _ _) ?_))) op_iadd fun s₇ R₇ l₇ F₇ => st_nil (st_nil (st_nil ⟨rfl, R₇, up.trans (l₆.trans l₇), F₇.toL _ ⟨rfl, rfl, rfl, rfl, rfl, ?_, trivial⟩⟩))
          · rw [show (2 : Nat) ^ 26 = 67108864 from by decide] at hβ; rw [show (2 : Nat) ^ 27 = 134217728 from by decide]; omega
          · simp only [T₀, headB, hc, hcu, if_true]
            exact congrArg (fun z => some (Dat.int z)) (Int.zero_add _)
  · refine st_for (L := ways.getD here.toNat []) (enc := encP) (tds := fun p => [.int p.1, .int p.2]) [Str.ofString "there", Str.ofString "weight"] [] (fun i => Δ (T₀ + (((ways.getD here.toNat []).take i).map fun p => if used.contains p.1 then 0 else p.2 * rec p.1 (used ++ [p.1]) starts ends).sum)) (fun _ _ _ => True)
      F₂ rm (evIt_lst (ev_sub (ev_name rfl) (ev_name rfl) (op_itemm (l := ways) (g := fun l => .lst (l.map encP)) (x := ways.getD here.toNat []) hget h0 (by rw [sizeLine_val, hw.len]; omega)))) (AllIn.le ⟨rfl, rfl, rfl, rfl, rfl, ?_, trivial⟩) (by simp) (by decide +kernel) (fun a _ => ⟨rfl, rfl, [_, _], rfl, rfl⟩) (fun _ _ _ _ _ _ _ _ => trivial) trivial ?_ ?_
    · rw [List.take_zero, List.map_nil, List.sum_nil, Int.add_zero]; rfl
    · intro i p s₃ R₃ Mu₃ hi l₃ _ F₃ _
      have hp := heach p (List.mem_of_getElem? hi)
      have htk : (ways.getD here.toNat []).take (i + 1) = (ways.getD here.toNat []).take i ++ [p] := by rw [List.take_add_one, hi]; rfl
      refine st_if F₃ rm (evT_cmp (ev_name rfl) (ev_name rfl) op_notin_ints) fun s₄ R₄ l₄ F₄ => ?_
      cases hcu : used.contains p.1 with
      | true =>
        refine st_nil (st_nil ⟨R₄, _, l₄, fun _ _ _ e => e, F₄.toL _ ⟨rfl, rfl, rfl, rfl, rfl, ?_, trivial⟩, trivial⟩)
        rw [htk, List.map_append, List.sum_append]
        simp only [List.map_cons, List.map_nil, List.sum_cons, List.sum_nil, hcu, if_true, Int.add_zero]
        rfl
      | false =>
        refine st_aug F₄ rm rfl (ev_bin (ev_name rfl) (ev_callf (ev_glob (g_apart B.at) rfl) (B.K 172 _ rfl) rfl
          (evAll_cons (ev_name rfl) (evAll_cons (ev_name rfl) (evAll_cons (Ev.cast (d' := encI (used ++ [p.1])) (ev_bin (ev_name rfl) (ev_list (evAll_cons (ev_name rfl) evAll_nil)) (op_catm (b := [p.1]) (by rw [sizeLine_val]; simp; omega))) rfl) (evAll_cons (ev_name rfl) (evAll_cons (ev_name rfl) evAll_nil)))))
          (hrec p.1 hp.1 hp.2.1 hcu starts ends hs hsl hel)) (op_mul (mulOk hp.2.2 (hβr _ _ _ _) ?_))) op_iadd fun s₅ R₅ l₅ F₅ => st_nil (st_nil ⟨R₅, _, l₄.trans l₅, fun _ _ _ e => e, F₅.toL _ ⟨rfl, rfl, rfl, rfl, rfl, ?_, trivial⟩, trivial⟩)
        · rw [show (2 : Nat) ^ 26 = 67108864 from by decide] at hβ; rw [show (2 : Nat) ^ 21 = 2097152 from by decide] at hb; rw [show (2 : Nat) ^ 27 = 134217728 from by decide]; omega
        · rw [htk, List.map_append, List.sum_append]
          simp only [List.map_cons, List.map_nil, List.sum_cons, List.sum_nil, hcu, Int.add_zero, ← Int.add_assoc]
          rfl
    · intro s₃ R₃ Mu₃ l₃ _ F₃ _
      refine st_ret F₃ rm (ev_name rfl) fun s₄ R₄ v l₄ F₄ hv => ⟨v, rfl, F₄.post ?_⟩
      rw [List.take_length] at hv
      exact hv
theorem apart_spec {ways : List (List (Int × Int))} {b : Nat} (hb : b ≤ 2 ^ 21) (hw : WaysOk ways b) (m : Nat) : m ≤ 7 → ∀ (here : Int) (used starts ends : List Int), 0 ≤ here → here < 7 → UsedOk used m → (∀ x ∈ starts, 0 ≤ x ∧ x < 7) → starts.length ≤ 3 → ends.length ≤ 3 → used.length ≤ 7 →
    CallOp C (m + 1) (.ref 172) [encW ways, .int here, encI used, encI starts, encI ends] (.int (apartN ways m here used starts ends)) := by
  have hbits := apart_bits (ways := ways) (b := b) fun l hl => ⟨(hw.each l hl).1, fun p hp => ((hw.each l hl).2 p hp).2.2⟩
  induction m with
  | zero =>
    intro hm here used starts ends h0 h7 hu hs hsl hel hul
    refine apart_step B (β := 1) hb (by decide) hw _ h0 h7 hs hsl hel hul (fun _ _ _ _ => Bits.zero _) fun x hx hx' hc => ?_
    have := all_used hu.nodup hu.low (by have := hu.room; omega) hx hx'
    rw [this] at hc; cases hc
  | succ m ih =>
    intro hm here used starts ends h0 h7 hu hs hsl hel hul
    refine apart_step B (β := (m + 1) * (b + 5) + 1) hb ?_ hw _ h0 h7 hs hsl hel hul (hbits m) fun x hx hx' hc starts' ends' hs' hsl' hel' => ?_
    · rw [show (2 : Nat) ^ 26 = 67108864 from by decide]; rw [show (2 : Nat) ^ 21 = 2097152 from by decide] at hb
      have : (m + 1) * (b + 5) ≤ 7 * 2097157 := Nat.mul_le_mul (by omega) (by omega)
      omega
    · have hu' := hu.push hx hx' hc
      refine ih (by omega) x (used ++ [x]) starts' ends' hx hx' hu' hs' hsl' hel' ?_
      have := nodup_len (M := [0, 1, 2, 3, 4, 5, 6]) hu'.nodup fun y hy => by
        have := hu'.low y hy
        have : y = 0 ∨ y = 1 ∨ y = 2 ∨ y = 3 ∨ y = 4 ∨ y = 5 ∨ y = 6 := by omega
        simpa using this
      simpa using this
end
end Mine
end
noncomputable section
open PySem PySem.W PyProof.Rows PySem.SeqAt PySem.MeetsSeq
set_option Elab.async false
set_option autoImplicit false
set_option maxRecDepth 100000
namespace Mine
/- a call of f upon data, where more is known frozen -/
noncomputable def CallR (C : Cx) (n : Nat) (R₁ : Reg) (f : Value) (ds : List Dat) (d : Dat) : Prop :=
  ∀ A s R vs, Room n A → Rok (C.at noM) R s.heap → R₁.le R → RdAll R vs ds → wpAny C.M A (call f vs) (Post s R d) NoE s
theorem CallOp.toR {C : Cx} {n : Nat} {R₁ : Reg} {f : Value} {ds : List Dat} {d : Dat} (h : CallOp C n f ds d) : CallR C n R₁ f ds d := fun A s R vs rm ro _ hr => h A s R vs rm ro hr
theorem CallR.op {C : Cx} {n : Nat} {f : Value} {ds : List Dat} {d : Dat} (h : CallR C n noM f ds d) : CallOp C n f ds d := fun A s R vs rm ro hr => h A s R vs rm ro (fun _ _ e => nomatch e) hr
section
variable {C : Cx} {n : Nat} {sc : Scope} {Δ : Vars}
/- l[k] of a mutable list, its items known -/
theorem op_mitem {v i : Expr} {l : Addr} {vs : List Value} {m : Nat} {k : Int} {ds : List Dat} {d : Dat} (hl : C.mu l = some (lstObj vs m)) (hx : ds[k.toNat]? = some d) (h0 : 0 ≤ k) (hlen : ds.length ≤ sizeLine)
    (hs : ∀ o u, subscripted i false o (.int k u) = operate [o, .int k u] (getItem o (.int k u)) := by intro _ _; rfl) : Op2 C n (subscriptTail v i) (.box l vs ds) (.int k) d := by
  intro A s R v₁ v₂ rm ro h₁ h₂
  cases h₁ with
  | box r =>
    (have q_ := Rd.intE h₂; clear h₂; obtain ⟨_, rfl⟩ := q_)
    have t : s.heap.IsList l vs.toArray := ⟨_, ro.mu _ _ hl, rfl, m, rfl⟩
    obtain ⟨w, hw, hd⟩ := r.get hx
    have hk := (List.getElem?_eq_some_iff.mp hx).1
    exact tail_any t.typeIs slot_list_getitem.lookup (wpAny_getItem_list t h0 (by rw [sizeLine_eq] at hlen; omega) (by simpa using hw) (Post.pure ro hd)) (hs _ _)
/- two things that are not one: a list and an object of the module -/
theorem op_is_lst {ds : List Dat} {a : Addr} {o : Obj} (ha : C.h₀.get? a = some o) (hc : o.cls ≠ .type "list") : Op2 C n (compareOp .Is) (.lst ds) (.val (.ref a)) (.bool false) := by
  intro A s R v₁ v₂ rm ro h₁ h₂
  (have q_ := Rd.valE h₂; clear h₂; subst q_)
  cases h₁ with
  | lst e c _ _ =>
    have h1 := ro.on _ _ e
    have h2 := ro.hle0 _ _ ha
    refine wpAny_is_ref_other (fun q => ?_) h1 h2 (by rw [c.1]; decide) (Post.pure ro (.bool _))
    subst q
    rw [h1] at h2; (have q_ := oSS h2; clear h2; subst q_)
    exact hc c.1
theorem op_is_int {i : Int} {a : Addr} : Op2 C n (compareOp .Is) (.int i) (.val (.ref a)) (.bool false) := by
  intro A s R v₁ v₂ rm ro h₁ h₂
  (have q_ := Rd.valE h₂; clear h₂; subst q_); (have q_ := Rd.intE h₁; clear h₁; obtain ⟨_, rfl⟩ := q_)
  exact wpAny_is_other rfl (by simp) (Post.pure ro (.bool _))
end
section
variable {C : Cx} {s₀ : Shared} {R₀ : Reg} {V : List Addr} {sc : Scope} {env : Env} {W : List Addr} {s s' : Shared} {R R' Mu Mu' : Reg} {Δ Δ' : Vars} {n : Nat} {A : Around} {E : Value → Shared → Prop} {Q : Flow → Shared → Prop}
/- l[k] = v, a mutable list -/
theorem Fra.setAt {l : Addr} {vs : List Value} {m : Nat} {k : Int} {t : Tok} {v : Value} {Qu : Unit → Shared → Prop} (F : Fra C s₀ R₀ V sc env W s R Mu Δ) (hl : Mu l = some (lstObj vs m)) (h0 : 0 ≤ k) (hk : k < vs.length) (hz : vs.length ≤ sizeLine)
    (h : ∀ s₁ m', Fra C s₀ R₀ V sc env W s₁ R (Mu.set l (lstObj (vs.set k.toNat v) m')) Δ → Qu () s₁) : wpAny C.M A (setItem (.ref l) (.int k t) v) Qu E s := by
  have hl' : s.heap.get? l = some (listOf vs.toArray m) := (F.mu _ _ hl).1
  refine ki_setAt hl' h0 (by rw [sizeLine_eq] at hz; omega) (by simpa using hk) ?_
  have q := PySem.IsL.update hl' (·.setIfInBounds k.toNat v)
  refine h _ (if ((vs.toArray.setIfInBounds k.toNat v).size == vs.toArray.size) = true then m else m + 1) ?_
  refine F.mut (tk := s.toks) hl (fun _ e => nomatch e) (Heap.SameBut.update ..) ?_
  rw [q]; simp [lstObj]
theorem st_mset {o i e : Expr} {sp pos : Pos} {l : Addr} {vs : List Value} {m : Nat} {k : Int} {d : Dat} {rest : List Stmt} (F : Fra C s₀ R₀ V sc env W s R Mu Δ) (rm : Room n A) (ho : Ev (C.at Mu) n sc Δ o (.val (.ref l))) (hi : Ev (C.at Mu) n sc Δ i (.int k)) (he : Ev (C.at Mu) n sc Δ e d) (hl : Mu l = some (lstObj vs m)) (h0 : 0 ≤ k) (hk : k < vs.length) (hz : vs.length ≤ sizeLine)
    (h : ∀ s₁ R₁ v m', R.le R₁ → Rd R₁ v d → Fra C s₀ R₀ V sc env W s₁ R₁ (Mu.set l (lstObj (vs.set k.toNat v) m')) Δ → wpAny C.M A (execs rest env) Q E s₁)
    (hs : swapsWith e (some (.Subscript o i sp)) pos.line env = pure false := by rfl) :
    wpAny C.M A (execs (.Assign [.Subscript o i sp] e pos :: rest) env) Q E s := by
  refine wpAny_execs_cons (wpAny_Assign_Subscript (F.ev rm he fun v s₁ R₁ l₁ k₁ hv F₁ => F₁.ev rm ho fun ov s₂ R₂ l₂ k₂ hov F₂ => F₂.ev rm hi fun iv s₃ R₃ l₃ k₃ hiv F₃ => ?_) hs)
  (have q_ := Rd.valE hov; clear hov; subst q_)
  (have q_ := Rd.intE hiv; clear hiv; obtain ⟨_, rfl⟩ := q_)
  exact F₃.setAt hl h0 hk hz fun s₄ m' F₄ => h _ R₃ v m' (l₁.trans (l₂.trans l₃)) (hv.mono (l₂.trans l₃)) F₄
/- x = iter(l), a frozen list -/
theorem st_iter {x f : Str} {xp fp cp q : Pos} {e : Expr} {ds : List Dat} {rest : List Stmt} (F : Fra C s₀ R₀ V sc env W s R Mu Δ) (rm : Room n A) (hf : Ev (C.at Mu) n sc Δ (.Name f fp) (.val (.builtin "iter"))) (he : Ev (C.at Mu) n sc Δ e (.lst ds))
    (k : ∀ s' R' I St, R.le R' → Iter (C.at noM) (.ref I) [I] ds R' St → St 0 s'.heap → (∃ o, s'.heap.get? I = some o ∧ ∀ v, o.data ≠ .cell v) → s.heap.get? I = none → Fra C s₀ R₀ V sc env W s' R' (fun a => if a ∈ [I] then s'.heap.get? a else Mu a) (upd Δ x (.val (.ref I))) → wpAny C.M A (execs rest env) Q E s')
    (hs : starEach [e] env = [(false, eval e env)] := by rfl)
    (hsw : swapsWith (.Call (.Name f fp) [e] [] cp) (some (.Name x xp)) q.line env = pure false := by rfl) (hx : sc.names.lookup x = some .local ∨ sc.names.lookup x = some .cell := by first | exact Or.inl rfl | exact Or.inr rfl) :
    wpAny C.M A (execs (.Assign [.Name x xp] (.Call (.Name f fp) [e] [] cp) q :: rest) env) Q E s := by
  refine wpAny_execs_cons (wpAny_Assign_Name (Call_ (F.ev rm hf fun fv s₁ R₁ l₁ k₁ hfv F₁ => ?_)) hsw)
  (have q_ := Rd.valE hfv; clear hfv; subst q_)
  refine callWith_method1 (first := []) (wpAny_items_cons (F₁.ev rm he fun v s₂ R₂ l₂ k₂ hv F₂ => wpAny_items_nil ?_) hs) hs rfl
  obtain ⟨l, rfl⟩ := hv.lst_ref
  obtain ⟨vs, hL, hr⟩ := hv.isList F₂.ro.on
  refine Calls.call_function_entry (by decide +kernel) (by decide +kernel) kdk_entry_iter (kdk_args_iter _) ?_
  unfold Builtin.«iter»
  refine wpAny_bind (m := someArgs "iter" 1 2 _) (wpAny_of_eq (a := [Value.ref l]) (by first | rfl | kernel_rfl!) ?_)
  show wpAny _ _ (pyIter (.ref l) >>= _) _ _ _
  refine wpAny_bind (wpAny_pyIter_list hL (wpAny_pure ⟨_, rfl, ?_⟩))
  have kI := Keeps.push s₂ { cls := .type "list_iterator", data := .fields #[.ref l, .int 0 0] }
  have hI0 : s₂.heap.get? s₂.heap.objs.size = none := fresh_none
  have F₃ := F₂.begin (X := [s₂.heap.objs.size]) kI (fun a ha => by rw [List.mem_singleton.mp ha]; exact hI0)
  have up₃ := new_up (o := { cls := .type "list_iterator", data := .fields #[.ref l, .int 0 0] }) F₂.ro.on
  have hget := Heap.get?_push_size (o := { cls := .type "list_iterator", data := .fields #[.ref l, .int 0 0] }) s₂.heap rfl
  generalize hR₃ : (R₂.ext s₂.heap (s₂.heap.push { cls := .type "list_iterator", data := .fields #[.ref l, .int 0 0] })).minus [s₂.heap.objs.size] = R₃ at *
  refine F₃.store (.val _) (fun s₄ k₄ F₄ => ?_) hx
  have hnW : s₂.heap.objs.size ∉ W := fun h => by obtain ⟨o, z⟩ := F₂.ew.isW h; rw [hI0] at z; (have q_ := oNS z; clear z; exact q_.elim)
  have hget₄ := k₄.get hnW hget
  cases hv with
  | lst e1 e2 e3 e4 =>
    have hvs := hL
    obtain ⟨o', ho', hc', n', hd'⟩ := hL
    have h5 := F₂.ro.on _ _ e1
    rw [h5] at ho'; (have q_ := oSS ho'; clear ho'; subst q_)
    refine k s₄ R₃ s₂.heap.objs.size _ (l₁.trans (l₂.trans up₃)) (iter_list (up₃ _ _ e1) hc' hd' (hr.mono up₃) ?_) ⟨⟨_, hget₄, rfl, rfl⟩, ⟨_, F₄.ro.on _ _ (up₃ _ _ e1), hc', n', hd'⟩⟩ ⟨_, hget₄, fun _ q => nomatch q⟩ ?_ ?_
    · rw [← hR₃]; exact Reg.minus_off (by simp)
    · cases z : s.heap.get? s₂.heap.objs.size with
      | none => rfl
      | some o => have := Keeps.hle (Keeps.tr k₁ k₂) _ _ z; rw [fresh_none] at this; (have q_ := oNS this; clear this; exact q_.elim)
    · refine F₄.fewer fun a o e => ?_
      simp only at e ⊢
      split at e
      · rename_i h
        rw [List.mem_singleton.mp h] at e ⊢
        rw [hget₄] at e; (have q_ := oSS e; clear e; subst q_)
        rw [if_pos (by simp)]; exact hget
      · rename_i h; rw [if_neg h]; exact e
/- for x in it, it an iterator at hand -/
theorem st_for_it {x it : Str} {xp ip p : Pos} {body rest : List Stmt} {I : Addr} {ds : List Dat} {St : Nat → Heap → Prop} {Rb : Reg} (i₀ : Nat) (Δs : Nat → Vars) (J : Nat → Reg → Reg → Prop)
    (F : Fra C s₀ R₀ V sc env W s R Mu Δ) (rm : Room n A) (hit : Δ it = some (.val (.ref I))) (hΔ : ∀ x d, Δs i₀ x = some d → Δ x = some d) (It : Iter (C.at noM) (.ref I) [I] ds Rb St) (hRb : Rb.le R) (hst : St i₀ s.heap) (hi₀ : i₀ ≤ ds.length) (hMI : ∃ o, Mu I = some o) (hv : I ∉ V)
    (hcI : ∀ y c, env.cells.lookup y = some c → c ≠ I)
    (Jm : ∀ i R R' Mu Mu', J i R Mu → R.le R' → (∀ a, a ≠ I → Mu' a = Mu a) → J i R' Mu') (h0 : J i₀ R Mu)
    (turn : ∀ i d s' R' Mu', ds[i]? = some d → R.le R' → Fra C s₀ R₀ V sc env W s' R' Mu' (upd (Δs i) x d) → J i R' Mu' →
      wpAny C.M A (execs body env) (fun f s₂ => match f with
        | .next | .cont => ∃ R₂ Mu₂, R'.le R₂ ∧ Mu₂ I = Mu' I ∧ Fra C s₀ R₀ V sc env W s₂ R₂ Mu₂ (Δs (i + 1)) ∧ J (i + 1) R₂ Mu₂
        | .brk => wpAny C.M A (execs rest env) Q E s₂
        | .ret v => Q (.ret v) s₂) NoE s')
    (done : ∀ s' R' Mu', R.le R' → Fra C s₀ R₀ V sc env W s' R' Mu' (Δs ds.length) → J ds.length R' Mu' → wpAny C.M A (execs rest env) Q E s')
    (hx : sc.names.lookup x = some .local ∨ sc.names.lookup x = some .cell := by first | exact Or.inl rfl | exact Or.inr rfl)
    (hn : ((it == ("__debug__" : Str)) || (it == ("__classdict__" : Str))) = false := by decide +kernel)
    (hs : ∀ v, foldedSetIterable (.Name it ip) env v = pure v := by intro _; rfl) :
    wpAny C.M A (execs (.For (.Name x xp) (.Name it ip) body [] p :: rest) env) Q E s := by
  refine wpAny_execs_cons (wpAny_For (F.name hit (fun v hv => ?_) hn) hs)
  (have q_ := Rd.valE hv; clear hv; subst q_)
  refine It.self A i₀ s _ _ hst ?_
  have F₁ := F.weak hΔ
  refine codeAny_loop' rfl (fun k s' => ∃ i R' Mu', i ≤ ds.length ∧ k = ds.length + 1 - i ∧ R.le R' ∧ Fra C s₀ R₀ V sc env W s' R' Mu' (Δs i) ∧ J i R' Mu' ∧ St i s'.heap ∧ ∃ o, Mu' I = some o) (fun k s' hI => ?_) (ds.length + 1 - i₀) ⟨i₀, R, Mu, hi₀, rfl, .refl _, F₁, h0, hst, hMI⟩
  obtain ⟨i, R', Mu', hi, rfl, hR', F', hJ, st', oI, hwM⟩ := hI
  have hone : ∀ {M : Reg}, (∃ o, M I = some o) → ∀ a ∈ [I], ∃ o, M a = some o := fun h a ha => by rw [List.mem_singleton.mp ha]; exact h
  have hcw : ∀ y c, env.cells.lookup y = some c → c ∉ [I] := fun y c h hc => hcI y c h (List.mem_singleton.mp hc)
  show wpAny _ _ ((forTurn (.Name x xp) (.ref I) body [] env).onRaise (fun x => do noteFrame x env; theTreesLotGoes x)) _ _ s'
  refine wpAny_noted ?_
  simp only [forTurn]
  refine wpAny_bind (wpAny_standAt (wpAny_bind (wpAny_onRaise ?_)))
  by_cases hlt : i < ds.length
  · have hg : ds[i]? = some ds[i] := List.getElem?_eq_getElem hlt
    refine noE (It.next A i s' R' _ rm.handled hg st' (hRb.trans hR') F'.ro.on (fun a ha => by rw [List.mem_singleton.mp ha]; exact (F'.mu _ _ hwM).2.1)) fun r s₃ h₃ => ?_
    obtain ⟨v, rfl, st₃, kb₃, hv⟩ := h₃
    have F₃ := F'.step kb₃ (hone ⟨_, hwM⟩) (fun a ha _ => It.alive _ _ st₃ a ha) hcw
    have hJ₃ := Jm _ _ (R'.ext s'.heap s₃.heap) _ (fun a => if a ∈ [I] then s₃.heap.get? a else Mu' a) hJ (Reg.ext_le F'.ro.on) (fun a ha => by rw [if_neg (by simpa using ha)])
    refine wpAny_bind (It.letgo A (i + 1) s₃ (.Name x xp) v _ _ (fun _ _ _ => trivial) st₃ fun s₄ st₄ kb₄ => ?_)
    have F₄ := F₃.step kb₄ (fun a ha => by simp only [ha, if_true]; exact It.alive _ _ st₃ a ha) (fun a ha _ => It.alive _ _ st₄ a ha) hcw
    have hJ₄ := Jm _ _ ((R'.ext s'.heap s₃.heap).ext s₃.heap s₄.heap) _ (fun a => if a ∈ [I] then s₄.heap.get? a else (if a ∈ [I] then s₃.heap.get? a else Mu' a)) hJ₃ (Reg.ext_le F₃.ro.on) (fun a ha => by rw [if_neg (by simpa using ha)])
    refine wpAny_bind (assign_tgt (C := C.at noM) (xs := [x]) (ds := [ds[i]]) rm.handled ⟨rfl, rfl⟩ F₄.ro F₄.ew (fun y hy => F₄.stor y (by rw [List.mem_singleton.mp hy]; exact hx)) (hv.mono (Reg.ext_le F₃.ro.on)) fun s₅ kb₅ E₅ => ?_)
    have F₅ := F₄.stored kb₅ E₅
    generalize hM₅ : (fun a => if a ∈ [I] then s₄.heap.get? a else (if a ∈ [I] then s₃.heap.get? a else Mu' a) : Reg) = M₅ at *
    have l₅ : R.le ((R'.ext s'.heap s₃.heap).ext s₃.heap s₄.heap) := hR'.trans ((Reg.ext_le F'.ro.on).trans (Reg.ext_le F₃.ro.on))
    have hM₅I : ∃ o, M₅ I = some o := by
      obtain ⟨o, e⟩ := It.alive _ _ st₄ I (by simp)
      exact ⟨o, by rw [← hM₅]; simp only [List.mem_singleton, if_true]; exact e⟩
    obtain ⟨o₅, hM₅I⟩ := hM₅I
    have nW : ∀ b ∈ [I], b ∉ W := fun b hb => by rw [List.mem_singleton.mp hb]; exact (F₅.mu _ _ hM₅I).2.2.1
    have st₅ : St (i + 1) s₅.heap := It.frame _ _ _ st₄ (fun b hb o e => kb₅.get (nW b hb) e) (F₅.ro.on.le (hRb.trans l₅)) (fun a o e => nomatch e)
    refine wpAny_bind (noE (turn i ds[i] s₅ _ _ hg l₅ F₅ hJ₄) fun f s₆ h₆ => ?_)
    have fin : (∃ R₂ Mu₂, ((R'.ext s'.heap s₃.heap).ext s₃.heap s₄.heap).le R₂ ∧ Mu₂ I = M₅ I ∧ Fra C s₀ R₀ V sc env W s₆ R₂ Mu₂ (Δs (i + 1)) ∧ J (i + 1) R₂ Mu₂) →
        ∃ m, m < ds.length + 1 - i ∧ ∃ i R' Mu', i ≤ ds.length ∧ m = ds.length + 1 - i ∧ R.le R' ∧ Fra C s₀ R₀ V sc env W s₆ R' Mu' (Δs i) ∧ J i R' Mu' ∧ St i s₆.heap ∧ ∃ o, Mu' I = some o := by
      rintro ⟨R₂, Mu₂, l₂, K₂, F₂, J₂⟩
      have h6 := (F₂.mu _ _ (K₂.trans hM₅I)).1
      have h5 := (F₅.mu _ _ hM₅I).1
      refine ⟨ds.length + 1 - (i + 1), by omega, i + 1, R₂, Mu₂, hlt, rfl, l₅.trans l₂, F₂, J₂, It.frame _ _ _ st₅ (fun b hb o e => ?_) (F₂.ro.on.le (hRb.trans (l₅.trans l₂))) (fun a o e => nomatch e), ⟨o₅, K₂.trans hM₅I⟩⟩
      rw [List.mem_singleton.mp hb] at e ⊢
      rw [h5] at e; (have q_ := oSS e; clear e; subst q_); exact h6
    cases f with
    | next => exact wpAny_pure (.inl ⟨rfl, fin h₆⟩)
    | cont => exact wpAny_pure (.inl ⟨rfl, fin h₆⟩)
    | brk => exact wpAny_pure h₆
    | ret v => exact wpAny_pure h₆
  · have hin : i = ds.length := by omega
    subst hin
    refine noE (It.done A s' rm.handled st') fun r s₃ h₃ => ?_
    obtain ⟨rfl, kb₃⟩ := h₃
    have F₃ := F'.step kb₃ (hone ⟨_, hwM⟩) (fun a ha hva => absurd (List.mem_singleton.mp ha ▸ hva) hv) hcw
    have hJ₃ := Jm _ _ (R'.ext s'.heap s₃.heap) _ (fun a => if a ∈ [I] then s₃.heap.get? a else Mu' a) hJ (Reg.ext_le F'.ro.on) (fun a ha => by rw [if_neg (by simpa using ha)])
    refine wpAny_pure (.inr ⟨rfl, codeAny_block (wpAny_execs_nil ?_)⟩)
    exact done s₃ _ _ (hR'.trans (Reg.ext_le F'.ro.on)) F₃ hJ₃
end
end Mine
end
noncomputable section
open PySem PySem.W PyProof.Rows PySem.SeqAt PySem.MeetsSeq
set_option Elab.async false
set_option autoImplicit false
set_option maxRecDepth 100000
namespace Mine
section
variable {C : Cx} {s₀ : Shared} {R₀ : Reg} {V : List Addr} {sc : Scope} {env : Env} {W : List Addr} {s s' : Shared} {R R' Mu Mu' : Reg} {Δ Δ' : Vars} {n : Nat} {A : Around} {E : Value → Shared → Prop} {Q : Flow → Shared → Prop}
/- as callop_fn, more known frozen -/
theorem callr_fn {a : Addr} {fd : FuncData} {xs : List Str} {body : List Stmt} {ds : List Dat} {d : Dat} {R₁ : Reg} (f : FnOk C a fd xs body) (hl : xs.length = ds.length)
    (h : ∀ A env W s₀ s R, env.scope = fd.scope → Room n A → R₁.le R → Fra C s₀ R [] fd.scope env W s R noM (updAll noV xs ds) → wpAny C.M A (execs body env) (fun fl s₂ => ∃ v, fl = .ret v ∧ Post s₀ R d v s₂) NoE s) :
    CallR C (n + 1) R₁ (.ref a) ds d := by
  intro A s R vs rm ro hR hr
  refine wpAny_call (fn_call f rm ro hr hl fun env W s' e rm' F => ?_)
  refine noE (h _ env W s s' R e rm' hR F) fun fl s₂ p => ?_
  obtain ⟨v, rfl, p⟩ := p
  exact p
/- all parameters are given, the defaults are not needed -/
theorem bnd_full {fd : FuncData} {vs : List Value} {w : Value} {xs : List Str} {ds : List Dat} {T : Addr} {o : Obj} {m : Nat} {k : Option (Array Value) → Sem (List (Str × Value))} (ro : R.on s.heap) (hd : fd.defaults = .ref T) (ho : s.heap.get? T = some o) (hs : o.data = .seq #[w] m)
    (h₁ : bindArgs fd ⟨vs, []⟩ = seqItems? fd.defaults >>= k) (h₂ : k (some #[w]) = pure (xs.zip vs)) (hr : RdAll R vs ds) : Bnd C fd vs xs ds R s := fun A => by
  rw [h₁, hd]
  refine wpAny_bind (wpAny_seqItems ho hs ?_)
  rw [h₂]
  exact wpAny_pure ⟨Keeps.rfl' s, _, rfl, hr.mono (Reg.ext_le ro)⟩
theorem callr_fnB {a : Addr} {fd : FuncData} {xs : List Str} {body : List Stmt} {ds es : List Dat} {d : Dat} {R₁ : Reg} (f : FnC C a fd xs body) (hl : xs.length = es.length)
    (hb : ∀ R s vs, Rok (C.at noM) R s.heap → RdAll R vs ds → Bnd C fd vs xs es R s)
    (h : ∀ A env W s₀ s R R', env.scope = fd.scope → Room n A → R₁.le R → Fra C s₀ R [] fd.scope env W s R' noM (updAll noV xs es) → wpAny C.M A (execs body env) (fun fl s₂ => ∃ v, fl = .ret v ∧ Post s₀ R d v s₂) NoE s) :
    CallR C (n + 1) R₁ (.ref a) ds d := by
  intro A s R vs rm ro hR hr
  refine wpAny_call (fn_callB f rm ro (hb R s vs ro hr) hl fun env W s' R' e rm' F => ?_)
  refine noE (h _ env W s s' R R' e rm' hR F) fun fl s₂ p => ?_
  obtain ⟨v, rfl, p⟩ := p
  exact p
/- f(..), a function that stands frozen -/
theorem Fra.callR {R₁ : Reg} {fe e : Expr} {es : List Expr} {p : Pos} {f : Addr} {o : Obj} {fd : FuncData} {ds : List Dat} {d : Dat} {Qv : Value → Shared → Prop} (F : Fra C s₀ R₀ V sc env W s R Mu Δ) (rm : Room n A) (hf : Ev (C.at Mu) n sc Δ fe (.val (.ref f))) (hfo : R f = some o) (hdat : o.data = .func fd)
    (ha : EvAll (C.at Mu) n sc Δ (e :: es) ds) (hc : CallR C n R₁ (.ref f) ds d) (hR : R₁.le R)
    (h : ∀ v s' R', R.le R' → Rd R' v d → Fra C s₀ R₀ V sc env W s' R' Mu Δ → Qv v s')
    (he : starEach (e :: es) env = (false, eval e env) :: starEach es env := by rfl)
    (hev : ∀ {M : Model} {E : Value → Shared → Prop} {Q : Value → Shared → Prop} {s : Shared}, wpAny M A (eval fe env) (fun v s' => wpAny M A (callWith p v [] (backTo p (starEach (e :: es) env)) []) Q E s') E s → wpAny M A (eval (.Call fe (e :: es) [] p) env) Q E s := by intro _ _ _ _ h; exact Call_ h) :
    wpAny C.M A (eval (.Call fe (e :: es) [] p) env) Qv E s := by
  refine hev (F.ev rm hf fun fv s₁ R₁' l₁ k₁ hfv F₁ => ?_)
  (have q_ := Rd.valE hfv; clear hfv; subst q_)
  refine callWith_def hdat (F₁.evAll rm ha fun vs s₂ R₂ l₂ k₂ hvs F₂ => ?_) he
  refine ⟨F₂.ro.on _ _ (l₂ _ _ (l₁ _ _ hfo)), ?_⟩
  refine noE (hc A s₂ R₂ vs rm F₂.ro (hR.trans (l₁.trans l₂)) hvs) fun v s₃ p₃ => ?_
  exact h v s₃ _ (l₁.trans (l₂.trans (Reg.ext_le F₂.ro.on))) p₃.2 (F₂.ext p₃.1)
end
end Mine
end
noncomputable section
open PySem PySem.W PyProof.Rows PySem.SeqAt PySem.MeetsSeq
set_option Elab.async false
set_option autoImplicit false
set_option maxRecDepth 100000
namespace Mine
noncomputable abbrev aReduce : Addr := 30
noncomputable abbrev aMissing : Addr := 22
section
variable {C : Cx} (B : Base C (K1 C))
include B
theorem g_missing : GlobIs C (Str.ofString "_initial_missing") (.ref aMissing) := glob_own B (by kernel_rfl!)
theorem g_reduce : GlobIs C (Str.ofString "reduce") (.ref aReduce) := glob_own B (by kernel_rfl!)
theorem reduce_spec {n : Nat} {R₁ : Reg} {f : Addr} {o : Obj} {fd : FuncData} {ds : List Dat} (e : Nat → Dat) (hfo : R₁ f = some o) (hdat : o.data = .func fd)
    (hstep : ∀ i d, ds[i]? = some d → CallR C n R₁ (.ref f) [e i, d] (e (i + 1))) (hi : ∀ mu, Op2 (C.at mu) n (compareOp .Is) (e 0) (.val (.ref aMissing)) (.bool false)) :
    CallR C (n + 1) R₁ (.ref aReduce) [.val (.ref f), .lst ds, e 0] (e ds.length) := by
  refine callr_fnB (xs := [Str.ofString "function", Str.ofString "sequence", Str.ofString "initial"]) (es := [.val (.ref f), .lst ds, e 0]) (fnC B rfl (by kernel_rfl!) rfl (by kernel_rfl!)) rfl (fun R s vs ro hr => bnd_all3 hr fun _ _ _ hr => bnd_full (w := .ref aMissing) ro.on rfl (ro.hle0 _ _ (B.K _ _ rfl)) rfl rfl (by kernel_rfl!) hr) ?_
  intro A env W s₀ s R R₀ hsc rm hR F
  refine st_iter F rm (ev_glob (g_iter B.at) rfl) (ev_name rfl) fun s₁ R₁' I St l₁ It st0 hIo hI0 F₁ => ?_
  have hcI : ∀ y c, env.cells.lookup y = some c → c ≠ I := fun y c h q => by
    obtain ⟨_, o, z, _⟩ := F.ew.calive y c h; rw [q, hI0] at z; (have q_ := oNS z; clear z; exact q_.elim)
  refine st_if F₁ rm (evT_cmp (ev_name rfl) (ev_glob (g_missing B.at) rfl) (hi _)) fun s₂ R₂ l₂ F₂ => ?_
  refine st_assign F₂ rm (ev_name rfl) fun s₃ R₃ l₃ F₃ => st_nil ?_
  have st3 : St 0 s₃.heap := by
    obtain ⟨o, ho, _⟩ := hIo
    refine It.frame 0 _ _ st0 (fun b hb ob eb => ?_) (F₃.ro.on.le (l₂.trans l₃)) (fun _ _ e => nomatch e)
    have hb' := List.mem_singleton.mp hb
    subst hb'
    exact (F₃.mu _ _ (by simp only [List.mem_singleton, if_true]; exact eb)).1
  refine st_for_it 0 (fun i => ofL [(Str.ofString "function", .val (.ref f)), (Str.ofString "it", .val (.ref I)), (Str.ofString "value", e i)]) (fun _ _ _ => True) F₃ rm rfl (AllIn.le ⟨rfl, rfl, rfl, trivial⟩) It (l₂.trans l₃) st3 (Nat.zero_le _)
    (by obtain ⟨o, ho, _⟩ := hIo; exact ⟨o, by simp only [List.mem_singleton, if_true]; exact ho⟩) (by simp) hcI (fun _ _ _ _ _ _ _ _ => trivial) trivial ?_ ?_
  · intro i d s₄ R₄ Mu₄ hd l₄ F₄ _
    have hR₄ : R₁.le R₄ := hR.trans (F.le.trans (l₁.trans (l₂.trans (l₃.trans l₄))))
    refine st_set F₄ (F₄.callR rm (f := f) (ev_name rfl) (hR₄ _ _ hfo) hdat (evAll_cons (ev_name rfl) (evAll_cons (ev_name rfl) evAll_nil)) (hstep i d hd) hR₄ fun v s₅ R₅ l₅ hv F₅ => ?_)
    refine ⟨R₅, Mu₄, _, F₅, hv, fun s₆ F₆ => st_nil ⟨R₅, Mu₄, l₅, rfl, F₆.toL _ ⟨rfl, rfl, rfl, trivial⟩, trivial⟩⟩
  · intro s₄ R₄ Mu₄ l₄ F₄ _
    exact st_ret F₄ rm (ev_name rfl) fun s₅ R₅ v l₅ F₅ hv => ⟨v, rfl, F₅.post hv⟩
end
end Mine
end
noncomputable section
open PySem PySem.W PyProof.Rows PySem.SeqAt PySem.MeetsSeq
set_option Elab.async false
set_option autoImplicit false
set_option maxRecDepth 100000
namespace Mine
section
variable {C : Cx} (B : Base C (K1 C)) {Z : Srt} {σ : Sd}
include B
theorem done_spec {l : List Nat} {k : Nat} (hrd : σ.rd = some l) (hk : k ∈ σ.ks) (hnp : σ.np k = -1) (hsu : ∀ j ∈ σ.su k, j ∈ σ.ks ∧ j ≠ k) (hz : l.length + (σ.su k).length ≤ 1000) :
    SCall C aT aN 2 aDone [.int (k : Int)] Z σ (fun Z' σ' d => Z' = Z ∧ σ' = { σ with np := (doneS σ l k).1, rd := some (doneS σ l k).2, nf := σ.nf + 1 } ∧ d = .none) := by
  refine scall_fn (xs := [Str.ofString "self", Str.ofString "nodes"]) (es := [.val (.ref Z.s), .tup [.int (k : Int)]]) (fnC B rfl (by kernel_rfl!) rfl (by kernel_rfl!)) rfl (fun R s vs ro _ hr => by
    have q_ := RdAll.consE hr
    clear hr
    obtain ⟨_, _, rfl, h, r⟩ := q_
    next =>
      (have q_ := RdAll.nilE r; clear r; subst q_)
      exact bnd_star (vs := [.ref Z.s]) (us := [_]) (ds := [.val (.ref Z.s)]) ro (by kernel_rfl!) (.cons (.val _) .nil) (.cons h .nil) (by rw [sizeLine_val]; simp)) ?_
  intro A env W s₀ s R R₁ Mu hsc rm F S
  refine cps fun Q hQ => ?_
  obtain ⟨h, t, n, hd⟩ := S.d
  have hrv : rdV Z σ.rd = .ref Z.q := by rw [hrd]; rfl
  rw [hrv] at hd
  refine st_if F rm (evT_cmp (ev_own B.at (k_rdy _) (ev_name rfl) S.s hd look_rdy) ev_none op_is_none) fun s₁ R₂ l₁ F₁ => ?_
  refine st_nil ?_
  refine st_assign F₁ rm (ev_own B.at (k_n2i _) (ev_name rfl) S.s hd look_n2i) fun s₂ R₃ l₂ F₂ => ?_
  obtain ⟨tk, gout⟩ := g_out B
  obtain ⟨tk', gdone⟩ := g_ndone B
  refine st_for (L := [k]) (enc := fun k => Dat.int (k : Int)) (tds := fun k => [.int (k : Int)]) [Str.ofString "node"] (Z.all σ) (fun _ => ofL [(Str.ofString "self", .val (.ref Z.s)), (Str.ofString "n2i", .val (.ref Z.D))])
    (fun i _ M => SAt C aT aN M Z (if i = 0 then σ else { σ with np := (doneS σ l k).1, rd := some (doneS σ l k).2, nf := σ.nf + 1 })) F₂ rm (evIt_tup (ev_name rfl)) (AllIn.le ⟨rfl, rfl, trivial⟩) (fun a ha => let ⟨o, e, _⟩ := S.obj ha; ⟨o, e⟩) (by decide +kernel) (fun a _ => ⟨rfl, rfl⟩)
    (fun i R R' M M' hJ _ he => hJ.on fun a o ha e => (he a (by
      split at ha
      · exact ha
      · rwa [Srt.all_same (σ := σ) (by rfl) (by rw [hrd]; rfl)] at ha)).trans e) (S.to (by simp)) ?_ ?_
  · intro i k' s₃ R₄ M₃ hi l₃ hk₃ F₃ hJ
    refine cps fun Qf hQf => ?_
    have hi0 : i = 0 ∧ k' = k := by
      rcases i with _ | i
      · simp at hi; exact ⟨rfl, hi.symm⟩
      · simp at hi
    obtain ⟨rfl, rfl⟩ := hi0
    simp only [if_true] at hJ
    obtain ⟨od, hD, hdo⟩ := hJ.D
    obtain ⟨t', u', hin⟩ := hJ.inf k' hk
    refine st_if_walrus F₃ rm (Ev.cast (d' := .val (.ref (Z.inf k'))) (ev_dget (ev_name rfl) (ev_name rfl) hD hdo hJ.sm) (by rw [hJ.node hk]; rfl)) fun s₄ R₅ l₄ F₄ => ?_
    refine st_nil ?_
    refine st_assign F₄ rm (Ev.cast (d' := .int (-1)) (Ev.asInt (ev_slot B.at (k_np _) (ev_name rfl) hin (hJ.emp k' hk) rfl)) (by rw [hnp])) fun s₅ R₆ l₅ F₅ => ?_
    refine st_if F₅ rm (evT_cmp (ev_name rfl) (Ev.asInt (ev_glob (C := C.at M₃) gout rfl)) op_ne_int) fun s₆ R₇ l₆ F₆ => ?_
    refine st_nil ?_
    refine st_slot B (k_np _) F₆ rm (ev_name rfl) (ev_glob (C := C.at M₃) gdone rfl) hin (hJ.emp k' hk) fun s₇ R₈ v l₇ hv F₇ => ?_
    (have q_ := Rd.valE hv; clear hv; subst q_)
    have S₇ := hJ.setnp hk (t := t') (u := tk') (x := -2)
    generalize hM : M₃.set (Z.inf k') (nodeObj aN (Z.emp k') k' t' (-2) tk' (Z.suc k')) = M₇ at S₇
    change Fra C s₀ R (Z.all σ) _ env W s₇ R₈ (M₃.set (Z.inf k') (nodeObj aN (Z.emp k') k' t' (-2) tk' (Z.suc k'))) _ at F₇
    rw [hM] at F₇
    have hm : ∀ {a x}, a ∈ Z.all σ → Z.role a = x → x ≠ .inf k' → x ≠ .emp k' → x ≠ .suc k' → a ∈ (Z.all σ).filter fun a => decide (a ≠ Z.inf k' ∧ a ≠ Z.emp k' ∧ a ≠ Z.suc k') := fun {a x} ha hr h1 h2 h3 => List.mem_filter.mpr ⟨ha, decide_eq_true ⟨role_ne hr (S.rinf k' hk) h1, role_ne hr (S.remp k' hk) h2, role_ne hr (S.rsuc k' hk) h3⟩⟩
    generalize hT : ((Z.all σ).filter fun a => decide (a ≠ Z.inf k' ∧ a ≠ Z.emp k' ∧ a ≠ Z.suc k')) = T at hm
    have hTs : ∀ a ∈ T, a ∈ Z.all σ := fun a ha => by rw [← hT] at ha; exact (List.mem_filter.mp ha).1
    have hoff : ∀ a, (a = Z.inf k' ∨ a = Z.emp k' ∨ a = Z.suc k') → a ∉ T := fun a h ha => by
      rw [← hT] at ha
      have := of_decide_eq_true (List.mem_filter.mp ha).2
      rcases h with h | h | h
      · exact this.1 h
      · exact this.2.1 h
      · exact this.2.2 h
    obtain ⟨t₇, u₇, hin₇⟩ := S₇.inf k' hk
    obtain ⟨vs₇, m₇, hs₇, hr₇⟩ := S₇.suc k' hk
    have hall : ∀ a ∈ Z.all σ, ∃ o, M₇ a = some o := fun a ha => let ⟨o, e, _⟩ := S₇.obj ha; ⟨o, e⟩
    generalize hst : (fun i : Nat => ((σ.su k').take i).foldl relaxStep (fun i => if i = k' then -2 else σ.np i, l)) = st
    have st0 : st 0 = (fun i => if i = k' then -2 else σ.np i, l) := by rw [← hst]; rfl
    have stl : ∀ i, (st i).2.length ≤ l.length + (σ.su k').length := fun i => by
      rw [← hst]
      refine Nat.le_trans (relax_len _ _) ?_
      simp; omega
    have stS : ∀ i j, (σ.su k')[i]? = some j → st (i + 1) = relaxStep (st i) j := fun i j hi => by
      rw [← hst]
      have htk : (σ.su k').take (i + 1) = (σ.su k').take i ++ [j] := by rw [List.take_add_one, hi]; rfl
      simp only [htk, List.foldl_append, List.foldl_cons, List.foldl_nil]
    have stE : st (σ.su k').length = doneS σ l k' := by rw [← hst]; simp only [List.take_length]; rfl
    refine st_for (L := σ.su k') (enc := fun k => Dat.int (k : Int)) (tds := fun k => [.int (k : Int)]) [Str.ofString "successor"] T (fun _ => ofL [(Str.ofString "self", .val (.ref Z.s)), (Str.ofString "n2i", .val (.ref Z.D))])
      (fun i _ M => SAt C aT aN (patch T M₇ M) Z { σ with np := (st i).1, rd := some (st i).2 }) F₇ rm (evIt_mul (ev_slot B.at (k_suc _) (ev_name rfl) (Reg.minus_some (hoff _ (.inl rfl)) hin₇) (Reg.minus_some (hoff _ (.inr (.inl rfl))) (S₇.emp k' hk)) rfl) (Reg.minus_some (hoff _ (.inr (.inr rfl))) hs₇) hr₇)
      (AllIn.le ⟨rfl, rfl, trivial⟩) (fun a ha => hall a (hTs a ha)) (by decide +kernel) (fun a _ => ⟨rfl, rfl⟩)
      (fun i R R' M M' hJ' _ he => by rw [patch_same he]; exact hJ') (patch_from keepsOff_refl (fun a ha => hall a (by rwa [Srt.all_same (σ := σ) (by rfl) (by rw [hrd]; rfl)] at ha)) (S₇.to (by rw [st0, ← hrd]))) ?_ ?_
    · intro i j s₈ R₉ M₈ hij l₈ hk₈ F₈ hJ₈
      refine cps fun Qg hQg => ?_
      have hjs := hsu j (List.mem_of_getElem? hij)
      have S₈ := patch_to hk₈ hJ₈
      obtain ⟨od₈, hD₈, hdo₈⟩ := S₈.D
      obtain ⟨t₈, u₈, hin₈⟩ := S₈.inf j hjs.1
      refine st_assign F₈ rm (ev_sub (ev_name rfl) (ev_name rfl) (op_ditem hD₈ hdo₈ (S₈.node hjs.1))) fun s₉ R₁₀ l₉ F₉ => ?_
      refine st_slotAug B (k_np _) F₉ rm (ev_name rfl) ev_int hin₈ (S₈.emp j hjs.1) rfl rfl (fun _ => .int _ _) op_isub fun s₁₀ R₁₁ v l₁₀ hv F₁₀ => ?_
      (have q_ := Rd.intE hv; clear hv; obtain ⟨_, rfl⟩ := q_)
      rename_i tv
      change Fra C s₀ R (Z.all σ) _ env W s₁₀ R₁₁ (M₈.set (Z.inf j) (nodeObj aN (Z.emp j) j t₈ ((st i).1 j - 1) tv (Z.suc j))) _ at F₁₀
      have S₁₀ := S₈.setnp hjs.1 (t := t₈) (u := tv) (x := (st i).1 j - 1)
      have hin₁₀ : (M₈.set (Z.inf j) (nodeObj aN (Z.emp j) j t₈ ((st i).1 j - 1) tv (Z.suc j))) (Z.inf j) = _ := Reg.set_self _ _ _
      have hTj : Z.inf j ∈ T := hm (Srt.mem_all.mpr (.inr (.inr (.inr (.inr ⟨j, hjs.1, .inl rfl⟩))))) (S.rinf j hjs.1) (by simpa using hjs.2) (by simp) (by simp)
      have hTq : Z.q ∈ T := hm (Srt.mem_all.mpr (.inr (.inr (.inr (.inl ⟨by rw [hrd]; simp, rfl⟩))))) (S.rq (by rw [hrd]; simp)) (by simp) (by simp) (by simp)
      have hoff₁₀ : Reg.keepsOff T M₈ _ := keepsOff_set (M := M₈) (o := nodeObj aN (Z.emp j) j t₈ ((st i).1 j - 1) tv (Z.suc j)) hTj
      generalize M₈.set (Z.inf j) (nodeObj aN (Z.emp j) j t₈ ((st i).1 j - 1) tv (Z.suc j)) = M₁₀ at F₁₀ S₁₀ hin₁₀ hoff₁₀
      refine st_if F₁₀ rm (evT_cmp (Ev.asInt (ev_slot B.at (k_np _) (ev_name rfl) hin₁₀ (S₁₀.emp j hjs.1) rfl)) ev_int op_eq_int) fun s₁₁ R₁₂ l₁₁ F₁₁ => ?_
      have hfrom : ∀ {M' : Reg} {σ' : Sd}, Reg.keepsOff T M₇ M' → σ'.ks = σ.ks → σ'.rd.isSome = true → SAt C aT aN M' Z σ' → SAt C aT aN (patch T M₇ M') Z σ' := fun hko h1 h2 S' => patch_from hko (fun a ha => hall a (by rwa [Srt.all_same (σ := σ) h1 (by rw [h2, hrd]; rfl)] at ha)) S'
      by_cases hb : (st i).1 j - 1 = 0
      · rw [show ((st i).1 j - 1 == 0) = true from by simp [hb]]
        obtain ⟨h₁₁, t₁₁, n₁₁, hd₁₁⟩ := S₁₀.d
        obtain ⟨vs₁₁, m₁₁, hq₁₁, hr₁₁⟩ := S₁₀.q _ rfl
        refine st_expr (mlist_append F₁₁ rm (ev_own B.at (k_rdy _) (ev_name rfl) S₁₀.s hd₁₁ look_rdy) (ev_name rfl) hq₁₁ (by have := stl i; rw [sizeLine_val, encN_len hr₁₁]; omega) fun s₁₂ R₁₃ v m' l₁₂ hv F₁₂ => ?_) F₁₁.quiet
        (have q_ := Rd.intE hv; clear hv; obtain ⟨_, rfl⟩ := q_)
        rename_i tv'
        have S₁₂ := S₁₀.setrd (by simp) (vs := vs₁₁ ++ [.int (j : Int) tv']) (n := m') (l := (st i).2 ++ [j]) (by rw [encN, List.map_append]; exact hr₁₁.append (.cons (.int _ _) .nil))
        have hko := keepsOff_trans (keepsOff_trans hk₈ hoff₁₀) (keepsOff_set (M := M₁₀) (o := lstObj (vs₁₁ ++ [.int (j : Int) tv']) m') hTq)
        refine st_nil (st_nil (hQg _ _ ⟨R₁₃, _, l₉.trans (l₁₀.trans (l₁₁.trans l₁₂)), keepsOff_trans hoff₁₀ (keepsOff_set hTq), F₁₂.toL _ ⟨rfl, rfl, trivial⟩, hfrom hko rfl rfl (S₁₂.to ?_)⟩))
        rw [stS i j hij]
        simp only [relaxStep, hb, if_true]
      · rw [show ((st i).1 j - 1 == 0) = false from by simp [hb]]
        refine st_nil (st_nil (hQg _ _ ⟨R₁₂, _, l₉.trans (l₁₀.trans l₁₁), hoff₁₀, F₁₁.toL _ ⟨rfl, rfl, trivial⟩, hfrom (keepsOff_trans hk₈ hoff₁₀) rfl rfl (S₁₀.to ?_)⟩))
        rw [stS i j hij]
        simp only [relaxStep, hb, if_false]
    · intro s₈ R₉ M₈ l₈ hk₈ F₈ hJ₈
      rw [stE] at hJ₈
      have S₈ := patch_to hk₈ hJ₈
      obtain ⟨h₈, t₈, n₈, hd₈⟩ := S₈.d
      refine st_ownAug B (k_nf _) F₈ rm (ev_name rfl) ev_int S₈.s hd₈ getL_nf rfl (fun _ => .int _ _) op_iadd (by rw [sEnts_len]; omega) fun s₉ R₁₀ v u l₉ hv F₉ => ?_
      (have q_ := Rd.intE hv; clear hv; obtain ⟨_, rfl⟩ := q_)
      rw [put_nf] at F₉
      refine st_nil (hQf _ _ ⟨R₁₀, _, l₄.trans (l₅.trans (l₆.trans (l₇.trans (l₈.trans l₉)))), ?_, F₉.toL _ ⟨rfl, rfl, trivial⟩, (S₈.setd (rd := some (doneS σ l k').2) rfl).to (by simp)⟩)
      refine keepsOff_trans (keepsOff_trans ?_ (keepsOff_sub hTs hk₈)) (keepsOff_set (Srt.mem_all.mpr (.inr (.inl rfl))))
      rw [← hM]
      exact keepsOff_set (Srt.mem_all.mpr (.inr (.inr (.inr (.inr ⟨k', hk, .inl rfl⟩)))))
  · intro s₃ R₄ M₃ l₃ hk₃ F₃ hJ
    refine st_nil ?_
    exact hQ _ _ ⟨R₄, M₃, _, Z, _, _, F₃, hJ, ⟨rfl, rfl, rfl⟩, rfl, fun a ha => .inl (by rwa [if_neg (by simp), Srt.all_same (σ := σ) (by rfl) (by rw [hrd]; rfl)] at ha), fun a ha => by rwa [if_neg (by simp), Srt.all_same (σ := σ) (by rfl) (by rw [hrd]; rfl)], .none⟩
end
end Mine
end
noncomputable section
open PySem PySem.W PyProof.Rows PySem.SeqAt PySem.MeetsSeq
set_option Elab.async false
set_option autoImplicit false
set_option maxRecDepth 100000
namespace Mine
section
variable {C : Cx} (B : Base C (K1 C)) {Z : Srt} {σ : Sd}
include B
/- _NodeInfo(k) -/
theorem make_node {k : Nat} (A : Around) (s : Shared) (R : Reg) (v : Value) (rm : Room 2 A) (ro : Rok (C.at noM) R s.heap) (hv : Rd R v (.int (k : Int))) :
    wpAny C.M A (call (.ref aN) [v]) (fun w s' => ∃ x e l t u, w = .ref x ∧ Keeps s s' ∧ (s.heap.get? x = none ∧ s.heap.get? e = none ∧ s.heap.get? l = none) ∧ (x ≠ e ∧ x ≠ l ∧ e ≠ l) ∧
      s'.heap.get? x = some (nodeObj aN e k t 0 u l) ∧ s'.heap.get? e = some emptyDict ∧ s'.heap.get? l = some (lstObj [] 0)) NoE s := by
  have X := B.ins ro.hle0
  obtain ⟨hh, g, d, tk, os⟩ := s
  dsimp only at ro X
  refine wpAny_call (make_core (makes_of X (by kernel_rfl!)) (looks_findIn X (show findIn (K1 C) (.ref aN) "__init__" = some (some (.ref aNi)) from by kernel_rfl!)) (fun self => bind_fn X self (by kernel_rfl!)) (.inl rfl) ?_)
  have kp : hle hh ((hh.push emptyDict).push (instObj aN hh.objs.size)) := fun b o e => Heap.get?_push_of_some _ (Heap.get?_push_of_some _ e)
  have ro' : Rok (C.at noM) R ((hh.push emptyDict).push (instObj aN hh.objs.size)) := ⟨ro.base, ro.on.hle kp, fun _ _ e => nomatch e⟩
  have hsz : (hh.push emptyDict).objs.size = hh.objs.size + 1 := Heap.size_push ..
  have hx : ((hh.push emptyDict).push (instObj aN hh.objs.size)).get? (hh.objs.size + 1) = some (insObj aN hh.objs.size #[]) := by rw [← hsz]; exact Heap.get?_push_size _ rfl
  have hd : ((hh.push emptyDict).push (instObj aN hh.objs.size)).get? hh.objs.size = some emptyDict := Heap.get?_push_of_some _ (Heap.get?_push_size _ rfl)
  have no : ∀ a, hh.objs.size ≤ a → hh.get? a = none := fun a ha => by
    cases e : hh.get? a with
    | none => rfl
    | some o' => exact absurd (Heap.lt_size e) (Nat.not_lt.mpr ha)
  refine fn_callB (s := ⟨(hh.push emptyDict).push (instObj aN hh.objs.size), g, d, tk, os⟩) (xs := [Str.ofString "self", Str.ofString "node"]) (ds := [.val (.ref (hh.objs.size + 1)), .int (k : Int)]) (fnC B rfl (by kernel_rfl!) rfl (by kernel_rfl!)) rm.made ro' (bnd_plain ro'.on (by kernel_rfl!) (.cons (.val _) (.cons hv .nil))) rfl fun env W s' R' hsc rm' F => ?_
  have hRn : ∀ a, hh.get? a = none → R a = none := fun a ha => by
    cases q : R a with
    | none => rfl
    | some o => have := ro.on a o q; rw [ha] at this; (have q_ := oNS this; clear this; exact q_.elim)
  have hge : ∀ a ∈ [hh.objs.size + 1, hh.objs.size], hh.objs.size ≤ a := fun a ha => by
    rcases List.mem_cons.mp ha with h | h
    · rw [h]; exact Nat.le_succ _
    · rw [List.mem_singleton.mp h]; exact Nat.le_refl _
  have F' := F.lent (V := [hh.objs.size + 1, hh.objs.size]) (fun a ha => by
    cases q : R' a with
    | none => rfl
    | some o =>
      rcases F.sub a o q with h | h
      · rw [hRn a (no a (hge a ha))] at h; (have q_ := oNS h; clear h; exact q_.elim)
      · simp at ha
        rcases ha with rfl | rfl
        · rw [hx] at h; (have q_ := oSN h; clear h; exact q_.elim)
        · rw [hd] at h; (have q_ := oSN h; clear h; exact q_.elim)) (fun a ha => by
      simp at ha
      rcases ha with rfl | rfl
      · exact ⟨_, hx⟩
      · exact ⟨_, hd⟩)
  have hne : hh.objs.size + 1 ≠ hh.objs.size := by omega
  generalize hMu : ((fun a => if a ∈ [hh.objs.size + 1, hh.objs.size] then ((hh.push emptyDict).push (instObj aN hh.objs.size)).get? a else none) : Reg) = M₀ at F'
  change Reg at M₀
  have hx₀ : M₀ (hh.objs.size + 1) = some (insObj aN hh.objs.size #[]) := by rw [← hMu]; simpa using hx
  have hd₀ : M₀ hh.objs.size = some emptyDict := by rw [← hMu]; simpa using hd
  refine st_slot B (k_node C) F' rm' (ev_name rfl) (ev_name rfl) hx₀ hd₀ fun s₁ R₁ v₁ l₁ hv₁ F₁ => ?_
  (have q_ := Rd.intE hv₁; clear hv₁; obtain ⟨_, rfl⟩ := q_)
  rename_i t₁
  have hx₁ : (M₀.set (hh.objs.size + 1) (insObj aN hh.objs.size #[some (.int (k : Int) t₁)])) (hh.objs.size + 1) = some (insObj aN hh.objs.size #[some (.int (k : Int) t₁)]) := Reg.set_self _ _ _
  have hd₁ : (M₀.set (hh.objs.size + 1) (insObj aN hh.objs.size #[some (.int (k : Int) t₁)])) hh.objs.size = some emptyDict := by rw [Reg.set_ne _ _ (Ne.symm hne)]; exact hd₀
  refine st_slot B (k_np C) F₁ rm' (ev_name rfl) ev_int hx₁ hd₁ fun s₂ R₂ v₂ l₂ hv₂ F₂ => ?_
  (have q_ := Rd.intE hv₂; clear hv₂; obtain ⟨_, rfl⟩ := q_)
  rename_i t₂
  change Fra C _ R _ _ env W s₂ R₂ ((M₀.set (hh.objs.size + 1) (insObj aN hh.objs.size #[some (.int (k : Int) t₁)])).set (hh.objs.size + 1) (insObj aN hh.objs.size #[some (.int (k : Int) t₁), some (.int 0 t₂)])) _ at F₂
  have hx₂ : ((M₀.set (hh.objs.size + 1) (insObj aN hh.objs.size #[some (.int (k : Int) t₁)])).set (hh.objs.size + 1) (insObj aN hh.objs.size #[some (.int (k : Int) t₁), some (.int 0 t₂)])) (hh.objs.size + 1) = some (insObj aN hh.objs.size #[some (.int (k : Int) t₁), some (.int 0 t₂)]) := Reg.set_self _ _ _
  have hd₂ : ((M₀.set (hh.objs.size + 1) (insObj aN hh.objs.size #[some (.int (k : Int) t₁)])).set (hh.objs.size + 1) (insObj aN hh.objs.size #[some (.int (k : Int) t₁), some (.int 0 t₂)])) hh.objs.size = some emptyDict := by rw [Reg.set_ne _ _ (Ne.symm hne)]; exact hd₁
  refine st_slot_new B (k_suc C) F₂ rm' (fun _ => ev_name rfl) hx₂ hd₂ fun s₃ R₃ l l₃ hl F₃ => ?_
  refine st_nil ⟨rfl, ?_⟩
  have hl0 : ((hh.push emptyDict).push (instObj aN hh.objs.size)).get? l = none := by
    cases q : ((hh.push emptyDict).push (instObj aN hh.objs.size)).get? l with
    | none => rfl
    | some o =>
      by_cases hv : l ∈ [hh.objs.size + 1, hh.objs.size]
      · obtain ⟨o', e'⟩ := F₂.vnew l hv; rw [hl] at e'; (have q_ := oNS e'; clear e'; exact q_.elim)
      · have := F₂.keep.get hv q; rw [hl] at this; (have q_ := oNS this; clear this; exact q_.elim)
  have hl1 : l ≠ hh.objs.size + 1 := fun h => by rw [h, hx] at hl0; (have q_ := oSN hl0; clear hl0; exact q_.elim)
  have hl2 : l ≠ hh.objs.size := fun h => by rw [h, hd] at hl0; (have q_ := oSN hl0; clear hl0; exact q_.elim)
  have hlh : hh.get? l = none := by
    cases q : hh.get? l with
    | none => rfl
    | some o => rw [kp _ _ q] at hl0; (have q_ := oSN hl0; clear hl0; exact q_.elim)
  refine ⟨hh.objs.size + 1, hh.objs.size, l, t₁, t₂, rfl, ?_, ⟨no _ (by omega), no _ (Nat.le_refl _), hlh⟩, ⟨hne, Ne.symm hl1, Ne.symm hl2⟩, ?_, ?_, ?_⟩
  · obtain ⟨h', tk', rfl, e⟩ := F₃.keep
    refine ⟨h', tk', rfl, fun b o q => e b o (fun hb => ?_) (kp b o q)⟩
    rw [no b (hge b hb)] at q; (have q_ := oNS q; clear q; exact q_.elim)
  · exact (F₃.mu _ _ (Reg.set_self _ _ _)).1
  · exact (F₃.mu hh.objs.size emptyDict (by rw [Reg.set_ne _ _ (Ne.symm hne), Reg.set_ne _ _ (Ne.symm hl2)]; exact hd₂)).1
  · exact (F₃.mu l (lstObj [] 0) (by rw [Reg.set_ne _ _ hl1, Reg.set_self])).1
end
end Mine
end
noncomputable section
open PySem PySem.W PyProof.Rows PySem.SeqAt PySem.MeetsSeq
set_option Elab.async false
set_option autoImplicit false
set_option maxRecDepth 100000
namespace Mine
section
variable {C : Cx} (B : Base C (K1 C)) {Z : Srt} {σ : Sd}
include B
theorem info_old {k : Nat} (hk : k ∈ σ.ks) : SCall C aT aN 1 aGet [.int (k : Int)] Z σ (fun Z' σ' d => Z' = Z ∧ σ' = σ ∧ d = .val (.ref (Z.inf k))) := by
  refine scall_fn (xs := [Str.ofString "self", Str.ofString "node"]) (es := [.val (.ref Z.s), .int (k : Int)]) (fnC B rfl (by kernel_rfl!) rfl (by kernel_rfl!)) rfl (fun R s vs ro _ hr => by
    cases hr with
    | cons h r => (have q_ := RdAll.nilE r; clear r; subst q_); exact bnd_plain ro (by kernel_rfl!) (.cons (.val _) (.cons h .nil))) ?_
  intro A env W s₀ s R R₁ Mu hsc rm F S
  refine cps fun Q hQ => ?_
  obtain ⟨h, t, n, hd⟩ := S.d
  obtain ⟨od, hD, hdo⟩ := S.D
  refine st_if_walrus F rm (Ev.cast (d' := .val (.ref (Z.inf k))) (ev_dget (ev_own B.at (k_n2i _) (ev_name rfl) S.s hd look_n2i) (ev_name rfl) hD hdo S.sm) (by rw [S.node hk]; rfl)) fun s₁ R₂ l₁ F₁ => ?_
  refine st_nil ?_
  refine st_ret F₁ rm (ev_name rfl) fun s₂ R₃ v l₂ F₂ hv => ?_
  exact hQ _ _ ⟨R₃, Mu, _, Z, σ, _, F₂, S, ⟨rfl, rfl, rfl⟩, rfl, fun a ha => .inl ha, fun a ha => ha, hv⟩
theorem info_new {k : Nat} (hk : k ∉ σ.ks) (hlen : σ.ks.length < 7) : SCall C aT aN 3 aGet [.int (k : Int)] Z σ (fun Z' σ' d => ∃ x e l, Z' = Z.grow k x e l ∧ σ' = σ.grow k ∧ d = .val (.ref x)) := by
  refine scall_fn (n := 2) (xs := [Str.ofString "self", Str.ofString "node"]) (es := [.val (.ref Z.s), .int (k : Int)]) (fnC B rfl (by kernel_rfl!) rfl (by kernel_rfl!)) rfl (fun R s vs ro _ hr => by
    cases hr with
    | cons h r => (have q_ := RdAll.nilE r; clear r; subst q_); exact bnd_plain ro (by kernel_rfl!) (.cons (.val _) (.cons h .nil))) ?_
  intro A env W s₀ s R R₁ Mu hsc rm F S
  refine cps fun Q hQ => ?_
  obtain ⟨h, t, n, hd⟩ := S.d
  obtain ⟨od, hD, hdo⟩ := S.D
  refine st_if_walrus F rm (Ev.cast (d' := .val .none) (ev_dget (ev_own B.at (k_n2i _) (ev_name rfl) S.s hd look_n2i) (ev_name rfl) hD hdo S.sm) (by rw [SAt.nonode σ Z hk]; rfl)) fun s₁ R₂ l₁ F₁ => ?_
  refine wpAny_execs_cons (wpAny_Assign_two (Call_ (F₁.ev rm (ev_glob (g_nodeinfo B.at) rfl) fun f s₂ Ra la ka hf F₂ => ?_)))
  (have q_ := Rd.valE hf; clear hf; subst q_)
  refine callWith_K (K := K1 C) (B.ins F₂.ro.hle0) (by kernel_rfl!) (F₂.evAll rm (evAll_cons (ev_name rfl) evAll_nil) fun vs s₃ Rb lb kb hvs F₃ => ?_)
  refine ⟨B.ins F₃.ro.hle0, ?_⟩
  have q_ := RdAll.consE hvs
  clear hvs
  obtain ⟨_, _, rfl, hv, hr⟩ := q_
  next =>
    (have q_ := RdAll.nilE hr; clear hr; subst q_)
    rename_i v
    refine noE (make_node B A s₃ _ v rm F₃.ro hv) fun w s₄ h₄ => ?_
    obtain ⟨x, e, l, t₄, u₄, rfl, k₄, hn, h3, hx, he, hl⟩ := h₄
    have F₄ := F₃.begin (X := [x, e, l]) k₄ (fun a ha => by
      simp only [List.mem_cons, List.not_mem_nil, or_false] at ha
      rcases ha with rfl | rfl | rfl
      · exact hn.1
      · exact hn.2.1
      · exact hn.2.2)
    have hoff : ∀ {a oa}, Mu a = some oa → a ∉ [x, e, l] := fun {a oa} h ha => by
      have := (F₃.mu a oa h).1
      simp only [List.mem_cons, List.not_mem_nil, or_false] at ha
      rcases ha with rfl | rfl | rfl
      · rw [hn.1] at this; (have q_ := oNS this; clear this; exact q_.elim)
      · rw [hn.2.1] at this; (have q_ := oNS this; clear this; exact q_.elim)
      · rw [hn.2.2] at this; (have q_ := oNS this; clear this; exact q_.elim)
    have le₄ : R₂.le ((Rb.ext s₃.heap s₄.heap).minus [x, e, l]) := fun a oa q => by
      have q3 := lb a oa (la a oa q)
      refine Reg.minus_some (fun ha => ?_) (Reg.ext_le F₃.ro.on a oa q3)
      have := F₃.ro.on a oa q3
      simp only [List.mem_cons, List.not_mem_nil, or_false] at ha
      rcases ha with rfl | rfl | rfl
      · rw [hn.1] at this; (have q_ := oNS this; clear this; exact q_.elim)
      · rw [hn.2.1] at this; (have q_ := oNS this; clear this; exact q_.elim)
      · rw [hn.2.2] at this; (have q_ := oNS this; clear this; exact q_.elim)
    generalize ((Rb.ext s₃.heap s₄.heap).minus [x, e, l]) = R₄ at F₄ le₄
    generalize hM : ((fun a => if a ∈ [x, e, l] then s₄.heap.get? a else Mu a) : Reg) = M₄ at F₄
    change Reg at M₄
    have hM₄ : ∀ {a oa}, Mu a = some oa → M₄ a = some oa := fun {a oa} q => by
      rw [← hM]; simp only [hoff q, if_false]; exact q
    have hx₄ : M₄ x = some (nodeObj aN e k t₄ 0 u₄ l) := by rw [← hM]; simpa using hx
    have he₄ : M₄ e = some emptyDict := by rw [← hM]; simpa using he
    have hl₄ : M₄ l = some (lstObj [] 0) := by rw [← hM]; simpa using hl
    have hMn : Mu x = none ∧ Mu e = none ∧ Mu l = none := by
      refine ⟨?_, ?_, ?_⟩
      · cases q : Mu x with | none => rfl | some o => exact absurd (by simp) (hoff q)
      · cases q : Mu e with | none => rfl | some o => exact absurd (by simp) (hoff q)
      · cases q : Mu l with | none => rfl | some o => exact absurd (by simp) (hoff q)
    rw [assign_Subscript]
    refine wpAny_bind (wpAny_holding (F₄.ev rm (ev_own B.at (k_n2i _) (ev_name rfl) (hM₄ S.s) (hM₄ hd) look_n2i) fun ov s₅ Rc lc kc h5 F₅ => ?_))
    (have q_ := Rd.valE h5; clear h5; subst q_)
    refine wpAny_bind (wpAny_holding (F₅.ev rm (d := .int (k : Int)) (ev_name rfl) fun iv s₆ Rd' ld kd h6 F₆ => ?_))
    (have q_ := Rd.intE h6; clear h6; obtain ⟨_, rfl⟩ := q_)
    refine wpAny_bind (wpAny_standAt (wpAny_bind (wpAny_holding ?_)))
    refine wpAny_setItem_pairs (knd := iK C) (intKind_is _ _ _ _) (dictAt_of (C := C) (F₆.rom.mu _ _ (hM₄ hD)) hdo) (fun h' hdict hsb => ?_) (by rw [sizeLine_val]; simp [nodePairs]; omega)
    obtain ⟨od', hD', hdo'⟩ := Heap.dictOf_iff.mp hdict
    have F₇ := F₆.mut (tk := s₆.toks + 1) (hM₄ hD) (fun v q => by obtain ⟨es, ep, _, hde, _⟩ := hdo; rw [hde] at q; cases q) hsb hD'
    refine wpAny_release (wpAny_assign_Name (F₇.store (.val (.ref x)) (fun s₈ _ F₈ => ?_) (Or.inl rfl)))
    rw [stored_new (SAt.nonode σ Z hk), ← nodePairs_grow (x := x) (e := e) (l := l) hk] at hdo'
    have hDx : x ≠ Z.D ∧ e ≠ Z.D ∧ l ≠ Z.D := by
      refine ⟨?_, ?_, ?_⟩
      · intro q; rw [q, hD] at hMn; cases hMn.1
      · intro q; rw [q, hD] at hMn; cases hMn.2.1
      · intro q; rw [q, hD] at hMn; cases hMn.2.2
    have S₈ : SAt C aT aN (M₄.set Z.D od') (Z.grow k x e l) (σ.grow k) := S.grow hk hlen h3 hMn (by rw [Reg.set_ne _ _ hDx.1]; exact hx₄) (by rw [Reg.set_ne _ _ hDx.2.1]; exact he₄) (by rw [Reg.set_ne _ _ hDx.2.2]; exact hl₄) (Reg.set_self _ _ _) hdo'
      (fun a oa ha q => by rw [Reg.set_ne _ _ ha]; exact hM₄ q)
    refine st_nil ?_
    refine st_ret F₈ rm (ev_name rfl) fun s₉ R₉ v l₉ F₉ hv => ?_
    have dead : ∀ a, s₃.heap.get? a = none → s₀.heap.get? a = none := fun a q => by
      cases z : s₀.heap.get? a with
      | none => rfl
      | some o =>
        exfalso
        by_cases hv : a ∈ Z.all σ
        · obtain ⟨o', e'⟩ := F₃.vnew a hv; rw [q] at e'; (have q_ := oNS e'; clear e'; exact q_.elim)
        · rw [F₃.keep.get hv z] at q; (have q_ := oSN q; clear q; exact q_.elim)
    refine hQ _ _ ⟨R₉, _, _, Z.grow k x e l, σ.grow k, _, F₉, S₈, ⟨x, e, l, rfl, rfl, rfl⟩, rfl, fun a ha => ?_, fun a ha => (Srt.mem_grow hk).mpr (.inl ha), hv⟩
    rcases (Srt.mem_grow hk).mp ha with q | rfl | rfl | rfl
    · exact .inl q
    · exact .inr (dead _ hn.1)
    · exact .inr (dead _ hn.2.1)
    · exact .inr (dead _ hn.2.2)
end
end Mine
end
noncomputable section
open PySem PySem.W PyProof.Rows PySem.SeqAt PySem.MeetsSeq
set_option Elab.async false
set_option autoImplicit false
set_option maxRecDepth 100000
namespace Mine
section
variable {C : Cx} (B : Base C (K1 C)) {Z : Srt} {σ : Sd}
include B
theorem add_new {k : Nat} (hk : k ∉ σ.ks) (hlen : σ.ks.length < 7) (hrd : σ.rd = none) : SCall C aT aN 4 aAdd [.int (k : Int)] Z σ (fun Z' σ' d => ∃ x e l, Z' = Z.grow k x e l ∧ σ' = σ.grow k ∧ d = .none) := by
  refine scall_fn (n := 3) (xs := [Str.ofString "self", Str.ofString "node", Str.ofString "predecessors"]) (es := [.val (.ref Z.s), .int (k : Int), .tup []]) (fnC B rfl (by kernel_rfl!) rfl (by kernel_rfl!)) rfl (fun R s vs ro _ hr => by
    have q_ := RdAll.consE hr
    clear hr
    obtain ⟨_, _, rfl, h, r⟩ := q_
    next =>
      (have q_ := RdAll.nilE r; clear r; subst q_)
      rename_i v
      exact bnd_star (vs := [.ref Z.s, v]) (us := []) (ds := [.val (.ref Z.s), .int (k : Int)]) ro (by kernel_rfl!) (.cons (.val _) (.cons h .nil)) .nil (by rw [sizeLine_val]; simp)) ?_
  intro A env W s₀ s R R₁ Mu hsc rm F S
  refine cps fun Q hQ => ?_
  obtain ⟨h, t, n, hd⟩ := S.d
  have hrv : rdV Z σ.rd = .none := by rw [hrd]; rfl
  rw [hrv] at hd
  refine st_if F rm (evT_cmp (ev_own B.at (k_rdy _) (ev_name rfl) S.s hd look_rdy) ev_none op_isnot_none) fun s₁ R₂ l₁ F₁ => ?_
  refine st_nil ?_
  refine st_set F₁ (F₁.smeth rm B (k_get C) S hd look_get (ev_name rfl) (evAll_cons (ev_name rfl) evAll_nil) (info_new B hk hlen) fun v s₂ R₃ M₂ Z₂ σ₂ d hP hs l₂ hv F₂ S₂ hn ho hoff => ?_)
  obtain ⟨x, e, l, rfl, rfl, rfl⟩ := hP
  refine ⟨R₃, M₂, _, F₂, hv, fun s₃ F₃ => ?_⟩
  have hkm : k ∈ (σ.grow k).ks := by simp [Sd.grow]
  obtain ⟨t₃, u₃, hin⟩ := S₂.inf k hkm
  have hix : (Z.grow k x e l).inf k = x := by simp [Srt.grow]
  rw [hix] at hin
  refine st_slotAug B (k_np _) F₃ rm (ev_name rfl) (ev_callb (ev_glob (g_len B.at) rfl) (evAll_cons (ev_name rfl) evAll_nil) (call_lent (by rw [sizeLine_val]; simp))) hin (S₂.emp k hkm) rfl rfl (fun _ => .int _ _) op_iadd fun s₄ R₄ v l₃ hv F₄ => ?_
  (have q_ := Rd.intE hv; clear hv; obtain ⟨_, rfl⟩ := q_)
  rename_i tv
  have S₄ := S₂.setnp hkm (t := t₃) (u := tv) (x := (σ.grow k).np k + (([] : List Dat).length : Nat))
  rw [hix] at S₄
  refine st_for (L := ([] : List Nat)) (enc := fun k => Dat.int (k : Int)) (tds := fun k => [.int (k : Int)]) [Str.ofString "pred"] [] (fun _ => ofL []) (fun _ _ _ => True) F₄ rm (evIt_tup (ev_name rfl)) (AllIn.le trivial) (by simp) (by decide +kernel) (fun a ha => nomatch ha) (fun _ _ _ _ _ _ _ _ => trivial) trivial ?_ ?_
  · intro i a s' R' M' hi
    simp at hi
  · intro s₅ R₅ M₅ l₅ hk₅ F₅ _
    refine st_nil ?_
    refine hQ _ _ ⟨R₅, M₅, _, Z.grow k x e l, σ.grow k, .none, F₅, (S₄.on fun a o _ q => hk₅ a o (by simp) q).to ?_, ⟨x, e, l, rfl, rfl, rfl⟩, rfl, fun a ha => ?_, ho, .none⟩
    · simp only [Sd.grow]
      congr 1
      funext j
      by_cases hj : j = k <;> simp [hj]
    · rcases hn a ha with q | q
      · exact .inl q
      · exact .inr (F₁.dead q)
theorem add_old {a b : Nat} (ha : a ∈ σ.ks) (hb : b ∈ σ.ks) (hrd : σ.rd = none) (hz : (σ.su a).length ≤ 1000) :
    SCall C aT aN 3 aAdd [.int (b : Int), .int (a : Int)] Z σ (fun Z' σ' d => Z' = Z ∧ σ' = { σ with np := fun j => if j = b then σ.np b + 1 else σ.np j, su := fun j => if j = a then σ.su a ++ [b] else σ.su j } ∧ d = .none) := by
  refine scall_fn (n := 2) (xs := [Str.ofString "self", Str.ofString "node", Str.ofString "predecessors"]) (es := [.val (.ref Z.s), .int (b : Int), .tup [.int (a : Int)]]) (fnC B rfl (by kernel_rfl!) rfl (by kernel_rfl!)) rfl (fun R s vs ro _ hr => by
    have q_ := RdAll.consE hr
    clear hr
    obtain ⟨_, _, rfl, h, r⟩ := q_
    next =>
      have q_ := RdAll.consE r
      clear r
      obtain ⟨_, _, rfl, h', r⟩ := q_
      next =>
        (have q_ := RdAll.nilE r; clear r; subst q_)
        rename_i v v'
        exact bnd_star (vs := [.ref Z.s, v]) (us := [v']) (ds := [.val (.ref Z.s), .int (b : Int)]) ro (by kernel_rfl!) (.cons (.val _) (.cons h .nil)) (.cons h' .nil) (by rw [sizeLine_val]; simp)) ?_
  intro A env W s₀ s R R₁ Mu hsc rm F S
  refine cps fun Q hQ => ?_
  obtain ⟨h, t, n, hd⟩ := S.d
  have hrv : rdV Z σ.rd = .none := by rw [hrd]; rfl
  rw [hrv] at hd
  refine st_if F rm (evT_cmp (ev_own B.at (k_rdy _) (ev_name rfl) S.s hd look_rdy) ev_none op_isnot_none) fun s₁ R₂ l₁ F₁ => ?_
  refine st_nil ?_
  refine st_set F₁ (F₁.smeth rm B (k_get C) S hd look_get (ev_name rfl) (evAll_cons (ev_name rfl) evAll_nil) ((info_old B hb).le (by omega)) fun v s₂ R₃ M₂ Z₂ σ₂ d hP hs l₂ hv F₂ S₂ hn ho hoff => ?_)
  obtain ⟨rfl, rfl, rfl⟩ := hP
  refine ⟨R₃, M₂, _, F₂, hv, fun s₃ F₃ => ?_⟩
  obtain ⟨t₃, u₃, hin⟩ := S₂.inf b hb
  refine st_slotAug B (k_np _) F₃ rm (ev_name rfl) (ev_callb (ev_glob (g_len B.at) rfl) (evAll_cons (ev_name rfl) evAll_nil) (call_lent (by rw [sizeLine_val]; simp))) hin (S₂.emp b hb) rfl rfl (fun _ => .int _ _) op_iadd fun s₄ R₄ v l₃ hv F₄ => ?_
  (have q_ := Rd.intE hv; clear hv; obtain ⟨_, rfl⟩ := q_)
  rename_i tv
  have S₄ := S₂.setnp hb (t := t₃) (u := tv) (x := σ₂.np b + (([Dat.int (a : Int)] : List Dat).length : Nat))
  generalize hσ : ({ σ₂ with np := fun j => if j = b then σ₂.np b + (([Dat.int (a : Int)] : List Dat).length : Nat) else σ₂.np j } : Sd) = σ₄ at S₄
  have hks : σ₄.ks = σ₂.ks := by rw [← hσ]
  have hrd₄ : σ₄.rd = none := by rw [← hσ]; exact hrd
  have hsu₄ : σ₄.su = σ₂.su := by rw [← hσ]
  have hall : ∀ {σ' : Sd}, σ'.ks = σ₂.ks → σ'.rd = none → Z₂.all σ' = Z₂.all σ₂ := fun h1 h2 => Srt.all_same h1 (by rw [h2, hrd])
  refine st_for (L := [a]) (enc := fun k => Dat.int (k : Int)) (tds := fun k => [.int (k : Int)]) [Str.ofString "pred"] (Z₂.all σ₂) (fun _ => ofL [(Str.ofString "self", .val (.ref Z₂.s)), (Str.ofString "node", .int (b : Int))])
    (fun i _ M => SAt C aT aN M Z₂ (if i = 0 then σ₄ else { σ₄ with su := fun j => if j = a then σ₄.su a ++ [b] else σ₄.su j })) F₄ rm (evIt_tup (ev_name rfl)) (AllIn.le ⟨rfl, rfl, trivial⟩) (fun c hc => let ⟨o, e, _⟩ := S₄.obj (by rw [hall hks hrd₄]; exact hc); ⟨o, e⟩) (by decide +kernel) (fun _ _ => ⟨rfl, rfl⟩)
    (fun i R R' M M' hJ _ he => hJ.on fun c o hc e => (he c (by
      split at hc
      · rwa [hall hks hrd₄] at hc
      · change c ∈ Z₂.all σ₄ at hc; rwa [hall hks hrd₄] at hc)).trans e) (S₄.to (by simp)) ?_ ?_
  · intro i a' s₅ R₅ M₅ hi l₅ hk₅ F₅ hJ
    refine cps fun Qf hQf => ?_
    have hi0 : i = 0 ∧ a' = a := by
      rcases i with _ | i
      · simp at hi; exact ⟨rfl, hi.symm⟩
      · simp at hi
    obtain ⟨rfl, rfl⟩ := hi0
    simp only [if_true] at hJ
    obtain ⟨h₅, t₅, n₅, hd₅⟩ := hJ.d
    have ha₄ : a' ∈ σ₄.ks := by rw [hks]; exact ha
    refine st_set F₅ (F₅.smeth rm B (k_get C) hJ hd₅ look_get (ev_name rfl) (evAll_cons (ev_name rfl) evAll_nil) ((info_old B ha₄).le (by omega)) fun v s₆ R₆ M₆ Z₆ σ₆ d hP hs₆ l₆ hv F₆ S₆ hn₆ ho₆ hoff₆ => ?_)
    obtain ⟨rfl, rfl, rfl⟩ := hP
    refine ⟨R₆, M₆, _, F₆, hv, fun s₇ F₇ => ?_⟩
    obtain ⟨t₇, u₇, hin₇⟩ := S₆.inf a' ha₄
    obtain ⟨vs, m, hsuc, hr⟩ := S₆.suc a' ha₄
    refine st_expr (mlist_append F₇ rm (ev_slot B.at (k_suc _) (ev_name rfl) hin₇ (S₆.emp a' ha₄) rfl) (ev_name rfl) hsuc (by rw [sizeLine_val, encN_len hr, hsu₄]; omega) fun s₈ R₈ v m' l₈ hv F₈ => ?_) F₇.quiet
    (have q_ := Rd.intE hv; clear hv; obtain ⟨_, rfl⟩ := q_)
    rename_i tv'
    have S₈ := S₆.setsu ha₄ (vs := vs ++ [.int (b : Int) tv']) (n := m') (l := σ₆.su a' ++ [b]) (by rw [encN, List.map_append]; exact hr.append (.cons (.int _ _) .nil))
    refine st_nil (hQf _ _ ⟨R₈, _, l₆.trans l₈, keepsOff_trans (keepsOff_sub (fun c hc => by rwa [hall hks hrd₄] at hc) hoff₆) (keepsOff_set (by rw [← hall hks hrd₄]; exact Srt.mem_all.mpr (.inr (.inr (.inr (.inr ⟨a', ha₄, .inr (.inr rfl)⟩)))))), F₈.toL _ ⟨rfl, rfl, trivial⟩, S₈.to (by simp)⟩)
  · intro s₅ R₅ M₅ l₅ hk₅ F₅ hJ
    refine st_nil ?_
    have hal : Z₂.all (if ([a] : List Nat).length = 0 then σ₄ else { σ₄ with su := fun j => if j = a then σ₄.su a ++ [b] else σ₄.su j }) = Z₂.all σ₂ := by rw [if_neg (by simp)]; exact hall hks hrd₄
    refine hQ _ _ ⟨R₅, M₅, _, Z₂, _, .none, F₅, hJ, ⟨rfl, ?_, rfl⟩, rfl, fun c hc => .inl (by rwa [hal] at hc), fun c hc => by rwa [hal], .none⟩
    rw [if_neg (by simp), ← hσ]
    simp
end
end Mine
end
noncomputable section
open PySem PySem.W PyProof.Rows PySem.SeqAt PySem.MeetsSeq
set_option Elab.async false
set_option autoImplicit false
set_option maxRecDepth 100000
namespace Mine
noncomputable def Sd.start : Sd := ⟨[], fun _ => 0, fun _ => [], none, 0, 0⟩
section
variable {C : Cx} (B : Base C (K1 C)) {Z : Srt} {σ : Sd}
include B
/- TopologicalSorter() -/
theorem make_sorter (A : Around) (s : Shared) (R : Reg) (rm : Room 2 A) (ro : Rok (C.at noM) R s.heap) :
    wpAny C.M A (call (.ref aT) []) (fun w s' => ∃ Z : Srt, w = .ref Z.s ∧ Keeps s s' ∧ SAt C aT aN s'.heap.get? Z Sd.start ∧ ∀ a ∈ Z.all Sd.start, s.heap.get? a = none) NoE s := by
  have X := B.ins ro.hle0
  obtain ⟨hh, g, d, tk, os⟩ := s
  dsimp only at ro X
  refine wpAny_call (make_core (makes_of X (by kernel_rfl!)) (looks_findIn X (show findIn (K1 C) (.ref aT) "__init__" = some (some (.ref aTi)) from by kernel_rfl!)) (fun self => bind_fn X self (by kernel_rfl!)) (.inl rfl) ?_)
  have kp : hle hh ((hh.push emptyDict).push (instObj aT hh.objs.size)) := fun b o e => Heap.get?_push_of_some _ (Heap.get?_push_of_some _ e)
  have ro' : Rok (C.at noM) R ((hh.push emptyDict).push (instObj aT hh.objs.size)) := ⟨ro.base, ro.on.hle kp, fun _ _ e => nomatch e⟩
  have hsz : (hh.push emptyDict).objs.size = hh.objs.size + 1 := Heap.size_push ..
  have hx : ((hh.push emptyDict).push (instObj aT hh.objs.size)).get? (hh.objs.size + 1) = some (insObj aT hh.objs.size #[]) := by rw [← hsz]; exact Heap.get?_push_size _ rfl
  have hd : ((hh.push emptyDict).push (instObj aT hh.objs.size)).get? hh.objs.size = some emptyDict := Heap.get?_push_of_some _ (Heap.get?_push_size _ rfl)
  have no : ∀ a, hh.objs.size ≤ a → hh.get? a = none := fun a ha => by
    cases e : hh.get? a with
    | none => rfl
    | some o' => exact absurd (Heap.lt_size e) (Nat.not_lt.mpr ha)
  refine fn_callB (s := ⟨(hh.push emptyDict).push (instObj aT hh.objs.size), g, d, tk, os⟩) (xs := [Str.ofString "self", Str.ofString "graph"]) (ds := [.val (.ref (hh.objs.size + 1)), .val .none]) (fnC B rfl (by kernel_rfl!) rfl (by kernel_rfl!)) rm.made ro'
    (bnd_dflt (ds := [.val (.ref (hh.objs.size + 1))]) (w := .none) ro'.on rfl (ro'.hle0 _ _ (B.K _ _ rfl)) rfl rfl (by kernel_rfl!) (.cons (.val _) .nil) (.val _)) rfl fun env W s' R' hsc rm' F => ?_
  have hRn : ∀ a, hh.get? a = none → R a = none := fun a ha => by
    cases q : R a with
    | none => rfl
    | some o => have := ro.on a o q; rw [ha] at this; (have q_ := oNS this; clear this; exact q_.elim)
  have hge : ∀ a ∈ [hh.objs.size + 1, hh.objs.size], hh.objs.size ≤ a := fun a ha => by
    rcases List.mem_cons.mp ha with h | h
    · rw [h]; exact Nat.le_succ _
    · rw [List.mem_singleton.mp h]; exact Nat.le_refl _
  have F' := F.lent (V := [hh.objs.size + 1, hh.objs.size]) (fun a ha => by
    cases q : R' a with
    | none => rfl
    | some o =>
      rcases F.sub a o q with h | h
      · rw [hRn a (no a (hge a ha))] at h; (have q_ := oNS h; clear h; exact q_.elim)
      · simp at ha
        rcases ha with rfl | rfl
        · rw [hx] at h; (have q_ := oSN h; clear h; exact q_.elim)
        · rw [hd] at h; (have q_ := oSN h; clear h; exact q_.elim)) (fun a ha => by
      simp at ha
      rcases ha with rfl | rfl
      · exact ⟨_, hx⟩
      · exact ⟨_, hd⟩)
  have hne : hh.objs.size + 1 ≠ hh.objs.size := by omega
  generalize hMu : ((fun a => if a ∈ [hh.objs.size + 1, hh.objs.size] then ((hh.push emptyDict).push (instObj aT hh.objs.size)).get? a else none) : Reg) = M₀ at F'
  change Reg at M₀
  have hx₀ : M₀ (hh.objs.size + 1) = some (insObj aT hh.objs.size #[]) := by rw [← hMu]; simpa using hx
  have hd₀ : M₀ hh.objs.size = some (dictOf [] 0) := by rw [← hMu]; simpa using hd
  refine st_own_new B (k_n2i C) F' rm' (fun _ => ev_name rfl) hx₀ hd₀ rfl (by simp) fun s₁ R₁ D t₀ l₁ hDn hDs F₁ => ?_
  have hD1 : D ≠ hh.objs.size + 1 := fun h => by have := (F'.mu _ _ hx₀).1; rw [← h, hDn] at this; (have q_ := oNS this; clear this; exact q_.elim)
  have hD2 : D ≠ hh.objs.size := fun h => by have := (F'.mu _ _ hd₀).1; rw [← h, hDn] at this; (have q_ := oNS this; clear this; exact q_.elim)
  generalize hM₁ : ((M₀.set D emptyDict).set hh.objs.size (dictOf (putL (Str.ofString "_node2info") (PyData.keyHash C.w.params (Str.ofString "_node2info")) (.str (Str.ofString "_node2info") t₀) (.ref D) []) (putN (Str.ofString "_node2info") [] 0))) = M₁ at F₁
  have hx₁ : M₁ (hh.objs.size + 1) = some (insObj aT hh.objs.size #[]) := by rw [← hM₁, Reg.set_ne _ _ hne, Reg.set_ne _ _ (Ne.symm hD1)]; exact hx₀
  have hE₁ : M₁ D = some emptyDict := by rw [← hM₁, Reg.set_ne _ _ hD2, Reg.set_self]
  have hd₁ : M₁ hh.objs.size = some (dictOf [⟨PyData.keyHash C.w.params (Str.ofString "_node2info"), .str (Str.ofString "_node2info") t₀, .ref D⟩] (putN (Str.ofString "_node2info") [] 0)) := by rw [← hM₁, Reg.set_self]; rfl
  refine st_own B (k_rdy C) F₁ rm' (ev_name rfl) ev_none hx₁ hd₁ rfl (by simp) fun s₂ R₂ v₂ t₁ l₂ hv₂ F₂ => ?_
  (have q_ := Rd.noneE hv₂; clear hv₂; subst q_)
  have hx₂ := (Reg.set_ne M₁ (dictOf (putL (Str.ofString "_ready_nodes") (PyData.keyHash C.w.params (Str.ofString "_ready_nodes")) (.str (Str.ofString "_ready_nodes") t₁) .none [⟨PyData.keyHash C.w.params (Str.ofString "_node2info"), .str (Str.ofString "_node2info") t₀, .ref D⟩]) (putN (Str.ofString "_ready_nodes") [⟨PyData.keyHash C.w.params (Str.ofString "_node2info"), .str (Str.ofString "_node2info") t₀, .ref D⟩] (putN (Str.ofString "_node2info") [] 0))) hne).trans hx₁
  have hE₂ := (Reg.set_ne M₁ (dictOf (putL (Str.ofString "_ready_nodes") (PyData.keyHash C.w.params (Str.ofString "_ready_nodes")) (.str (Str.ofString "_ready_nodes") t₁) .none [⟨PyData.keyHash C.w.params (Str.ofString "_node2info"), .str (Str.ofString "_node2info") t₀, .ref D⟩]) (putN (Str.ofString "_ready_nodes") [⟨PyData.keyHash C.w.params (Str.ofString "_node2info"), .str (Str.ofString "_node2info") t₀, .ref D⟩] (putN (Str.ofString "_node2info") [] 0))) hD2).trans hE₁
  refine st_own B (k_po C) F₂ rm' (ev_name rfl) ev_int hx₂ (Reg.set_self _ _ _) rfl (by show (2 : Nat) < 1000; decide) fun s₃ R₃ v₃ t₂ l₃ hv₃ F₃ => ?_
  (have q_ := Rd.intE hv₃; clear hv₃; obtain ⟨_, rfl⟩ := q_)
  rename_i u₃
  refine st_own B (k_nf C) F₃ rm' (ev_name rfl) ev_int ((Reg.set_ne _ _ hne).trans hx₂) (Reg.set_self _ _ _) rfl (by show (3 : Nat) < 1000; decide) fun s₄ R₄ v₄ t₃ l₄ hv₄ F₄ => ?_
  (have q_ := Rd.intE hv₄; clear hv₄; obtain ⟨_, rfl⟩ := q_)
  rename_i u₄
  refine st_if F₄ rm' (evT_cmp (ev_name rfl) ev_none op_isnot_none) fun s₅ R₅ l₅ F₅ => ?_
  refine st_nil (st_nil ⟨rfl, ?_⟩)
  have hDh : hh.get? D = none := by
    cases q : hh.get? D with
    | none => rfl
    | some o =>
      have := F'.dead hDn
      rw [kp _ _ q] at this; (have q_ := oSN this; clear this; exact q_.elim)
  have hDb : (D == sysModules) = false := by
    refine beq_eq_false_iff_ne.mpr (Nat.ne_of_gt (Nat.lt_of_lt_of_le ?_ hDs))
    exact Nat.lt_of_lt_of_le (modules_low (B.nolimit.keeps F'.ro.hle0)) (Nat.le_refl _)
  refine ⟨⟨hh.objs.size + 1, hh.objs.size, D, 0, fun _ => 0, fun _ => 0, fun _ => 0, fun a => if a = hh.objs.size + 1 then .s else if a = hh.objs.size then .d else if a = D then .D else .no⟩, rfl, ?_, ?_, ?_⟩
  · obtain ⟨h', tk', rfl, e⟩ := F₅.keep
    refine ⟨h', tk', rfl, fun b o q => e b o (fun hb => ?_) (kp b o q)⟩
    rw [no b (hge b hb)] at q; (have q_ := oNS q; clear q; exact q_.elim)
  · refine ⟨?_, ⟨fun i => if i = 0 then PyData.keyHash C.w.params (Str.ofString "_node2info") else if i = 1 then PyData.keyHash C.w.params (Str.ofString "_ready_nodes") else if i = 2 then PyData.keyHash C.w.params (Str.ofString "_npassedout") else PyData.keyHash C.w.params (Str.ofString "_nfinished"),
        fun i => if i = 0 then t₀ else if i = 1 then t₁ else if i = 2 then t₂ else if i = 3 then t₃ else if i = 4 then u₃ else u₄, _, (F₅.mu _ _ (Reg.set_self _ _ _)).1⟩, ⟨emptyDict, ?_, #[], 0, ⟨rfl, rfl, rfl⟩, rfl, fun e he => by simp at he, .nil, List.nodup_nil⟩,
      fun k hk => (nomatch hk), fun k hk => (nomatch hk), fun k hk => (nomatch hk), fun l hl => (nomatch hl), by simp, by simp, by simp [hD1, hD2], fun h => absurd rfl h, fun k hk => (nomatch hk), fun k hk => (nomatch hk), fun k hk => (nomatch hk), List.nodup_nil, hDb, by simp [Sd.start]⟩
    · exact (F₅.mu _ _ ((Reg.set_ne _ _ hne).trans ((Reg.set_ne _ _ hne).trans hx₂))).1
    · exact (F₅.mu D emptyDict ((Reg.set_ne _ _ hD2).trans ((Reg.set_ne _ _ hD2).trans hE₂))).1
  · intro a ha
    rcases Srt.mem_all.mp ha with rfl | rfl | rfl | ⟨h, _⟩ | ⟨k, hk, _⟩
    · exact no _ (by dsimp only; omega)
    · exact no _ (Nat.le_refl _)
    · exact hDh
    · exact absurd rfl h
    · cases hk
end
end Mine
end
noncomputable section
open PySem PySem.W PyProof.Rows
set_option Elab.async false
set_option autoImplicit false
namespace Mine
/-! the sorter's play, plain -/
noncomputable def cnt (E : List (Nat × Nat)) (dn : List Nat) (j : Nat) : Nat := (E.filter fun e => decide (e.2 = j) && decide (e.1 ∉ dn)).length
noncomputable def sucs (E : List (Nat × Nat)) (k : Nat) : List Nat := (E.filter fun e => decide (e.1 = k)).map (·.2)
theorem cnt_step (E : List (Nat × Nat)) {dn : List Nat} {k : Nat} (hk : k ∉ dn) (j : Nat) : cnt E dn j = cnt E (dn ++ [k]) j + (sucs E k).count j := by
  induction E with
  | nil => rfl
  | cons e E ih =>
    unfold cnt sucs at *
    simp only [List.filter_cons]
    by_cases h2 : e.2 = j <;> by_cases h1 : e.1 = k
    · have : e.1 ∉ dn := h1 ▸ hk
      simp at ih
      simp [h2, h1, hk]
      omega
    · by_cases h3 : e.1 ∈ dn
      · simp [h2, h1, h3]; simpa using ih
      · simp [h2, h1, h3]; simp at ih; omega
    · simp [h2, h1]; simpa using ih
    · simp [h2, h1]; simpa using ih
theorem relax_fold : ∀ (js : List Nat) (f : Nat → Int) (l : List Nat), (∀ j ∈ js, ((js.count j : Nat) : Int) ≤ f j) →
    (∀ j, (js.foldl relaxStep (f, l)).1 j = f j - (js.count j : Nat)) ∧ ∃ t : List Nat, (js.foldl relaxStep (f, l)).2 = l ++ t ∧ t.Nodup ∧ ∀ j, j ∈ t ↔ j ∈ js ∧ f j = (js.count j : Nat)
  | [], f, l, _ => ⟨fun j => by simp, [], by simp, by simp, by simp⟩
  | i :: js, f, l, h => by
    have hi := h i (by simp)
    rw [List.count_cons_self] at hi
    let f₁ : Nat → Int := fun k => if k = i then f i - 1 else f k
    have hf₁ : ∀ j ∈ js, ((js.count j : Nat) : Int) ≤ f₁ j := fun j hj => by
      by_cases e : j = i
      · subst e; simp only [f₁, if_true]; omega
      · have := h j (by simp [hj])
        rw [List.count_cons_of_ne (Ne.symm e)] at this
        simp only [f₁, e, if_false]; exact this
    have step : (i :: js).foldl relaxStep (f, l) = js.foldl relaxStep (f₁, if f i - 1 = 0 then l ++ [i] else l) := rfl
    obtain ⟨h1, t, h2, h3, h4⟩ := relax_fold js f₁ (if f i - 1 = 0 then l ++ [i] else l) hf₁
    rw [step]
    refine ⟨fun j => ?_, ?_⟩
    · rw [h1 j]
      by_cases e : j = i
      · subst e; simp only [f₁, if_true]; rw [List.count_cons_self]; omega
      · simp only [f₁, e, if_false]; rw [List.count_cons_of_ne (Ne.symm e)]
    · by_cases hz : f i - 1 = 0
      · have hn : i ∉ js := fun hm => by
          have := List.count_pos_iff.mpr hm
          omega
        refine ⟨i :: t, by rw [h2, if_pos hz]; simp, List.nodup_cons.mpr ⟨fun hm => hn ((h4 i).mp hm).1, h3⟩, fun j => ?_⟩
        by_cases e : j = i
        · subst e
          simp only [List.mem_cons, true_or, true_and, true_iff]
          rw [List.count_cons_self, List.count_eq_zero_of_not_mem hn]; omega
        · simp only [List.mem_cons, e, false_or]
          rw [h4 j, List.count_cons_of_ne (Ne.symm e)]
          simp only [f₁, e, if_false]
      · refine ⟨t, by rw [h2, if_neg hz], h3, fun j => ?_⟩
        rw [h4 j]
        by_cases e : j = i
        · subst e
          simp only [f₁, if_true, List.mem_cons, true_or, true_and]
          rw [List.count_cons_self]
          constructor
          · rintro ⟨_, q⟩; omega
          · intro q
            refine ⟨?_, by omega⟩
            by_cases hm : j ∈ js
            · exact hm
            · rw [List.count_eq_zero_of_not_mem hm] at q; omega
        · simp only [List.mem_cons, e, false_or, f₁, if_false]
          rw [List.count_cons_of_ne (Ne.symm e)]
structure Play (E : List (Nat × Nat)) (σ : Sd) (dn out l : List Nat) : Prop where
  rd : σ.rd = some l
  su : ∀ k ∈ σ.ks, σ.su k = sucs E k
  np : ∀ j ∈ σ.ks, σ.np j = if j ∈ dn then -2 else if j ∈ out then -1 else (cnt E dn j : Int)
  sub : ∀ j ∈ dn ++ out ++ l, j ∈ σ.ks
  nod : (dn ++ out ++ l).Nodup
  lz : ∀ j ∈ σ.ks, (j ∈ l ↔ j ∉ dn ∧ j ∉ out ∧ cnt E dn j = 0)
  oz : ∀ j ∈ dn ++ out, cnt E dn j = 0
  nf : σ.nf = dn.length
  po : σ.po = dn.length + out.length
section
variable {E : List (Nat × Nat)} {σ : Sd} {dn out l : List Nat} {k : Nat}
theorem cnt_zero {j : Nat} : cnt E dn j = 0 ↔ ∀ e ∈ E, e.2 = j → e.1 ∈ dn := by
  unfold cnt
  rw [List.length_eq_zero_iff, List.filter_eq_nil_iff]
  constructor
  · intro h e he h2
    have := h e he
    simpa [h2] using this
  · intro h e he
    have := h e he
    simp only [Bool.and_eq_true, decide_eq_true_eq]
    rintro ⟨h2, h1⟩
    exact h1 (this h2)
theorem sucs_mem {j : Nat} : j ∈ sucs E k ↔ (k, j) ∈ E := by
  unfold sucs
  simp only [List.mem_map, List.mem_filter, decide_eq_true_eq]
  constructor
  · rintro ⟨e, ⟨he, rfl⟩, rfl⟩; exact he
  · intro h; exact ⟨_, ⟨h, rfl⟩, rfl⟩
theorem Play.ready (P : Play E σ dn out l) : Play E { σ with rd := some [], np := fun j => if j ∈ l then -1 else σ.np j, po := σ.po + l.length } dn (out ++ l) [] where
  rd := rfl
  su := P.su
  np := fun j hj => by
    have h := P.np j hj
    have hl := P.lz j hj
    show (if j ∈ l then (-1 : Int) else σ.np j) = _
    by_cases hm : j ∈ l
    · have := hl.mp hm
      simp [hm, this.1]
    · rw [if_neg hm, h]
      simp [hm]
  sub := fun j hj => P.sub j (by simpa [List.append_assoc] using hj)
  nod := by have := P.nod; simpa [List.append_assoc] using this
  lz := fun j hj => by
    have hl := P.lz j hj
    simp only [List.not_mem_nil, false_iff, List.mem_append, not_or]
    rintro ⟨h1, ⟨h2, h3⟩, h4⟩
    exact h3 (hl.mpr ⟨h1, h2, h4⟩)
  oz := fun j hj => by
    rcases List.mem_append.mp hj with h | h
    · exact P.oz j (by simp [h])
    · rcases List.mem_append.mp h with h | h
      · exact P.oz j (by simp [h])
      · exact ((P.lz j (P.sub j (by simp [h]))).mp h).2.2
  nf := P.nf
  po := by show σ.po + _ = _; rw [P.po]; simp; omega
/- what done leaves -/
theorem Play.done (P : Play E σ dn out l) (hk : k ∈ out) (hin : ∀ j ∈ sucs E k, j ∈ σ.ks) : ∃ l', (doneS σ l k).2 = l' ∧ Play E { σ with np := (doneS σ l k).1, rd := some (doneS σ l k).2, nf := σ.nf + 1 } (dn ++ [k]) (out.erase k) l' := by
  have hks : k ∈ σ.ks := P.sub k (by simp [hk])
  have nod := P.nod
  have hdn : k ∉ dn := fun h => by
    have := (List.nodup_append.mp (List.nodup_append.mp nod).1).2.2 k h k hk; exact this rfl
  have hl : k ∉ l := fun h => (((P.lz k hks).mp h).2.1) hk
  have onod : out.Nodup := (List.nodup_append.mp (List.nodup_append.mp nod).1).2.1
  have her : ∀ j, j ∈ out.erase k ↔ j ∈ out ∧ j ≠ k := fun j => by rw [onod.mem_erase_iff]; exact And.comm
  -- the successors are neither done nor out nor ready
  have hs : ∀ j ∈ sucs E k, j ∉ dn ∧ j ∉ out ∧ j ∉ l := fun j hj => by
    have he := sucs_mem.mp hj
    have nz : cnt E dn j ≠ 0 := fun z => hdn (cnt_zero.mp z _ he rfl)
    refine ⟨fun h => nz (P.oz j (by simp [h])), fun h => nz (P.oz j (by simp [h])), fun h => nz ((P.lz j (P.sub j (by simp [h]))).mp h).2.2⟩
  have hsks : ∀ j ∈ sucs E k, j ∈ σ.ks → σ.np j = (cnt E dn j : Int) := fun j hj hjk => by
    have := hs j hj
    rw [P.np j hjk, if_neg this.1, if_neg this.2.1]
  have hkk : k ∉ sucs E k := fun h => (hs k h).2.1 hk
  have hsu : σ.su k = sucs E k := P.su k hks
  have hle : ∀ j, (sucs E k).count j ≤ cnt E dn j := fun j => by have := cnt_step E hdn j; omega
  have hfold := relax_fold (sucs E k) (fun i => if i = k then -2 else σ.np i) l (fun j hj => by
    have hne : j ≠ k := fun e => hkk (e ▸ hj)
    have := hle j
    simp only [hne, if_false]
    rw [hsks j hj (hin j hj)]
    omega)
  obtain ⟨h1, t, h2, h3, h4⟩ := hfold
  have e1 : ∀ j, (doneS σ l k).1 j = (if j = k then -2 else σ.np j) - ((sucs E k).count j : Nat) := fun j => by unfold doneS; rw [hsu]; exact h1 j
  have e2 : (doneS σ l k).2 = l ++ t := by unfold doneS; rw [hsu]; exact h2
  have h4' : ∀ j, j ∈ t ↔ j ∈ sucs E k ∧ cnt E (dn ++ [k]) j = 0 := fun j => by
    rw [h4 j]
    refine and_congr_right fun hj => ?_
    have hne : j ≠ k := fun e => hkk (e ▸ hj)
    have := cnt_step E hdn j
    simp only [hne, if_false]
    rw [hsks j hj (hin j hj)]
    omega
  refine ⟨l ++ t, e2, ?_⟩
  exact
  { rd := by show some (doneS σ l k).2 = _; rw [e2]
    su := P.su
    np := fun j hj => by
      show (doneS σ l k).1 j = _
      rw [e1 j]
      by_cases hjk : j = k
      · subst hjk
        rw [List.count_eq_zero_of_not_mem hkk]; simp
      · have c := cnt_step E hdn j
        simp only [hjk, if_false]
        rw [P.np j hj]
        by_cases hd : j ∈ dn
        · have : (sucs E k).count j = 0 := List.count_eq_zero_of_not_mem fun h => (hs j h).1 hd
          simp [hd, this]
        · by_cases ho : j ∈ out
          · have : (sucs E k).count j = 0 := List.count_eq_zero_of_not_mem fun h => (hs j h).2.1 ho
            have : j ∈ out.erase k := (her j).mpr ⟨ho, hjk⟩
            simp [hd, ho, hjk, *]
          · have : j ∉ out.erase k := fun h => ho ((her j).mp h).1
            simp [hd, ho, hjk, this]
            omega
    sub := fun j hj => by
      simp only [List.mem_append, List.mem_singleton] at hj
      rcases hj with ((hj | hj) | hj) | hj | hj
      · exact P.sub j (by simp [hj])
      · exact hj ▸ hks
      · exact P.sub j (by simp [((her j).mp hj).1])
      · exact P.sub j (by simp [hj])
      · exact hin j ((h4' j).mp hj).1
    nod := by
      have ht : ∀ j ∈ t, j ∉ dn ∧ j ∉ out ∧ j ∉ l := fun j hj => hs j ((h4' j).mp hj).1
      have n1 := List.nodup_append.mp nod
      have n2 := List.nodup_append.mp n1.1
      refine List.nodup_append.mpr ⟨List.nodup_append.mpr ⟨List.nodup_append.mpr ⟨n2.1, by simp, fun a ha b hb e => ?_⟩, onod.erase k, fun a ha b hb e => ?_⟩, List.nodup_append.mpr ⟨n1.2.1, h3, fun a ha b hb e => ?_⟩, fun a ha b hb e => ?_⟩
      · exact hdn (by rw [← List.mem_singleton.mp hb, ← e]; exact ha)
      · have hb' := (her b).mp hb
        rcases List.mem_append.mp ha with ha | ha
        · exact n2.2.2 a ha b hb'.1 e
        · exact hb'.2 (e ▸ List.mem_singleton.mp ha)
      · exact (ht b hb).2.2 (e ▸ ha)
      · have hab : b ∉ dn ∧ b ∉ out.erase k ∧ b ≠ k := by
          rcases List.mem_append.mp hb with hb | hb
          · have hb' := (P.lz b (P.sub b (by simp [hb]))).mp hb
            exact ⟨hb'.1, fun h => hb'.2.1 ((her b).mp h).1, fun q => hl (q ▸ hb)⟩
          · exact ⟨(ht b hb).1, fun h => (ht b hb).2.1 ((her b).mp h).1, fun q => (ht b hb).2.1 (q ▸ hk)⟩
        subst e
        simp only [List.mem_append, List.mem_singleton] at ha
        rcases ha with (ha | ha) | ha
        · exact hab.1 ha
        · exact hab.2.2 ha
        · exact hab.2.1 ha
    lz := fun j hj => by
      have hlz := P.lz j hj
      have c := cnt_step E hdn j
      simp only [List.mem_append, List.mem_singleton, not_or]
      rw [her j]
      constructor
      · rintro (h | h)
        · have := hlz.mp h
          refine ⟨⟨this.1, fun e => hl (e ▸ h)⟩, fun q => this.2.1 q.1, by omega⟩
        · have q := (h4' j).mp h
          have := hs j q.1
          exact ⟨⟨this.1, fun e => this.2.1 (e ▸ hk)⟩, fun q => this.2.1 q.1, q.2⟩
      · rintro ⟨⟨a, b⟩, c', d⟩
        by_cases hm : j ∈ sucs E k
        · exact .inr ((h4' j).mpr ⟨hm, d⟩)
        · refine .inl (hlz.mpr ⟨a, fun q => c' ⟨q, b⟩, ?_⟩)
          rw [List.count_eq_zero_of_not_mem hm] at c
          omega
    oz := fun j hj => by
      have c := cnt_step E hdn j
      have : j ∈ dn ++ out := by
        simp only [List.mem_append, List.mem_singleton] at hj ⊢
        rcases hj with (hj | hj) | hj
        · exact .inl hj
        · exact .inr (hj ▸ hk)
        · exact .inr ((her j).mp hj).1
      have := P.oz j this
      omega
    nf := by show σ.nf + 1 = _; rw [P.nf]; simp
    po := by
      show σ.po = _
      rw [P.po]
      have := List.length_erase_of_mem hk
      have : 0 < out.length := List.length_pos_of_mem hk
      simp; omega }
/- where nothing waits all is done -/
theorem Play.all (P : Play E σ dn [] []) {r : Nat → Nat} (hE : ∀ e ∈ E, e.1 ∈ σ.ks ∧ r e.1 < r e.2) : ∀ (m : Nat) (j : Nat), r j < m → j ∈ σ.ks → j ∈ dn
  | 0, _, h, _ => absurd h (Nat.not_lt_zero _)
  | m + 1, j, h, hj => by
    by_cases hd : j ∈ dn
    · exact hd
    · have := (P.lz j hj).mpr ⟨hd, by simp, cnt_zero.mpr fun e he h2 => by
        have q := hE e he
        exact Play.all P hE m e.1 (by rw [h2] at q; omega) q.1⟩
      simp at this
/- what prepare leaves -/
theorem Play.start {σ : Sd} (hsu : ∀ k ∈ σ.ks, σ.su k = sucs E k) (hnp : ∀ j ∈ σ.ks, σ.np j = (cnt E [] j : Int)) (hn : σ.ks.Nodup) (hnf : σ.nf = 0) (hpo : σ.po = 0) : Play E { σ with rd := some (σ.ks.filter fun k => decide (σ.np k = 0)) } [] [] (σ.ks.filter fun k => decide (σ.np k = 0)) where
  rd := rfl
  su := hsu
  np := fun j hj => by simp; exact hnp j hj
  sub := fun j hj => by simp at hj; exact hj.1
  nod := by simp; exact hn.filter _
  lz := fun j hj => by
    simp [hj]
    rw [hnp j hj]; omega
  oz := fun j hj => by simp at hj
  nf := by simpa using hnf
  po := by simpa using hpo
/- an arrow is told -/
theorem cnt_add {a b j : Nat} : cnt (E ++ [(a, b)]) [] j = if j = b then cnt E [] j + 1 else cnt E [] j := by
  unfold cnt
  rw [List.filter_append, List.length_append]
  by_cases h : j = b
  · simp [h]
  · have : ¬ b = j := fun e => h e.symm
    simp [h, this]
theorem sucs_add {a b k : Nat} : sucs (E ++ [(a, b)]) k = if k = a then sucs E k ++ [b] else sucs E k := by
  unfold sucs
  rw [List.filter_append, List.map_append]
  by_cases h : k = a
  · simp [h]
  · have : ¬ a = k := fun e => h e.symm
    simp [h, this]
end
end Mine
end
noncomputable section
open PySem PySem.W PyProof.Rows PySem.SeqAt PySem.MeetsSeq
set_option Elab.async false
set_option autoImplicit false
namespace Mine
/-! calls upon plain data that mark the live frames -/
noncomputable def MCall (C : Cx) (n : Nat) (f : Addr) (ds : List Dat) (d : Dat) : Prop :=
  ∀ A Out s R vs, Room n A → A.frames = some Out → Live Out s.heap.get? → Rok (C.at noM) R s.heap → RdAll R vs ds → (∀ a ∈ frs Out, R a = none) →
    wpAny C.M A (call (.ref f) vs) (fun v s' => KeepsBut (frs Out) s s' ∧ UpTo (frs Out) s.heap.get? s'.heap.get? ∧ Rd (R.ext s.heap s'.heap) v d) NoE s
section
variable {C : Cx} {s₀ : Shared} {R₀ : Reg} {V : List Addr} {sc : Scope} {env : Env} {W : List Addr} {s s' : Shared} {R R' Mu Mu' : Reg} {Δ Δ' : Vars} {n : Nat} {A : Around} {E : Value → Shared → Prop} {Q : Flow → Shared → Prop}
theorem MCall.le {k : Nat} {f : Addr} {ds : List Dat} {d : Dat} (h : MCall C k f ds d) (hk : k ≤ n) : MCall C n f ds d := fun A Out s R vs rm => h A Out s R vs (rm.le hk)
theorem mcall_fn {a : Addr} {fd : FuncData} {xs : List Str} {body : List Stmt} {ds es : List Dat} {d : Dat} (f : FnC C a fd xs body) (hl : xs.length = es.length)
    (hb : ∀ R s vs, Rok (C.at noM) R s.heap → RdAll R vs ds → Bnd C fd vs xs es R s)
    (h : ∀ A Out env W s₀ s R R₁ Mu, env.scope = fd.scope → env.frame = some env.locals → A.frames = some (env :: Out) → Live Out Mu → Room n A → Fra C s₀ R (frs Out) fd.scope env W s R₁ Mu (updAll noV xs es) →
      wpAny C.M A (execs body env) (fun fl s₂ => ∃ R₂ Mu₂ Δ₂ v, fl = .ret v ∧ Fra C s₀ R (frs Out) fd.scope env W s₂ R₂ Mu₂ Δ₂ ∧ UpTo (frs Out) Mu Mu₂ ∧ Rd R₂ v d) NoE s) :
    MCall C (n + 1) a ds d := by
  intro A Out s R vs rm hfr Lv ro hr hO
  refine wpAny_call (fn_callF f rm ro (hb R s vs ro hr) hl fun env W s' R' e ef rm' F => ?_)
  have hVo : ∀ a ∈ frs Out, ∃ o, s.heap.get? a = some o := fun a ha => by
    obtain ⟨o, e, _⟩ := Lv.obj ha; exact ⟨o, e⟩
  have F' : Fra C s R (frs Out) fd.scope env W s' R' (fun a => if a ∈ frs Out then s.heap.get? a else none) (updAll noV xs es) := F.lent (fun a ha => by
    cases q : R' a with
    | none => rfl
    | some o =>
      rcases F.sub a o q with h | h
      · rw [hO a ha] at h; (have q_ := oNS h; clear h; exact q_.elim)
      · obtain ⟨o', e'⟩ := hVo a ha; rw [e'] at h; (have q_ := oSN h; clear h; exact q_.elim)) hVo
  have U0 : UpTo (frs Out) s.heap.get? (fun a => if a ∈ frs Out then s.heap.get? a else none) := .of fun a ha o e => by simp only [ha, if_true]; exact e
  refine noE (h _ Out env W s s' R R' _ e ef (Around.frames_deeper hfr) (Lv.up U0) rm' F') fun fl s₂ p => ?_
  obtain ⟨R₂, Mu₂, Δ₂, v, rfl, F₂, U, hv⟩ := p
  refine ⟨F₂.keep, fun a ha o e => ?_, hv.mono fun b ob e => ?_⟩
  · obtain ⟨sl, q⟩ := (U0.trans U) a ha o e
    exact ⟨sl, (F₂.mu _ _ q).1⟩
  · have on := F₂.ro.on b ob e
    rcases F₂.sub b ob e with q | q
    · simp only [Reg.ext, ro.on b ob q]; exact q
    · simp only [Reg.ext, q]; exact on
theorem Fra.mcall {Out : List Env} {f : Addr} {ds : List Dat} {d : Dat} {vs : List Value} {Qv : Value → Shared → Prop} (F : Fra C s₀ R₀ V sc env W s R Mu Δ) (rm : Room n A) (hfr : A.frames = some (env :: Out)) (hf : env.frame = some env.locals) (Lv : Live Out Mu) (hvs : RdAll R vs ds) (hc : MCall C n f ds d)
    (h : ∀ v s' R' Mu', R.le R' → Rd R' v d → Fra C s₀ R₀ V sc env W s' R' Mu' Δ → Reg.keepsOff (frs Out) Mu Mu' → UpTo (frs Out) Mu Mu' → Qv v s') :
    wpAny C.M A (call (.ref f) vs) Qv E s := by
  refine noE (hc A (env :: Out) s R vs rm hfr (F.live hf Lv) F.ro hvs fun a ha => ?_) fun v s' q => ?_
  · rw [frs_cons hf] at ha
    rcases List.mem_cons.mp ha with rfl | ha
    · exact F.ew.offR _ F.ew.locW
    · obtain ⟨o, e, _⟩ := Lv.obj ha
      exact (F.mu _ _ e).2.1
  obtain ⟨pk, pf, hv⟩ := q
  rw [frs_cons hf] at pk pf
  refine h v s' _ (fun a => if a ∈ frs Out then s'.heap.get? a else Mu a) (Reg.ext_le F.ro.on) hv ?_ (fun a o ha e => by simp only [ha, if_false]; exact e) fun a ha o e => ?_
  · refine F.deep (X := frs Out) pk (fun a ha o e => pf a (List.mem_cons.mpr (.inl (List.mem_singleton.mp ha))) o e) (fun a ha => Lv.obj ha) (fun a ha => ?_) (Reg.ext_le F.ro.on) (Reg.le.refl _) fun a o e => ?_
    · obtain ⟨o, e, _⟩ := Lv.obj ha
      obtain ⟨sl, e'⟩ := pf a (List.mem_cons_of_mem _ ha) o (F.mu _ _ e).1
      exact ⟨_, e'⟩
    · by_cases ha : a ∈ frs Out
      · simp only [ha, if_true] at e
        obtain ⟨o', e', _⟩ := Lv.obj ha
        exact ⟨e, ext_off (F.mu _ _ e').1 (F.mu _ _ e').2.1, .inl ⟨o', e'⟩⟩
      · simp only [ha, if_false] at e
        obtain ⟨h1, h2, h3, h4⟩ := F.mu a o e
        refine ⟨pk.get (fun h => ?_) h1, ext_off h1 h2, .inl ⟨o, e⟩⟩
        rcases List.mem_cons.mp h with h | h
        · exact h3 (h ▸ F.ew.locW)
        · exact ha h
  · obtain ⟨sl, e'⟩ := pf a (List.mem_cons_of_mem _ ha) o (F.mu _ _ e).1
    exact ⟨sl, by simp only [ha, if_true]; exact e'⟩
/- f(..), a function of the module: what the call does is told by the caller -/
theorem Fra.callBy {fe e : Expr} {es : List Expr} {p : Pos} {f : Addr} {o : Obj} {fd : FuncData} {ds : List Dat} {Qv : Value → Shared → Prop} (F : Fra C s₀ R₀ V sc env W s R Mu Δ) (rm : Room n A) (hf : Ev (C.at Mu) n sc Δ fe (.val (.ref f))) (hfo : R f = some o) (hdat : o.data = .func fd)
    (ha : EvAll (C.at Mu) n sc Δ (e :: es) ds)
    (h : ∀ vs s' R', R.le R' → RdAll R' vs ds → Fra C s₀ R₀ V sc env W s' R' Mu Δ → wpAny C.M A (call (.ref f) vs) Qv E s')
    (he : starEach (e :: es) env = (false, eval e env) :: starEach es env := by rfl)
    (hev : ∀ {M : Model} {E : Value → Shared → Prop} {Q : Value → Shared → Prop} {s : Shared}, wpAny M A (eval fe env) (fun v s' => wpAny M A (callWith p v [] (backTo p (starEach (e :: es) env)) []) Q E s') E s → wpAny M A (eval (.Call fe (e :: es) [] p) env) Q E s := by intro _ _ _ _ h; exact Call_ h) :
    wpAny C.M A (eval (.Call fe (e :: es) [] p) env) Qv E s := by
  refine hev (F.ev rm hf fun fv s₁ R₁' l₁ k₁ hfv F₁ => ?_)
  (have q_ := Rd.valE hfv; clear hfv; subst q_)
  refine callWith_def hdat (F₁.evAll rm ha fun vs s₂ R₂ l₂ k₂ hvs F₂ => ?_) he
  exact ⟨F₂.ro.on _ _ (l₂ _ _ (l₁ _ _ hfo)), h vs s₂ R₂ (l₁.trans l₂) hvs F₂⟩
theorem keepsOff_le {T : List Addr} {M M' : Reg} (h : ∀ a o, M a = some o → M' a = some o) : Reg.keepsOff T M M' := fun a o _ e => h a o e
/- a for loop whose set of mutable objects grows -/
theorem st_forX {α : Type} {L : List α} {enc : α → Dat} {tds : α → List Dat} {target iter : Expr} {body rest : List Stmt} {p : Pos} (xs : List Str) (T : List Addr) (Δs : Nat → Vars) (J : Nat → Reg → Reg → List Addr → Prop)
    (F : Fra C s₀ R₀ V sc env W s R Mu Δ) (rm : Room n A) (hit : EvIt (C.at (Mu.minus T)) n sc Δ iter (L.map enc)) (hΔ : ∀ x d, Δs 0 x = some d → Δ x = some d) (hT0 : ∀ a ∈ T, ∃ o, Mu a = some o)
    (hxs : ∀ x ∈ xs, sc.names.lookup x = some .local ∨ sc.names.lookup x = some .cell) (hT : ∀ a ∈ L, Tgt target (enc a) xs (tds a))
    (Jm : ∀ i R R' Mu Mu' X, J i R Mu X → R.le R' → (∀ a ∈ X, Mu' a = Mu a) → J i R' Mu' X) (h0 : J 0 R Mu T)
    (turn : ∀ i a s' R' Mu' X, L[i]? = some a → R.le R' → Reg.keepsOff T Mu Mu' → (∀ a ∈ X, a ∈ T ∨ Mu a = none) → Fra C s₀ R₀ V sc env W s' R' Mu' (updAll (Δs i) xs (tds a)) → J i R' Mu' X →
      wpAny C.M A (execs body env) (fun f s₂ => match f with
        | .next | .cont => ∃ R₂ Mu₂ X₂, R'.le R₂ ∧ Reg.keepsOff X Mu' Mu₂ ∧ (∀ a ∈ X₂, a ∈ X ∨ s'.heap.get? a = none) ∧ Fra C s₀ R₀ V sc env W s₂ R₂ Mu₂ (Δs (i + 1)) ∧ J (i + 1) R₂ Mu₂ X₂
        | .brk => wpAny C.M A (execs rest env) Q E s₂
        | .ret v => Q (.ret v) s₂) NoE s')
    (done : ∀ s' R' Mu' X, R.le R' → Reg.keepsOff T Mu Mu' → (∀ a ∈ X, a ∈ T ∨ Mu a = none) → Fra C s₀ R₀ V sc env W s' R' Mu' (Δs L.length) → J L.length R' Mu' X → wpAny C.M A (execs rest env) Q E s')
    (hs : ∀ x, foldedSetIterable iter env x = pure x := by intro _; rfl) :
    wpAny C.M A (execs (.For target iter body [] p :: rest) env) Q E s := by
  refine wpAny_execs_cons (wpAny_For (noE (hit A env s R rm ⟨F.ro.base, F.ro.on, fun a o e => (F.mu a o (Reg.minus_le a o e)).1⟩ F.eo) fun x s₁ h₁ => noE h₁ fun it s₂ h₂ => ?_) hs)
  exact for_loop (tds := tds) xs T Δs J F rm h₂ hΔ hT0 hxs hT Jm h0 turn done
end
end Mine
end
noncomputable section
open PySem PySem.W PyProof.Rows PySem.SeqAt PySem.MeetsSeq
set_option Elab.async false
set_option autoImplicit false
namespace Mine
theorem CallR.base {C : Cx} {n : Nat} {f : Value} {ds : List Dat} {d : Dat} (h : CallR C n C.h₀.get? f ds d) : CallOp C n f ds d := fun A s R vs rm ro hr => h A s R vs rm ro ro.base hr
theorem CallR.le {C : Cx} {n k : Nat} {R₁ : Reg} {f : Value} {ds : List Dat} {d : Dat} (h : CallR C k R₁ f ds d) (hk : k ≤ n) : CallR C n R₁ f ds d := fun A s R vs rm => h A s R vs (rm.le hk)
theorem FCall.le {C : Cx} {cT cN : Addr} {n k : Nat} {f : Addr} {ds : List Dat} {Z : Srt} {σ : Sd} {P : Srt → Sd → Dat → Prop} (h : FCall C cT cN k f ds Z σ P) (hk : k ≤ n) : FCall C cT cN n f ds Z σ P := fun A Out s R vs rm => h A Out s R vs (rm.le hk)
section
variable {C : Cx} {s₀ : Shared} {R₀ : Reg} {V : List Addr} {sc : Scope} {env : Env} {W : List Addr} {s s' : Shared} {R R' Mu Mu' : Reg} {Δ Δ' : Vars} {n : Nat} {A : Around} {E : Value → Shared → Prop} {Q : Flow → Shared → Prop}
/- the name of a mutable list: its items are forgotten -/
theorem Fra.unbox {x : Str} {a : Addr} {vs : List Value} {ds : List Dat} (F : Fra C s₀ R₀ V sc env W s R Mu Δ) (hx : Δ x = some (.box a vs ds)) : Fra C s₀ R₀ V sc env W s R Mu (upd Δ x (.val (.ref a))) :=
  { F with
    ew := { F.ew with
      ok := { F.ew.ok with
        vars := fun y d e => by
          unfold upd at e
          split at e
          · rename_i h
            (have q_ := oSS e; clear e; subst q_); subst h
            obtain ⟨v, hv, hr⟩ := F.ew.ok.vars y _ hx
            cases hr
            exact ⟨_, hv, .val _⟩
          · exact F.ew.ok.vars y d e } } }
/- a name gets a mutable list by a comprehension -/
theorem st_lcA {α : Type} {L : List α} {enc : α → Dat} {tds : α → List Dat} {p : α → Bool} {f : α → Dat} {elt target iter : Expr} {ifs : List Expr} {pos : Pos} {scope : Scope} {x : Str} {px q : Pos} {rest : List Stmt} (xs : List Str)
    (F : Fra C s₀ R₀ V sc env W s R Mu Δ) (rm : Room n A) (hit : EvIt (C.at Mu) n sc Δ iter (L.map enc)) (hc : compOkB sc scope Δ xs = true)
    (hT : ∀ a ∈ L, Tgt target (enc a) xs (tds a)) (ht : ∀ a ∈ L, EvTs (C.at Mu) n (relab scope sc) (updAll (inner scope Δ) xs (tds a)) ifs (p a)) (he : ∀ a ∈ L, p a = true → Ev (C.at Mu) n (relab scope sc) (updAll (inner scope Δ) xs (tds a)) elt (f a)) (hlen : L.length ≤ sizeLine)
    (k : ∀ s' R' D ys m, R.le R' → s.heap.get? D = none → RdAll R' ys ((L.filter p).map f) → Fra C s₀ R₀ V sc env W s' R' (Mu.set D (lstObj ys m)) (upd Δ x (.val (.ref D))) → wpAny C.M A (execs rest env) Q E s')
    (hx : sc.names.lookup x = some .local ∨ sc.names.lookup x = some .cell := by first | exact Or.inl rfl | exact Or.inr rfl)
    (hs : ∀ env x, foldedSetIterable iter env x = pure x := by intro _ _; rfl) :
    wpAny C.M A (execs (.Assign [.Name x px] (.ListComp elt [⟨target, iter, ifs, 0⟩] scope pos) q :: rest) env) Q E s := by
  have sw := swaps_eq (elt := elt) (gens := [⟨target, iter, ifs, 0⟩]) (scope := scope) (p := pos) (px := px) (x := x) (line := q.line) F.eo.hsc F.eo.fn
  cases hb : swapB sc scope x px pos with
  | true => exact st_lcM xs F rm hit hc hT ht he hlen k hb hx (hs env)
  | false =>
    rw [hb] at sw
    refine wpAny_execs_cons (wpAny_Assign_Name (F.lcM xs rm hit hc hT ht he hlen (fun s' R' D ys m l hD hy F' => ?_) hs) sw)
    exact F'.store (.val _) (fun s'' _ F'' => k s'' R' D ys m l hD hy F'') hx
end
end Mine
end
noncomputable section
open PySem PySem.W PyProof.Rows PySem.SeqAt PySem.MeetsSeq
set_option Elab.async false
set_option autoImplicit false
set_option maxRecDepth 100000
namespace Mine
/- a sorter that was told all of ks and the arrows E -/
noncomputable def Sd.told (ks : List Nat) (E : List (Nat × Nat)) : Sd := ⟨ks, fun j => (cnt E [] j : Int), fun k => sucs E k, none, 0, 0⟩
theorem Sd.start_told : Sd.start = Sd.told [] [] := rfl
theorem Sd.told_grow (ks : List Nat) (k : Nat) : (Sd.told ks []).grow k = Sd.told (ks ++ [k]) [] := by
  unfold Sd.told Sd.grow
  congr 1
  · funext j; by_cases h : j = k <;> simp [h, cnt]
  · funext j; by_cases h : j = k <;> simp [h, sucs]
theorem Sd.told_add (ks : List Nat) (E : List (Nat × Nat)) (a b : Nat) : ({ Sd.told ks E with np := fun j => if j = b then (Sd.told ks E).np b + 1 else (Sd.told ks E).np j, su := fun j => if j = a then (Sd.told ks E).su a ++ [b] else (Sd.told ks E).su j } : Sd) = Sd.told ks (E ++ [(a, b)]) := by
  unfold Sd.told
  simp only [Sd.mk.injEq, true_and, and_true]
  constructor
  · funext j
    rw [cnt_add]
    by_cases h : j = b
    · subst h; simp
    · simp [h]
  · funext j
    rw [sucs_add]
    by_cases h : j = a
    · subst h; simp
    · simp [h]
theorem upd_same {Δ : Vars} {x : Str} {d : Dat} : upd Δ x d x = some d := by simp [upd]
theorem upd_ne {Δ : Vars} {x y : Str} {d : Dat} (h : y ≠ x) : upd Δ x d y = Δ y := by simp [upd, h]
section
variable {C : Cx} (B : Base C (K1 C)) {s₀ : Shared} {R₀ : Reg} {V : List Addr} {sc : Scope} {env : Env} {W : List Addr} {s s' : Shared} {R R' Mu Mu' : Reg} {Δ Δ' : Vars} {n : Nat} {A : Around} {E : Value → Shared → Prop} {Q : Flow → Shared → Prop}
include B
/- x = TopologicalSorter() -/
theorem st_sorter {x : Str} {xp fp cp q : Pos} {rest : List Stmt} (F : Fra C s₀ R₀ V sc env W s R Mu Δ) (rm : Room n A) (hn : 2 ≤ n) (hk0 : sc.names.lookup (Str.ofString "TopologicalSorter") = some .globalImplicit)
    (k : ∀ s' R' Mu' Z, R.le R' → (∀ a o, Mu a = some o → Mu' a = some o) → SAt C aT aN Mu' Z Sd.start → (∀ a ∈ Z.all Sd.start, s.heap.get? a = none) → Fra C s₀ R₀ V sc env W s' R' Mu' (upd Δ x (.val (.ref Z.s))) → wpAny C.M A (execs rest env) Q E s')
    (hs : swapsWith (.Call (.Name (Str.ofString "TopologicalSorter") fp) [] [] cp) (some (.Name x xp)) q.line env = pure false := by rfl)
    (hx : sc.names.lookup x = some .local ∨ sc.names.lookup x = some .cell := by first | exact Or.inl rfl | exact Or.inr rfl) :
    wpAny C.M A (execs (.Assign [.Name x xp] (.Call (.Name (Str.ofString "TopologicalSorter") fp) [] [] cp) q :: rest) env) Q E s := by
  refine wpAny_execs_cons (wpAny_Assign_Name (Call_ (F.ev rm (ev_glob (g_sorter B.at) hk0) fun f s₁ R₁ l₁ k₁ hf F₁ => ?_)) hs)
  (have q_ := Rd.valE hf; clear hf; subst q_)
  refine callWith_K0 (K := K1 C) (B.ins F₁.ro.hle0) (by kernel_rfl!) ?_
  refine noE (make_sorter B A s₁ _ (rm.le hn) F₁.ro) fun w s₂ h₂ => ?_
  obtain ⟨Z, rfl, k₂, S, hnew⟩ := h₂
  have F₂ := F₁.begin (X := Z.all Sd.start) k₂ hnew
  have off : ∀ {a o}, Mu a = some o → a ∉ Z.all Sd.start := fun {a o} e h => by
    have := (F₁.mu a o e).1; rw [hnew a h] at this; (have q_ := oNS this; clear this; exact q_.elim)
  have le₂ : R₁.le ((R₁.ext s₁.heap s₂.heap).minus (Z.all Sd.start)) := fun a o e => Reg.minus_some (fun h => by
    have := F₁.ro.on a o e; rw [hnew a h] at this; (have q_ := oNS this; clear this; exact q_.elim)) (Reg.ext_le F₁.ro.on a o e)
  refine F₂.store (.val _) (fun s₃ _ F₃ => k s₃ _ _ Z (l₁.trans le₂) (fun a o e => by simp only [off e, if_false]; exact e) (S.on fun a o ha e => by simp only [ha, if_true]; exact e) (fun a ha => ?_) F₃) hx
  cases z : s.heap.get? a with
  | none => rfl
  | some o => have := Keeps.hle k₁ _ _ z; rw [hnew a ha] at this; (have q_ := oNS this; clear this; exact q_.elim)
/- for x in ..: so.add(x) -/
theorem st_addall {x so : Str} {xp xq sp ap cp ep p : Pos} {iter : Expr} {rest : List Stmt} {Z₀ : Srt} (L : List Nat) (hL : L.Nodup) (h7 : L.length ≤ 7) (Δ' : Vars)
    (F : Fra C s₀ R₀ V sc env W s R Mu Δ) (rm : Room n A) (hn : 4 ≤ n) (S : SAt C aT aN Mu Z₀ Sd.start) (hit : EvIt (C.at (Mu.minus (Z₀.all Sd.start))) n sc Δ iter (L.map fun (k : Nat) => Dat.int (k : Int)))
    (hΔ : ∀ y d, Δ' y = some d → Δ y = some d) (hso : Δ' so = some (.val (.ref Z₀.s))) (hx0 : Δ' x = none)
    (k : ∀ s' R' Mu' Z, R.le R' → SAt C aT aN Mu' Z (Sd.told L []) → Z.s = Z₀.s → (∀ a ∈ Z.all (Sd.told L []), a ∈ Z₀.all Sd.start ∨ Mu a = none) → Reg.keepsOff (Z₀.all Sd.start) Mu Mu' → Fra C s₀ R₀ V sc env W s' R' Mu' Δ' → wpAny C.M A (execs rest env) Q E s')
    (hx : sc.names.lookup x = some .local ∨ sc.names.lookup x = some .cell)
    (hxn : ((x == ("__debug__" : Str)) || (x == ("__classdict__" : Str))) = false := by decide +kernel) (hsn : ((so == ("__debug__" : Str)) || (so == ("__classdict__" : Str))) = false := by decide +kernel)
    {pl : Sem Bool} (hev : eval (.Call (.Attribute (.Name so sp) (Str.ofString "add") ap) [.Name x xq] [] cp) env = (do
      let ov ← eval (.Name so sp) env
      standAt ap.atName
      let (f, first) ← holding [ov] (getMethod ov (Str.ofString "add") pl)
      callWith cp f first (backTo cp (starEach [.Name x xq] env)) (backToKw cp (keywordEach [] env))) := by rfl)
    (hs : ∀ x, foldedSetIterable iter env x = pure x := by intro _; rfl) :
    wpAny C.M A (execs (.For (.Name x xp) iter [.Expr (.Call (.Attribute (.Name so sp) (Str.ofString "add") ap) [.Name x xq] [] cp) ep] [] p :: rest) env) Q E s := by
  have hne : so ≠ x := fun h => by rw [h, hx0] at hso; (have q_ := oNS hso; clear hso; exact q_.elim)
  refine st_forX (L := L) (enc := fun (k : Nat) => Dat.int (k : Int)) (tds := fun (k : Nat) => [.int (k : Int)]) [x] (Z₀.all Sd.start) (fun _ => Δ')
    (fun i _ M X => ∃ Z : Srt, Z.s = Z₀.s ∧ X = Z.all (Sd.told (L.take i) []) ∧ SAt C aT aN M Z (Sd.told (L.take i) [])) F rm hit hΔ (fun a ha => let ⟨o, e, _⟩ := S.obj ha; ⟨o, e⟩) (fun y hy => List.mem_singleton.mp hy ▸ hx) (fun a _ => ⟨rfl, rfl⟩)
    ?_ ⟨Z₀, rfl, rfl, S⟩ ?_ ?_ hs
  · rintro i R R' M M' X ⟨Z, h1, rfl, S⟩ _ he
    exact ⟨Z, h1, rfl, S.on fun a o ha e => (he a ha).trans e⟩
  · rintro i a s₁ R₁ M₁ X hi l₁ hk hX F₁ ⟨Z, h1, rfl, S₁⟩
    have hlt : i < L.length := (List.getElem?_eq_some_iff.mp hi).1
    have htk : L.take (i + 1) = L.take i ++ [a] := by rw [List.take_add_one, hi]; rfl
    have hna : a ∉ (Sd.told (L.take i) []).ks := by
      show a ∉ L.take i
      intro h
      have hh := hL.sublist (List.take_sublist (i + 1) L)
      rw [htk, List.nodup_append] at hh
      exact hh.2.2 a h a (by simp) rfl
    obtain ⟨h, t, m, hd⟩ := S₁.d
    have hF : Fra C s₀ R₀ V sc env W s₁ R₁ M₁ (upd Δ' x (.int (a : Int))) := F₁
    refine st_expr (hF.smeth rm B (k_add C) S₁ hd look_add (ev_name (by rw [upd_ne hne, hso, h1]) hsn) (evAll_cons (ev_name upd_same hxn) evAll_nil) ((add_new B hna (by show (L.take i).length < 7; rw [List.length_take]; omega) rfl).le hn) (fun v s₂ R₂ M₂ Z₂ σ₂ d hP hz l₂ hv F₂ S₂ hnew hold hoff => ?_) (hm := hev)) F.quiet
    obtain ⟨x₁, e₁, l₁', rfl, rfl, rfl⟩ := hP
    rw [Sd.told_grow, ← htk] at S₂ hnew hold
    refine st_nil ⟨R₂, M₂, _, l₂, hoff, hnew, F₂.weak fun y d e => ?_, _, hz.trans h1, rfl, S₂⟩
    by_cases hy : y = x
    · subst hy; rw [hx0] at e; (have q_ := oNS e; clear e; exact q_.elim)
    · rw [upd_ne hy]; exact e
  · rintro s₁ R₁ M₁ X l₁ hk hX F₁ ⟨Z, h1, rfl, S₁⟩
    rw [List.take_length] at S₁ hX
    exact k s₁ R₁ M₁ Z l₁ S₁ h1 hX hk F₁
/- for .. in steps: so.add(b, a) -/
theorem st_tell {α : Type} {a b so : Str} {aq bq sp ap cp ep p : Pos} {target iter : Expr} {rest : List Stmt} {Z : Srt} {ks : List Nat} (L : List α) (enc : α → Dat) (tds : α → List Dat) (xs : List Str) (fa fb : α → Nat) (Δ' : Vars)
    (F : Fra C s₀ R₀ V sc env W s R Mu Δ) (rm : Room n A) (hn : 3 ≤ n) (S : SAt C aT aN Mu Z (Sd.told ks [])) (hit : EvIt (C.at (Mu.minus (Z.all (Sd.told ks [])))) n sc Δ iter (L.map enc)) (hT : ∀ e ∈ L, Tgt target (enc e) xs (tds e)) (hxs : ∀ x ∈ xs, sc.names.lookup x = some .local ∨ sc.names.lookup x = some .cell)
    (hin : ∀ e ∈ L, fa e ∈ ks ∧ fb e ∈ ks) (hz : L.length ≤ 1000)
    (hΔ : ∀ y d, Δ' y = some d → Δ y = some d) (hso : ∀ e ∈ L, updAll Δ' xs (tds e) so = some (.val (.ref Z.s)) ∧ updAll Δ' xs (tds e) a = some (.int (fa e : Int)) ∧ updAll Δ' xs (tds e) b = some (.int (fb e : Int)) ∧ ∀ y d, Δ' y = some d → updAll Δ' xs (tds e) y = some d)
    (k : ∀ s' R' Mu', R.le R' → SAt C aT aN Mu' Z (Sd.told ks (L.map fun e => (fa e, fb e))) → Reg.keepsOff (Z.all (Sd.told ks [])) Mu Mu' → Fra C s₀ R₀ V sc env W s' R' Mu' Δ' → wpAny C.M A (execs rest env) Q E s')
    (han : ((a == ("__debug__" : Str)) || (a == ("__classdict__" : Str))) = false := by decide +kernel) (hbn : ((b == ("__debug__" : Str)) || (b == ("__classdict__" : Str))) = false := by decide +kernel) (hsn : ((so == ("__debug__" : Str)) || (so == ("__classdict__" : Str))) = false := by decide +kernel)
    {pl : Sem Bool} (hev : eval (.Call (.Attribute (.Name so sp) (Str.ofString "add") ap) [.Name b bq, .Name a aq] [] cp) env = (do
      let ov ← eval (.Name so sp) env
      standAt ap.atName
      let (f, first) ← holding [ov] (getMethod ov (Str.ofString "add") pl)
      callWith cp f first (backTo cp (starEach [.Name b bq, .Name a aq] env)) (backToKw cp (keywordEach [] env))) := by rfl)
    (hs : ∀ x, foldedSetIterable iter env x = pure x := by intro _; rfl) :
    wpAny C.M A (execs (.For target iter [.Expr (.Call (.Attribute (.Name so sp) (Str.ofString "add") ap) [.Name b bq, .Name a aq] [] cp) ep] [] p :: rest) env) Q E s := by
  refine st_for (L := L) (enc := enc) (tds := tds) xs (Z.all (Sd.told ks [])) (fun _ => Δ')
    (fun i _ M => SAt C aT aN M Z (Sd.told ks ((L.take i).map fun e => (fa e, fb e)))) F rm hit hΔ (fun a ha => let ⟨o, e, _⟩ := S.obj ha; ⟨o, e⟩) hxs hT
    (fun i R R' M M' hJ _ he => hJ.on fun c o hc e => (he c hc).trans e) S ?_ ?_ hs
  · intro i e s₁ R₁ M₁ hi l₁ hk F₁ S₁
    have hm : e ∈ L := List.mem_of_getElem? hi
    have htk : L.take (i + 1) = L.take i ++ [e] := by rw [List.take_add_one, hi]; rfl
    obtain ⟨h, t, m, hd⟩ := S₁.d
    obtain ⟨v1, v2, v3, v4⟩ := hso e hm
    refine st_expr (F₁.smeth rm B (k_add C) S₁ hd look_add (ev_name v1 hsn) (evAll_cons (ev_name v3 hbn) (evAll_cons (ev_name v2 han) evAll_nil)) ((add_old B (a := fa e) (b := fb e) (hin e hm).1 (hin e hm).2 rfl ?_).le hn) (fun v s₂ R₂ M₂ Z₂ σ₂ d hP hz l₂ hv F₂ S₂ hnew hold hoff => ?_) (hm := hev)) F.quiet
    · show (sucs _ _).length ≤ 1000
      unfold sucs
      rw [List.length_map]
      refine Nat.le_trans (List.length_filter_le _ _) ?_
      rw [List.length_map, List.length_take]; omega
    obtain ⟨rfl, rfl, rfl⟩ := hP
    rw [Sd.told_add, show ((L.take i).map fun e => (fa e, fb e)) ++ [(fa e, fb e)] = (L.take (i + 1)).map fun e => (fa e, fb e) from by rw [htk, List.map_append]; rfl] at S₂
    exact st_nil ⟨R₂, M₂, l₂, hoff, F₂.weak v4, S₂⟩
  · intro s₁ R₁ M₁ l₁ hk F₁ S₁
    rw [List.take_length] at S₁
    exact k s₁ R₁ M₁ l₁ S₁ hk F₁
end
end Mine
end
noncomputable section
open PySem PySem.W PyProof.Rows PySem.SeqAt PySem.MeetsSeq
set_option Elab.async false
set_option autoImplicit false
set_option maxRecDepth 100000
namespace Mine
noncomputable def laidN (row r : List Int) (w : Int) : List Int := (List.range row.length).map fun k => row.getD k 0 + w * r.getD k 0
theorem laidN_len (row r : List Int) (w : Int) : (laidN row r w).length = row.length := by simp [laidN]
section
variable {C : Cx} (B : Base C (K1 C))
include B
theorem g_laid : GlobIs C (Str.ofString "_law_laid") (.ref 155) := glob_own B (by kernel_rfl!)
theorem g_rows : GlobIs C (Str.ofString "_law_rows") (.ref 160) := glob_own B (by kernel_rfl!)
theorem laid_spec {row r : List Int} {w : Int} (hl : r.length = row.length) (h3 : row.length ≤ 3) (hr : ∀ x ∈ r, Bits (2 ^ 23) x) (hw : Bits (2 ^ 21) w) :
    CallOp C 1 (.ref 155) [encI row, .tup [encI r, .int w]] (encI (laidN row r w)) := by
  refine callop_fn (xs := [Str.ofString "row", Str.ofString "way"]) (fnOk B rfl (by kernel_rfl!) rfl (by kernel_rfl!) (bind2 fun _ _ => by kernel_rfl!)) rfl ?_
  intro A env W s₀ s R hsc rm F
  have hsz : row.length ≤ sizeLine := by rw [sizeLine_val]; omega
  refine st_ret F rm (ev_lc0 (L := rangeI 0 ((row.length : Nat) : Int)) (enc := Dat.int) (tds := fun k => [.int k]) (f := fun k => .int (row.getD k.toNat 0 + w * r.getD k.toNat 0)) [Str.ofString "k"] (evIt_range1 (ev_glob (g_range B.at) rfl) (ev_callb (ev_glob (g_len B.at) rfl) (evAll_cons (ev_name rfl) evAll_nil) (call_lenm hsz)) (by omega)) (by kernel_rfl!) (fun _ _ => ⟨rfl, rfl⟩) ?_ (by rw [rangeI_len]; simp; omega)) fun s₁ R₁ v l₁ F₁ hv => ⟨v, rfl, F₁.post ?_⟩
  · intro k hk
    obtain ⟨h0, h1⟩ := rangeI_mem hk
    have g1 : row[k.toNat]? = some (row.getD k.toNat 0) := getD_some (by omega)
    have g2 : r[k.toNat]? = some (r.getD k.toNat 0) := getD_some (by omega)
    exact ev_bin (ev_sub (ev_name rfl) (ev_name rfl) (op_itemm (l := row) (g := Dat.int) g1 h0 hsz))
      (ev_bin (ev_sub (ev_name rfl) ev_int (op_item_tup (k := 1) rfl (by decide) (by rw [sizeLine_val]; simp)))
        (ev_sub (ev_sub (ev_name rfl) ev_int (op_item_tup (k := 0) rfl (by decide) (by rw [sizeLine_val]; simp))) (ev_name rfl) (op_itemm (l := r) (g := Dat.int) g2 h0 (by omega))) (op_mul (mulOk hw (getD_bits hr) (by decide)))) op_add
  · have : (rangeI 0 ((row.length : Nat) : Int)).map (fun k => Dat.int (row.getD k.toNat 0 + w * r.getD k.toNat 0)) = (laidN row r w).map Dat.int := by
      simp [rangeI, laidN, List.map_map, Function.comp_def]
    rw [this] at hv
    exact hv
end
end Mine
end
noncomputable section
open PySem PySem.W PyProof.Rows PySem.SeqAt PySem.MeetsSeq
set_option Elab.async false
set_option autoImplicit false
set_option maxRecDepth 100000
namespace Mine
section
variable {C : Cx} (B : Base C (K1 C)) {s₀ : Shared} {R₀ : Reg} {V : List Addr} {sc : Scope} {env : Env} {W : List Addr} {s s' : Shared} {R R' Mu Mu' : Reg} {Δ Δ' : Vars} {n : Nat} {A : Around} {E : Value → Shared → Prop} {Q : Flow → Shared → Prop}
include B
/- while so.is_active(): for x in so.get_ready(): ..; so.done(x) -/
theorem st_play {x so : Str} {s1 a1 c1 p1 s2 a2 c2 p2 xp dsp dap dxp dcp dep : Pos} {body rest : List Stmt} {Z : Srt} {σ : Sd} {l : List Nat} {G : List (Nat × Nat)} {r : Nat → Nat} (m : Nat)
    (hbody : body.drop m = [.Expr (.Call (.Attribute (.Name so dsp) (Str.ofString "done") dap) [.Name x dxp] [] dcp) dep])
    (F : Fra C s₀ R₀ V sc env W s R Mu Δ) (rm : Room n A) (hn : 2 ≤ n) (S : SAt C aT aN Mu Z σ) (P : Play G σ [] [] l) (hG : ∀ e ∈ G, e.1 ∈ σ.ks ∧ e.2 ∈ σ.ks ∧ r e.1 < r e.2) (hGl : G.length ≤ 900)
    (T : List Addr) (hT : ∀ a ∈ T, a ∉ Z.all σ) (Δ' : Vars) (hΔ : ∀ y d, Δ' y = some d → Δ y = some d) (hso : Δ' so = some (.val (.ref Z.s))) (hx0 : Δ' x = none)
    (J : List Nat → Reg → Reg → Prop) (Jm : ∀ dn R R' M M', J dn R M → R.le R' → (∀ a ∈ T, ∀ o, M a = some o → M' a = some o) → J dn R' M') (JT : ∀ dn R M, J dn R M → ∀ a ∈ T, ∃ o, M a = some o) (J0 : J [] R Mu)
    (turn : ∀ k dn s₁ R₁ M₁ (Qb : Flow → Shared → Prop), k ∈ σ.ks → k ∉ dn → (∀ j ∈ dn, j ∈ σ.ks) → (∀ e ∈ G, e.2 = k → e.1 ∈ dn) → R.le R₁ → Reg.keepsOff (T ++ Z.all σ) Mu M₁ → Fra C s₀ R₀ V sc env W s₁ R₁ M₁ (upd Δ' x (.int (k : Int))) → J dn R₁ M₁ →
      (∀ s₂ R₂ M₂ Δ₂, R₁.le R₂ → Reg.keepsOff T M₁ M₂ → Fra C s₀ R₀ V sc env W s₂ R₂ M₂ Δ₂ → (∀ y d, upd Δ' x (.int (k : Int)) y = some d → Δ₂ y = some d) → J (dn ++ [k]) R₂ M₂ →
        wpAny C.M A (execs [.Expr (.Call (.Attribute (.Name so dsp) (Str.ofString "done") dap) [.Name x dxp] [] dcp) dep] env) Qb NoE s₂) →
      wpAny C.M A (execs body env) Qb NoE s₁)
    (fin : ∀ s' R' M' dn, (∀ k ∈ σ.ks, k ∈ dn) → R.le R' → Reg.keepsOff (T ++ Z.all σ) Mu M' → Fra C s₀ R₀ V sc env W s' R' M' Δ' → J dn R' M' → wpAny C.M A (execs rest env) Q E s')
    (hx : sc.names.lookup x = some .local ∨ sc.names.lookup x = some .cell)
    (hxn : ((x == ("__debug__" : Str)) || (x == ("__classdict__" : Str))) = false := by decide +kernel) (hsn : ((so == ("__debug__" : Str)) || (so == ("__classdict__" : Str))) = false := by decide +kernel)
    {pl1 pl2 pl3 : Sem Bool}
    (e1 : eval (.Call (.Attribute (.Name so s1) (Str.ofString "is_active") a1) [] [] c1) env = (do
      let ov ← eval (.Name so s1) env
      standAt a1.atName
      let (f, first) ← holding [ov] (getMethod ov (Str.ofString "is_active") pl1)
      callWith c1 f first (backTo c1 (starEach [] env)) (backToKw c1 (keywordEach [] env))) := by rfl)
    (e2 : eval (.Call (.Attribute (.Name so s2) (Str.ofString "get_ready") a2) [] [] c2) env = (do
      let ov ← eval (.Name so s2) env
      standAt a2.atName
      let (f, first) ← holding [ov] (getMethod ov (Str.ofString "get_ready") pl2)
      callWith c2 f first (backTo c2 (starEach [] env)) (backToKw c2 (keywordEach [] env))) := by rfl)
    (e3 : eval (.Call (.Attribute (.Name so dsp) (Str.ofString "done") dap) [.Name x dxp] [] dcp) env = (do
      let ov ← eval (.Name so dsp) env
      standAt dap.atName
      let (f, first) ← holding [ov] (getMethod ov (Str.ofString "done") pl3)
      callWith dcp f first (backTo dcp (starEach [.Name x dxp] env)) (backToKw dcp (keywordEach [] env))) := by rfl)
    (hs : ∀ v, foldedSetIterable (.Call (.Attribute (.Name so s2) (Str.ofString "get_ready") a2) [] [] c2) env v = pure v := by intro _; rfl)
    (hi : ∀ whole, isTrue (.Call (.Attribute (.Name so s1) (Str.ofString "is_active") a1) [] [] c1) env whole = (do let v ← whole; standAt (Expr.Call (.Attribute (.Name so s1) (Str.ofString "is_active") a1) [] [] c1).pos; holding [v] (truthy v)) := by intro _; rfl) :
    wpAny C.M A (execs (.While (.Call (.Attribute (.Name so s1) (Str.ofString "is_active") a1) [] [] c1) [.For (.Name x xp) (.Call (.Attribute (.Name so s2) (Str.ofString "get_ready") a2) [] [] c2) body [] p2] [] p1 :: rest) env) Q E s := by
  have hne : so ≠ x := fun h => by rw [h, hx0] at hso; (have q_ := oNS hso; clear hso; exact q_.elim)
  have wk : ∀ k : Nat, ∀ y d, Δ' y = some d → upd Δ' x (.int (k : Int)) y = some d := fun k y d e => by
    by_cases hy : y = x
    · subst hy; rw [hx0] at e; (have q_ := oNS e; clear e; exact q_.elim)
    · rw [upd_ne hy]; exact e
  have len7 : ∀ {dn out l : List Nat} {σ' : Sd}, σ'.ks = σ.ks → Play G σ' dn out l → (dn ++ out ++ l).length ≤ 7 := fun hk P => by
    have := nodup_len P.nod (M := σ.ks) fun j hj => hk ▸ P.sub j hj
    have := S.len; omega
  have szs : ∀ k, (sucs G k).length ≤ 900 := fun k => by
    unfold sucs; rw [List.length_map]; exact Nat.le_trans (List.length_filter_le _ _) hGl
  have all' : ∀ {σ' : Sd}, σ'.ks = σ.ks → σ'.rd.isSome = true → Z.all σ' = Z.all σ := fun h1 h2 => Srt.all_same h1 (by rw [h2, P.rd]; rfl)
  refine st_while (fun c s₁ => ∃ R₁ M₁ dn l σ₁, R.le R₁ ∧ Reg.keepsOff (T ++ Z.all σ) Mu M₁ ∧ Fra C s₀ R₀ V sc env W s₁ R₁ M₁ Δ' ∧ SAt C aT aN M₁ Z σ₁ ∧ σ₁.ks = σ.ks ∧ Play G σ₁ dn [] l ∧ J dn R₁ M₁ ∧ c = 7 - dn.length) 7 ⟨R, Mu, [], l, σ, .refl _, keepsOff_refl, F.weak hΔ, S, rfl, P, J0, rfl⟩ ?_
  rintro c s₁ ⟨R₁, M₁, dn, l₁, σ₁, le₁, off₁, F₁, S₁, hks, P₁, J₁, rfl⟩
  have hl7 := len7 hks P₁
  obtain ⟨h, t, mm, hd⟩ := S₁.d
  refine wpAny_isTrue_value (F₁.smeth0 rm B (k_act C) S₁ hd look_act (ev_name hso hsn) ((active_spec B P₁.rd (by simp at hl7; omega)).le (by omega)) (fun v s₂ R₂ M₂ Z₂ σ₂ d hP hz l₂ hv F₂ S₂ hnew hold off₂ => ?_) (hm := e1)) (hi _)
  obtain ⟨hZ, hσ, rfl⟩ := hP
  have hZ' := hZ.symm
  have hσ' := hσ.symm
  subst hZ' hσ'
  (have q_ := Rd.boolE hv; clear hv; subst q_)
  refine wpAny_truthy_bool ?_
  rw [all' hks (by rw [P₁.rd]; rfl)] at off₂
  have J₂ : J dn R₂ M₂ := Jm _ _ _ _ _ J₁ l₂ fun a ha o e => off₂ a o (hT a ha) e
  have off₂' : Reg.keepsOff (T ++ Z.all σ) Mu M₂ := keepsOff_trans off₁ (keepsOff_sub (fun a ha => List.mem_append_right _ ha) off₂)
  have hact : (decide (σ₁.nf < σ₁.po) || !l₁.isEmpty) = !l₁.isEmpty := by
    have : ¬ σ₁.nf < σ₁.po := by rw [P₁.nf, P₁.po]; simp
    simp [this]
  rw [hact]
  cases hl₁ : l₁ with
  | nil =>
    subst hl₁
    show wpAny C.M A (execs rest env) Q E s₂
    refine fin s₂ R₂ M₂ dn (fun k hk => P₁.all (r := r) (fun e he => ⟨hks ▸ (hG e he).1, (hG e he).2.2⟩) (r k + 1) k (by omega) (hks ▸ hk)) (le₁.trans l₂) off₂' F₂ J₂
  | cons k0 lt =>
    rw [← hl₁]
    have hpos : 0 < l₁.length := by rw [hl₁]; simp
    have hem : (!l₁.isEmpty) = true := by rw [hl₁]; rfl
    clear hl₁ k0 lt
    rw [if_pos hem]
    refine cps fun Qw hQw => ?_
    obtain ⟨h', t', m', hd'⟩ := S₂.d
    have hout : ∀ k ∈ l₁, k ∈ σ₁.ks := fun k hk => P₁.sub k (by simp [hk])
    refine wpAny_execs_cons (wpAny_For (F₂.smeth0 rm B (k_ready C) S₂ hd' look_ready (ev_name hso hsn) ((ready_spec B P₁.rd hout (by simp at hl7; omega)).le hn) (fun v s₃ R₃ M₃ Z₃ σ₃ d hP hz l₃ hv F₃ S₃ hnew hold off₃ => ?_) (hm := e2)) hs)
    obtain ⟨hZ, hσ₃, rfl⟩ := hP
    have hZ' := hZ.symm
    subst hZ'
    have P₃ := P₁.ready
    rw [← hσ₃] at P₃
    have hks₃ : σ₃.ks = σ.ks := by rw [hσ₃]; exact hks
    rw [all' hks (by rw [P₁.rd]; rfl)] at off₃
    have J₃ : J dn R₃ M₃ := Jm _ _ _ _ _ J₂ l₃ fun a ha o e => off₃ a o (hT a ha) e
    have off₃' : Reg.keepsOff (T ++ Z.all σ) Mu M₃ := keepsOff_trans off₂' (keepsOff_sub (fun a ha => List.mem_append_right _ ha) off₃)
    clear hσ₃
    simp only [List.nil_append] at P₃
    refine noE (itv_tup (C := C.at (M₃.minus (T ++ Z.all σ))) hv F₃.ro.on A rm.handled) fun it s₄ h₄ => ?_
    refine for_loop (L := l₁) (enc := fun (k : Nat) => Dat.int (k : Int)) (tds := fun (k : Nat) => [.int (k : Int)]) [x] (T ++ Z.all σ) (fun _ => Δ')
      (fun i R' M X => X = T ++ Z.all σ ∧ ∃ σ' l', SAt C aT aN M Z σ' ∧ σ'.ks = σ.ks ∧ Play G σ' (dn ++ l₁.take i) (l₁.drop i) l' ∧ J (dn ++ l₁.take i) R' M)
      F₃ rm h₄ (fun _ _ e => e) (fun a ha => ?_) (fun y hy => List.mem_singleton.mp hy ▸ hx) (fun a _ => ⟨rfl, rfl⟩) ?_ ⟨rfl, σ₃, [], S₃, hks₃, by simpa using P₃, by simpa using J₃⟩ ?_ ?_
    · rcases List.mem_append.mp ha with h | h
      · exact JT _ _ _ J₃ a h
      · obtain ⟨o', e', _⟩ := S₃.obj (a := a) (by rw [all' hks₃ (by rw [P₃.rd]; rfl)]; exact h)
        exact ⟨o', e'⟩
    · rintro i R R' M M' X ⟨rfl, σ', l', S', hk', P', J'⟩ hle he
      refine ⟨rfl, σ', l', S'.on fun a o ha e => ?_, hk', P', Jm _ _ _ _ _ J' hle fun a ha o e => (he a (List.mem_append_left _ ha)).trans e⟩
      rw [all' hk' (by rw [P'.rd]; rfl)] at ha
      exact (he a (List.mem_append_right _ ha)).trans e
    · rintro i k s₅ R₅ M₅ X hi l₅ off₅ hX F₅ ⟨rfl, σ₅, l₅', S₅, hks₅, P₅, J₅⟩
      refine cps fun Qf hQf => ?_
      have hF : Fra C s₀ R₀ V sc env W s₅ R₅ M₅ (upd Δ' x (.int (k : Int))) := F₅
      have hlt := (List.getElem?_eq_some_iff.mp hi).1
      have hkd : l₁.drop i = k :: l₁.drop (i + 1) := by
        rw [List.drop_eq_getElem_cons hlt, (List.getElem?_eq_some_iff.mp hi).2]
      have hko : k ∈ l₁.drop i := by rw [hkd]; simp
      have hk5 : k ∈ σ₅.ks := P₅.sub k (List.mem_append_left _ (List.mem_append_right _ hko))
      have htk : l₁.take (i + 1) = l₁.take i ++ [k] := by rw [List.take_add_one, hi]; rfl
      have hall₅ : Z.all σ₅ = Z.all σ := all' hks₅ (by rw [P₅.rd]; rfl)
      refine turn k (dn ++ l₁.take i) s₅ R₅ M₅ _ (hks₅ ▸ hk5) (fun h => ?_) (fun j hj => hks₅ ▸ P₅.sub j (by rw [List.append_assoc]; exact List.mem_append_left _ hj)) (fun e he h2 => cnt_zero.mp (P₅.oz k (List.mem_append_right _ hko)) e he h2) ((le₁.trans l₂).trans (l₃.trans l₅)) (keepsOff_trans off₃' off₅) hF J₅ fun s₆ R₆ M₆ Δ₆ l₆ off₆ F₆ hΔ₆ J₆ => ?_
      · have := P₅.nod
        rw [List.append_assoc, List.nodup_append] at this
        exact this.2.2 k h k (by simp [hko]) rfl
      · have S₆ : SAt C aT aN M₆ Z σ₅ := S₅.on fun a o ha e => off₆ a o (fun h => hT a h (hall₅ ▸ ha)) e
        obtain ⟨h₆, t₆, m₆, hd₆⟩ := S₆.d
        have hin : ∀ j ∈ sucs G k, j ∈ σ₅.ks := fun j hj => hks₅ ▸ (hG _ (sucs_mem.mp hj)).2.1
        have hnp : σ₅.np k = -1 := by
          rw [P₅.np k hk5, if_neg, if_pos hko]
          intro h
          have := P₅.nod
          rw [List.append_assoc, List.nodup_append] at this
          exact this.2.2 k h k (by simp [hko]) rfl
        have hl5 := len7 hks₅ P₅
        refine st_expr (F₆.smeth rm B (k_done C) S₆ hd₆ look_done (ev_name (hΔ₆ _ _ (by rw [upd_ne hne]; exact hso)) hsn) (evAll_cons (ev_name (hΔ₆ _ _ upd_same) hxn) evAll_nil) ((done_spec B P₅.rd hk5 hnp (fun j hj => ?_) ?_).le hn) (fun v s₇ R₇ M₇ Z₇ σ₇ d hP hz l₇ hv F₇ S₇ hnew hold off₇ => ?_) (hm := e3)) F₆.quiet
        · rw [P₅.su k hk5] at hj
          have := hG _ (sucs_mem.mp hj)
          exact ⟨hks₅ ▸ this.2.1, fun h => by rw [h] at this; exact absurd this.2.2 (Nat.lt_irrefl _)⟩
        · rw [P₅.su k hk5]; have := szs k; rw [List.length_append] at hl5; omega
        obtain ⟨hZ, hσ₇, rfl⟩ := hP
        have hZ' := hZ.symm
        subst hZ'
        obtain ⟨l₈, -, P₇⟩ := P₅.done hko hin
        rw [← hσ₇] at P₇
        have hks₇ : σ₇.ks = σ.ks := by rw [hσ₇]; exact hks₅
        have her : (l₁.drop i).erase k = l₁.drop (i + 1) := by rw [hkd]; simp
        rw [her, show dn ++ l₁.take i ++ [k] = dn ++ l₁.take (i + 1) from by rw [htk, List.append_assoc]] at P₇
        rw [show dn ++ l₁.take i ++ [k] = dn ++ l₁.take (i + 1) from by rw [htk, List.append_assoc]] at J₆
        rw [hall₅] at off₇
        refine st_nil (hQf _ _ ⟨R₇, M₇, _, l₆.trans l₇, keepsOff_trans (keepsOff_sub (fun a ha => List.mem_append_left _ ha) off₆) (keepsOff_sub (fun a ha => List.mem_append_right _ ha) off₇), fun a ha => .inl ha, F₇.weak fun y d e => hΔ₆ _ _ (wk k y d e), rfl, σ₇, l₈, S₇, hks₇, P₇, Jm _ _ _ _ _ J₆ l₇ fun a ha o e => off₇ a o (hT a ha) e⟩)
    · rintro s₅ R₅ M₅ X l₅ off₅ hX F₅ ⟨rfl, σ₅, l₅', S₅, hks₅, P₅, J₅⟩
      rw [List.take_length] at P₅ J₅
      rw [List.drop_length] at P₅
      refine st_nil (hQw _ _ ⟨7 - (dn ++ l₁).length, ?_, R₅, M₅, dn ++ l₁, l₅', σ₅, (le₁.trans l₂).trans (l₃.trans l₅), keepsOff_trans off₃' off₅, F₅, S₅, hks₅, P₅, J₅, rfl⟩)
      have := len7 hks₅ P₅
      simp at this hl7 ⊢
      omega
end
end Mine
end
noncomputable section
open PySem PySem.W PyProof.Rows PySem.SeqAt PySem.MeetsSeq
set_option Elab.async false
set_option autoImplicit false
set_option maxRecDepth 100000
namespace Mine
noncomputable abbrev Edge := Nat × Nat × Int
noncomputable def encE (e : Edge) : Dat := .tup [.int (e.1 : Int), .int (e.2.1 : Int), .int e.2.2]
noncomputable def indN (starts : List Nat) (p : Nat) : List Int := starts.map fun s => if p = s then 1 else 0
noncomputable def inE (E : List Edge) (p : Nat) : List Edge := E.filter fun e => decide (e.2.1 = p)
theorem upd_ofL (l : List (Str × Dat)) (x : Str) (d : Dat) : upd (ofL l) x d = ofL ((x, d) :: l) := by
  funext y
  simp only [upd, ofL, List.lookup_cons]
  by_cases h : y = x
  · subst h; simp
  · have : (y == x) = false := by simpa using h
    rw [this]; simp [h]
theorem laid_fold_len {α : Type} (g : α → List Int × Int) : ∀ (l : List α) (row : List Int), (l.foldl (fun row e => laidN row (g e).1 (g e).2) row).length = row.length
  | [], _ => rfl
  | e :: l, row => by rw [List.foldl_cons, laid_fold_len g l, laidN_len]
structure FlowOk (E : List Edge) (starts : List Nat) (r : Nat → Nat) (fl : Nat → List Int) : Prop where
  low : ∀ e ∈ E, e.1 < 7 ∧ e.2.1 < 7 ∧ r e.1 < r e.2.1 ∧ Bits (2 ^ 21) e.2.2
  few : E.length ≤ 15
  st : starts.length ≤ 3
  len : ∀ p < 7, (fl p).length = starts.length
  bits : ∀ p < 7, ∀ x ∈ fl p, Bits (2 ^ 23) x
  fix : ∀ p < 7, fl p = (inE E p).foldl (fun row e => laidN row (fl e.1) e.2.2) (indN starts p)
section
variable {C : Cx} (B : Base C (K1 C))
include B
theorem rows_spec {E : List Edge} {starts : List Nat} {r : Nat → Nat} {fl : Nat → List Int} (H : FlowOk E starts r fl) :
    MCall C 5 160 [.lst (E.map encE), .lst (encN starts)] (.lst ((List.range 7).map fun p => encI (fl p))) := by
  refine mcall_fn (n := 4) (xs := [Str.ofString "steps", Str.ofString "starts"]) (es := [.lst (E.map encE), .lst (encN starts)]) (fnC B rfl (by kernel_rfl!) rfl (by kernel_rfl!)) rfl (fun R s vs ro hr => bnd_all2 hr fun _ _ hr => bnd_plain ro.on (by kernel_rfl!) hr) ?_
  intro A Out env W s₀ s R R₁ Mu hsc hf hfr Lv rm F
  refine cps fun Q hQ => ?_
  refine st_sorter B F rm (by omega) rfl fun s₁ R₂ M₁ Z₀ l₁ hM₁ S₁ hZ₀ F₁ => ?_
  have Lv₁ : Live Out M₁ := Lv.up (.of fun a _ o e => hM₁ a o e)
  have U₁ : UpTo (frs Out) Mu M₁ := .of fun a _ o e => hM₁ a o e
  have dis₀ : ∀ a ∈ frs Out, a ∉ Z₀.all Sd.start := fun a ha h => by
    obtain ⟨o, e, _⟩ := Lv.obj ha
    have := (F.mu a o e).1
    rw [hZ₀ a h] at this; (have q_ := oNS this; clear this; exact q_.elim)
  have hr7 : (rangeI 0 7).map Dat.int = (List.range 7).map (fun (k : Nat) => Dat.int (k : Int)) := rfl
  refine st_addall B (List.range 7) List.nodup_range (by simp) (ofL [(Str.ofString "steps", .lst (E.map encE)), (Str.ofString "starts", .lst (encN starts)), (Str.ofString "sorter", .val (.ref Z₀.s))]) F₁ rm (by omega) S₁ (hr7 ▸ evIt_range1 (ev_glob (g_range B.at) rfl) ev_int (by decide)) (AllIn.le ⟨rfl, rfl, rfl, trivial⟩) rfl rfl (fun s₂ R₃ M₂ Z l₂ S₂ hz hX off₂ F₂ => ?_) (Or.inr rfl)
  have dis : ∀ a ∈ frs Out, a ∉ Z.all (Sd.told (List.range 7) []) := fun a ha h => by
    rcases hX a h with q | q
    · exact dis₀ a ha q
    · obtain ⟨o, e, _⟩ := Lv₁.obj ha; rw [q] at e; (have q_ := oNS e; clear e; exact q_.elim)
  have U₂ : UpTo (frs Out) M₁ M₂ := .off off₂ dis₀
  refine st_tell B E encE (fun e => [.int (e.1 : Int), .int (e.2.1 : Int), .int e.2.2]) [Str.ofString "a", Str.ofString "b", Str.ofString "weight"] (fun e => e.1) (fun e => e.2.1) (ofL [(Str.ofString "steps", .lst (E.map encE)), (Str.ofString "starts", .lst (encN starts)), (Str.ofString "sorter", .val (.ref Z.s))]) F₂ rm (by omega) S₂ (evIt_lst (ev_name rfl)) (fun e _ => ⟨rfl, rfl, [_, _, _], rfl, rfl⟩) (by decide +kernel)
    (fun e he => by have := H.low e he; exact ⟨List.mem_range.mpr this.1, List.mem_range.mpr this.2.1⟩) (by have := H.few; omega) (AllIn.le ⟨rfl, rfl, hz ▸ rfl, trivial⟩) (fun e _ => ⟨rfl, rfl, rfl, AllIn.le ⟨rfl, rfl, rfl, trivial⟩⟩) fun s₃ R₄ M₃ l₃ S₃ off₃ F₃ => ?_
  have U₃ : UpTo (frs Out) M₂ M₃ := .off off₃ dis
  have Lv₃ : Live Out M₃ := (Lv₁.up U₂).up U₃
  generalize hEp : (E.map fun e => (e.1, e.2.1)) = Ep at S₃
  have hlow : ∀ e ∈ Ep, e.1 < 7 ∧ e.2 < 7 ∧ r e.1 < r e.2 := fun e he => by
    rw [← hEp] at he
    obtain ⟨e', h', rfl⟩ := List.mem_map.mp he
    have := H.low e' h'
    exact ⟨this.1, this.2.1, this.2.2.1⟩
  obtain ⟨h, t, m, hd⟩ := S₃.d
  refine st_expr (F₃.fmeth0 rm B (k_prep C) hfr hf Lv₃ (show ∀ a ∈ frs Out, a ∉ Z.all (Sd.told (List.range 7) Ep) from dis) S₃ hd look_prep (ev_name rfl) ((prep_spec B (r := r) rfl (fun k hk j hj => ?_)).le (by omega)) fun v s₄ R₅ M₄ Z₄ σ₄ d hP hzs l₄ hv F₄ S₄ hn ho hoff hup => ?_) F₃.quiet
  · have := hlow _ (sucs_mem.mp hj)
    exact ⟨List.mem_range.mpr this.2.1, this.2.2⟩
  obtain ⟨hσ₄, rfl⟩ := hP
  have P₀ : Play Ep σ₄ [] [] ((List.range 7).filter fun k => decide ((Sd.told (List.range 7) Ep).np k = 0)) := by
    rw [hσ₄]
    exact Play.start (E := Ep) (σ := Sd.told (List.range 7) Ep) (fun k _ => rfl) (fun j _ => rfl) List.nodup_range rfl rfl
  have hks : σ₄.ks = List.range 7 := by rw [hσ₄]; rfl
  clear hσ₄
  have dis₄ : ∀ a ∈ frs Out, a ∉ Z₄.all σ₄ := fun a ha h => by
    rcases hn a h with q | q
    · exact dis a ha q
    · obtain ⟨o, e, _⟩ := Lv₃.obj ha; rw [(F₃.mu a o e).1] at q; (have q_ := oSN q; clear q; exact q_.elim)
  have U₄ : UpTo (frs Out) Mu M₄ := ((U₁.trans U₂).trans U₃).trans hup
  refine st_lcA (L := List.range 7) (enc := fun (k : Nat) => Dat.int (k : Int)) (tds := fun (k : Nat) => [.int (k : Int)]) (p := fun _ => true) (f := fun _ => Dat.lst []) [Str.ofString "place"] F₄ rm (hr7 ▸ evIt_range1 (ev_glob (g_range B.at) rfl) ev_int (by decide)) (by kernel_rfl!) (fun _ _ => ⟨rfl, rfl⟩) (fun _ _ => rfl) (fun _ _ _ => ev_list evAll_nil) (by rw [sizeLine_val]; simp) fun s₅ R₆ D ys m₅ l₅ hD0 hys F₅ => ?_
  have mD : M₄ D = none := F₄.noMu hD0
  have eM : ∀ a o, M₄ a = some o → (M₄.set D (lstObj ys m₅)) a = some o := fun a o e => by
    rw [Reg.set_ne _ _ (fun h => by rw [h, mD] at e; (have q_ := oNS e; clear e; exact q_.elim))]; exact e
  have S₅ : SAt C aT aN (M₄.set D (lstObj ys m₅)) Z₄ σ₄ := S₄.on fun a o _ e => eM a o e
  have dD : D ∉ Z₄.all σ₄ := fun h => by obtain ⟨o, e, _⟩ := S₄.obj h; rw [mD] at e; (have q_ := oNS e; clear e; exact q_.elim)
  have dO : D ∉ frs Out := fun h => by obtain ⟨o, e, _⟩ := (Lv.up U₄).obj h; rw [mD] at e; (have q_ := oNS e; clear e; exact q_.elim)
  have U₅ : UpTo (frs Out) Mu (M₄.set D (lstObj ys m₅)) := U₄.trans (.of fun a _ o e => eM a o e)
  let Δw : Vars := ofL [(Str.ofString "steps", .lst (E.map encE)), (Str.ofString "starts", .lst (encN starts)), (Str.ofString "sorter", .val (.ref Z₄.s)), (Str.ofString "rows", .val (.ref D))]
  refine st_play B (x := Str.ofString "place") (so := Str.ofString "sorter") (Z := Z₄) (σ := σ₄) (G := Ep) (r := r) 2 rfl F₅ rm (by omega) S₅ P₀ (fun e he => ?_) ?_ [D] (fun a ha => by rw [List.mem_singleton.mp ha]; exact dD) Δw (AllIn.le ⟨rfl, rfl, hzs ▸ rfl, rfl, trivial⟩) rfl rfl
    (fun dn R' M => ∃ ys m ds, M D = some (lstObj ys m) ∧ RdAll R' ys ds ∧ ds.length = 7 ∧ ∀ p ∈ dn, ds[p]? = some (encI (fl p))) ?_ ?_ ⟨ys, m₅, _, Reg.set_self _ _ _, hys, by rw [filter_tt]; simp, by simp⟩ ?_ ?_ (Or.inr rfl)
  · have := hlow e he
    exact ⟨hks ▸ List.mem_range.mpr this.1, hks ▸ List.mem_range.mpr this.2.1, this.2.2⟩
  · rw [← hEp, List.length_map]; have := H.few; omega
  · rintro dn Ra Rb Ma Mb ⟨ys, m, ds, h1, h2, h3, h4⟩ hle he
    exact ⟨ys, m, ds, he D (by simp) _ h1, h2.mono hle, h3, h4⟩
  · rintro dn Ra Ma ⟨ys, m, ds, h1, h2, h3, h4⟩ a ha
    rw [List.mem_singleton.mp ha]; exact ⟨_, h1⟩
  · rintro k dn s₆ R₇ M₆ Qb hk hkd hdk hpre l₆ off₆ F₆ ⟨ys, m, ds, h1, h2, h3, h4⟩ cont
    have hk7 : k < 7 := List.mem_range.mp (hks ▸ hk)
    have F₆' := F₆.reread (x := Str.ofString "rows") (d := .box D ys ds) rfl (.box h2)
    have hysl : ys.length = 7 := by rw [h2.length, h3]
    refine st_lc (L := E) (enc := encE) (tds := fun e => [.int (e.1 : Int), .int (e.2.1 : Int), .int e.2.2]) (p := fun e => ((e.2.1 : Int) == (k : Int))) (f := fun e => .tup [encI (fl e.1), .int e.2.2]) [Str.ofString "a", Str.ofString "b", Str.ofString "weight"] F₆' rm (evIt_lst (ev_name rfl)) (by kernel_rfl!) (fun e _ => ⟨rfl, rfl, [_, _, _], rfl, rfl⟩)
      (fun e _ => evT_cmp (ev_name rfl) (ev_name rfl) op_eq_int) (fun e he hp => ?_) (by rw [sizeLine_val]; have := H.few; omega) fun s₇ R₈ l₇ F₇ => ?_
    · have hek : e.2.1 = k := Int.ofNat.inj (eq_of_beq hp)
      have hmem : (e.1, e.2.1) ∈ Ep := by rw [← hEp]; exact List.mem_map.mpr ⟨e, he, rfl⟩
      have hds := h4 e.1 (hpre _ hmem hek)
      exact ev_tuple (evAll_cons (ev_sub (ev_name rfl) (ev_name rfl) (op_mitem (C := C.at M₆) h1 (by simpa using hds) (by omega) (by rw [sizeLine_val]; omega))) (evAll_cons (ev_name rfl) evAll_nil))
    · have hfil : E.filter (fun e => ((e.2.1 : Int) == (k : Int))) = inE E k := by
        unfold inE
        congr 1
        funext e
        simp [Int.natCast_inj, Bool.beq_eq_decide_eq]
      rw [hfil] at F₇
      have F₇' := F₇.unbox (x := Str.ofString "rows") rfl
      refine st_mset (d := encI (fl k)) F₇' rm (ev_name rfl) (ev_name rfl) (ev_callf (ev_glob (g_reduce B.at) rfl) (B.K aReduce _ rfl) rfl (evAll_cons (ev_glob (g_laid B.at) rfl) (evAll_cons (ev_name rfl) (evAll_cons (Ev.cast (d' := encI (indN starts k)) (ev_lc0 (L := starts) (enc := fun (k : Nat) => Dat.int (k : Int)) (tds := fun (k : Nat) => [.int (k : Int)]) (f := fun (j : Nat) => Dat.int (if k = j then 1 else 0)) [Str.ofString "start"] (evIt_lst (ev_name rfl)) (by kernel_rfl!) (fun _ _ => ⟨rfl, rfl⟩) (fun j _ => ?_) (by rw [sizeLine_val]; have := H.st; omega)) ?_) evAll_nil))) ?_) h1 (by omega) (by omega) (by rw [sizeLine_val]; omega) fun s₈ R₉ v m' l₈ hv F₈ => ?_
      · refine ev_ifexp (evT_cmp (ev_name rfl) (ev_name rfl) op_eq_int) (fun h => ?_) fun h => ?_
        · have : k = j := Int.ofNat.inj (eq_of_beq h)
          rw [if_pos this]; exact ev_int
        · have : ¬ k = j := fun e => (by simpa using h : ¬ (k : Int) = (j : Int)) (by rw [e])
          rw [if_neg this]; exact ev_int
      · simp [encI, indN]
      · have hE : ∀ e ∈ inE E k, e ∈ E := fun e he => (List.mem_filter.mp he).1
        have hs := reduce_spec B (n := 1) (R₁ := C.h₀.get?) (f := 155) (ds := (inE E k).map fun e => .tup [encI (fl e.1), .int e.2.2]) (fun i => encI (((inE E k).take i).foldl (fun row e => laidN row (fl e.1) e.2.2) (indN starts k))) (B.K 155 _ rfl) rfl (fun i d hd => ?_) (fun mu => op_is_lst (a := aMissing) (B.K aMissing _ rfl) (by decide +kernel))
        · rw [List.length_map, List.take_length, ← H.fix k hk7] at hs
          exact hs.base.le (by omega)
        · rw [List.getElem?_map] at hd
          obtain ⟨e, he, rfl⟩ := Option.map_eq_some_iff.mp hd
          have hm : e ∈ inE E k := List.mem_of_getElem? he
          have hlo := H.low e (hE e hm)
          rw [List.take_add_one, he, Option.toList_some, List.foldl_append]
          have hlen : (((inE E k).take i).foldl (fun row e => laidN row (fl e.1) e.2.2) (indN starts k)).length = starts.length := by
            rw [laid_fold_len (fun e : Edge => (fl e.1, e.2.2))]; simp [indN]
          exact (laid_spec B (by rw [hlen]; exact H.len _ hlo.1) (by rw [hlen]; exact H.st) (H.bits _ hlo.1) hlo.2.2.2).toR
      · refine cont s₈ R₉ (M₆.set D (lstObj (ys.set k v) m')) (upd Δw (Str.ofString "place") (.int (k : Int))) (l₇.trans l₈) (keepsOff_set (by simp)) ?_ (fun _ _ e => e) ⟨ys.set k v, m', ds.set k (encI (fl k)), Reg.set_self _ _ _, (h2.mono (l₇.trans l₈)).set k hv, by simpa using h3, fun p hp => ?_⟩
        · show Fra _ _ _ _ _ _ _ _ _ _ (upd (ofL _) _ _)
          rw [upd_ofL]
          exact F₈.toL _ ⟨rfl, rfl, rfl, rfl, rfl, trivial⟩
        · rw [List.getElem?_set]
          by_cases hpk : k = p
          · subst hpk; simp [h3, hk7]
          · rw [if_neg hpk]
            refine h4 p ?_
            rcases List.mem_append.mp hp with h | h
            · exact h
            · exact absurd (List.mem_singleton.mp h).symm hpk
  · rintro s₆ R₇ M₆ dn hall l₆ off₆ F₆ ⟨ys, m, ds, h1, h2, h3, h4⟩
    have hds : ds = (List.range 7).map fun p => encI (fl p) := by
      refine List.ext_getElem? fun i => ?_
      by_cases hi : i < 7
      · rw [h4 i (hall i (hks ▸ List.mem_range.mpr hi))]
        simp [List.getElem?_range hi]
      · rw [List.getElem?_eq_none (by omega), List.getElem?_eq_none (by simp; omega)]
    refine st_ret F₆ rm (ev_name rfl) fun s₇ R₈ v l₇ F₇ hv => ?_
    (have q_ := Rd.valE hv; clear hv; subst q_)
    have F₈ := F₇.freeze h1 dO
    refine hQ _ _ ⟨_, _, _, _, rfl, F₈, ?_, ?_⟩
    · refine U₅.trans ((UpTo.off off₆ fun a ha h => ?_).trans (.of fun a ha o e => ?_))
      · rcases List.mem_append.mp h with h | h
        · exact dO (List.mem_singleton.mp h ▸ ha)
        · exact dis₄ a ha h
      · have : a ≠ D := fun h => dO (h ▸ ha)
        simp only [Reg.del, this, if_false]; exact e
    · rw [← hds]
      exact .lst (Reg.set_self _ _ _) ⟨rfl, rfl⟩ rfl (h2.mono (l₇.trans (F₇.freeze_le h1)))
end
end Mine
end
noncomputable section
open PySem PySem.W PyProof.Rows PySem.SeqAt PySem.MeetsSeq
set_option Elab.async false
set_option autoImplicit false
set_option maxRecDepth 100000
namespace Mine
noncomputable def nameN (S : Int) (p : Nat) : Nat := ((3 * (p : Int) + S).fmod 7).toNat
noncomputable def namesN (S : Int) : List Nat := (List.range 7).map (nameN S)
noncomputable def base1 : List Edge := [(0, 3, 2), (1, 3, 1), (3, 5, 3), (0, 5, 1), (3, 6, 1), (1, 6, -2), (2, 4, 1), (1, 4, 5), (2, 3, -1)]
noncomputable def base1At (k : Nat) : Edge := base1.getD k (0, 0, 0)
noncomputable def steps1 (nums : List Int) : List Edge := (List.range 9).map fun (k : Nat) => ((base1At k).1, (base1At k).2.1, (base1At k).2.2 + (pickL nums (some (k : Int)) none (some 9)).sum)
noncomputable def extraA (x : Int) : Nat := (x.fmod 7).toNat
noncomputable def extraB (x : Int) : Nat := ((x.fdiv 7).fmod 7).toNat
noncomputable def extra (x : Int) : List Edge := if extraA x = extraB x then [] else [(min (extraA x) (extraB x), max (extraA x) (extraB x), x.fdiv 49)]
noncomputable def stepsI (nums : List Int) : List Edge := steps1 nums ++ (nums.take 6).flatMap extra
noncomputable def named (S : Int) (E : List Edge) : List Edge := E.map fun e => (nameN S e.1, nameN S e.2.1, e.2.2)
noncomputable def manyN (S : Int) : Nat := (2 + S.fmod 2).toNat
noncomputable def waysN (E : List Edge) : List (List (Int × Int)) := (List.range 7).map fun p => (E.filter fun e => decide (e.1 = p)).map fun e => ((e.2.1 : Int), e.2.2)
noncomputable def tableN (fl : Nat → List Int) (ends : List Nat) (many : Nat) : List (List Int) := (List.range many).map fun k => ends.map fun e => (fl e).getD k 0
theorem fmod7 (x : Int) : 0 ≤ x.fmod 7 ∧ x.fmod 7 < 7 := ⟨Int.fmod_nonneg_of_pos _ (by decide), Int.fmod_lt_of_pos _ (by decide)⟩
theorem nameN_lt (S : Int) (p : Nat) : nameN S p < 7 := by have := fmod7 (3 * (p : Int) + S); unfold nameN; omega
theorem nameN_int (S : Int) (p : Nat) : ((nameN S p : Nat) : Int) = (3 * (p : Int) + S).fmod 7 := by have := fmod7 (3 * (p : Int) + S); unfold nameN; omega
theorem extraA_int (x : Int) : ((extraA x : Nat) : Int) = x.fmod 7 := by have := fmod7 x; unfold extraA; omega
theorem extraB_int (x : Int) : ((extraB x : Nat) : Int) = (x.fdiv 7).fmod 7 := by have := fmod7 (x.fdiv 7); unfold extraB; omega
theorem extraA_lt (x : Int) : extraA x < 7 := by have := fmod7 x; unfold extraA; omega
theorem extraB_lt (x : Int) : extraB x < 7 := by have := fmod7 (x.fdiv 7); unfold extraB; omega
theorem manyN_int (S : Int) : ((manyN S : Nat) : Int) = 2 + S.fmod 2 := by
  have h0 := Int.fmod_nonneg_of_pos S (b := 2) (by decide)
  unfold manyN; omega
theorem manyN_or (S : Int) : manyN S = 2 ∨ manyN S = 3 := by
  have h0 := Int.fmod_nonneg_of_pos S (b := 2) (by decide)
  have h1 := Int.fmod_lt_of_pos S (b := 2) (by decide)
  unfold manyN; omega
theorem base1_lt : ∀ e ∈ base1, e.1 < e.2.1 ∧ e.2.1 < 7 := by decide
theorem stepsI_lt (nums : List Int) : ∀ e ∈ stepsI nums, e.1 < e.2.1 ∧ e.2.1 < 7 := by
  intro e he
  rcases List.mem_append.mp he with h | h
  · obtain ⟨k, hk, rfl⟩ := List.mem_map.mp h
    have hk := List.mem_range.mp hk
    have : base1At k ∈ base1 := by
      unfold base1At
      rw [List.getD_eq_getElem?_getD, List.getElem?_eq_getElem (show k < base1.length from hk)]
      exact List.getElem_mem _
    have q := base1_lt _ this
    exact q
  · obtain ⟨x, _, hx⟩ := List.mem_flatMap.mp h
    unfold extra at hx
    have ha := extraA_lt x
    have hb := extraB_lt x
    split at hx
    · cases hx
    · rw [List.mem_singleton.mp hx]
      dsimp only
      omega
theorem stepsI_len (nums : List Int) : (stepsI nums).length ≤ 15 := by
  have : ∀ l : List Int, (l.flatMap extra).length ≤ l.length := fun l => by
    induction l with
    | nil => simp
    | cons x l ih =>
      rw [List.flatMap_cons, List.length_append, List.length_cons]
      have : (extra x).length ≤ 1 := by unfold extra; split <;> simp
      omega
  unfold stepsI steps1
  have h := this (nums.take 6)
  rw [List.length_take] at h
  rw [List.length_append, List.length_map, List.length_range]
  omega
end Mine
end
noncomputable section
open PySem PySem.W PyProof.Rows PySem.SeqAt PySem.MeetsSeq
set_option Elab.async false
set_option autoImplicit false
namespace Mine
/-! written values -/
noncomputable def allSome : List (Option Dat) → Option (List Dat)
  | [] => some []
  | none :: _ => none
  | some d :: r => (allSome r).map (d :: ·)
noncomputable def litD : Nat → Expr → Option Dat
  | 0, _ => none
  | k + 1, e => match e with
    | .Constant (.int i) _ _ => some (.int i)
    | .UnaryOp .USub (.Constant (.int i) _ _) _ => some (.int (-i))
    | .Tuple es _ _ => if es.length ≤ 1000 then (allSome (es.map (litD k))).map .tup else none
    | .List es _ => if es.length ≤ 1000 then (allSome (es.map (litD k))).map .lst else none
    | _ => none
theorem lit_star {k : Nat} {e : Expr} {d : Dat} (h : litD k e = some d) (es : List Expr) (env : Env) : starEach (e :: es) env = (false, eval e env) :: starEach es env := by
  cases k with
  | zero => (have q_ := oNS h; clear h; exact q_.elim)
  | succ k =>
    unfold litD at h
    split at h <;> first | rfl | (have q_ := oNS h; clear h; exact q_.elim)
section
variable {C : Cx} {n : Nat} {sc : Scope} {Δ : Vars}
theorem evAll_lit {k : Nat} (ih : ∀ e d, litD k e = some d → Ev C n sc Δ e d) : ∀ (es : List Expr) (ds : List Dat), allSome (es.map (litD k)) = some ds → EvAll C n sc Δ es ds ∧ ds.length = es.length
  | [], ds, h => by (have q_ := oSS h; clear h; subst q_); exact ⟨evAll_nil, rfl⟩
  | e :: es, ds, h => by
    rw [List.map_cons] at h
    cases he : litD k e with
    | none => rw [he] at h; (have q_ := oNS h; clear h; exact q_.elim)
    | some d =>
      rw [he] at h
      simp only [allSome] at h
      obtain ⟨ds', h', rfl⟩ := Option.map_eq_some_iff.mp h
      obtain ⟨r, hl⟩ := evAll_lit ih es ds' h'
      exact ⟨evAll_cons (ih e d he) r (lit_star he es), by simp [hl]⟩
theorem ev_lit : ∀ (k : Nat) {e : Expr} {d : Dat}, litD k e = some d → Ev C n sc Δ e d
  | 0, _, _, h => nomatch h
  | k + 1, e, d, h => by
    unfold litD at h
    split at h
    · (have q_ := oSS h; clear h; subst q_); exact ev_int
    · (have q_ := oSS h; clear h; subst q_); exact ev_un ev_int op_neg
    · split at h
      · rename_i hs
        obtain ⟨ds, h', rfl⟩ := Option.map_eq_some_iff.mp h
        obtain ⟨r, hl⟩ := evAll_lit (fun e d h => ev_lit k h) _ _ h'
        exact ev_tuple r (by rw [hl, sizeLine_val]; omega)
      · (have q_ := oNS h; clear h; exact q_.elim)
    · split at h
      · rename_i hs
        obtain ⟨ds, h', rfl⟩ := Option.map_eq_some_iff.mp h
        obtain ⟨r, hl⟩ := evAll_lit (fun e d h => ev_lit k h) _ _ h'
        exact ev_list r (by rw [hl, sizeLine_val]; omega)
      · (have q_ := oNS h; clear h; exact q_.elim)
    · (have q_ := oNS h; clear h; exact q_.elim)
end
end Mine
end
noncomputable section
open PySem PySem.W PyProof.Rows PySem.SeqAt PySem.MeetsSeq
set_option Elab.async false
set_option autoImplicit false
set_option maxRecDepth 100000
namespace Mine
theorem rangeI_nat (n : Nat) : rangeI 0 (n : Int) = (List.range n).map fun (k : Nat) => (k : Int) := by simp [rangeI]
theorem small_mul {a b : Int} (ha : a.natAbs < 2 ^ 8) (hb : b.natAbs < 2 ^ 8) : IntMulOk a b := mulOk (a := 8) (b := 8) ha hb (by decide)
section
variable {C : Cx} (B : Base C (K1 C))
include B
set_option maxHeartbeats 8000000 in
theorem law_spec {ns : List Int} {fl : Nat → List Int} {r : Nat → Nat} (h63 : ns.length ≤ 63)
    (H : FlowOk (named (ns.take 24).sum (stepsI (ns.take 24))) ((namesN (ns.take 24).sum).take (manyN (ns.take 24).sum)) r fl) :
    MCall C 9 177 [.lst (ns.map Dat.int)] (.bool (detN (manyN (ns.take 24).sum) (tableN fl ((namesN (ns.take 24).sum).drop (7 - manyN (ns.take 24).sum)) (manyN (ns.take 24).sum))
      == apartN (waysN (named (ns.take 24).sum (stepsI (ns.take 24)))) 6 (nameN (ns.take 24).sum 0) [(nameN (ns.take 24).sum 0 : Int)] ((((namesN (ns.take 24).sum).take (manyN (ns.take 24).sum)).drop 1).map fun (k : Nat) => (k : Int)) (((namesN (ns.take 24).sum).drop (7 - manyN (ns.take 24).sum)).map fun (k : Nat) => (k : Int)))) := by
  refine mcall_fn (n := 8) (xs := [Str.ofString "script"]) (es := [.lst (ns.map Dat.int)]) (fnC B rfl (by kernel_rfl!) rfl (by kernel_rfl!)) rfl (fun R s vs ro hr => bnd_all1 hr fun _ hr => bnd_plain ro.on (by kernel_rfl!) hr) ?_
  intro A Out env W s₀ s R R₁ Mu hsc hf hfr Lv rm F
  refine cps fun Q hQ => ?_
  refine st_assign F rm (ev_upto (l := ns) (g := Dat.int) (ev_name rfl) ev_int (by decide) (by rw [sizeLine_val]; omega)) fun s₁ R₂ l₁ F₁ => ?_
  rw [show (24 : Int).toNat = 24 from rfl] at F₁
  generalize hnums : ns.take 24 = nums at F₁ H ⊢
  have hnl : nums.length ≤ 24 := by rw [← hnums, List.length_take]; omega
  generalize hS : nums.sum = S at H ⊢
  have evsum : ∀ {mu : Reg} {n : Nat} {sc' : Scope} {Δ : Vars} {np p p' : Pos}, Δ (Str.ofString "numbers") = some (.lst (nums.map Dat.int)) → sc'.names.lookup (Str.ofString "sum") = some .globalImplicit → Ev (C.at mu) n sc' Δ (.Call (.Name (Str.ofString "sum") np) [.Name (Str.ofString "numbers") p] [] p') (.int S) := fun h1 h2 =>
    hS ▸ ev_callb (ev_glob (g_sum B.at) h2) (evAll_cons (ev_name h1) evAll_nil) call_sum
  refine st_lc0 (L := rangeI 0 7) (enc := Dat.int) (tds := fun p => [.int p]) (f := fun p => .int ((3 * p + S).fmod 7)) [Str.ofString "p"] F₁ rm (evIt_range1 (ev_glob (g_range B.at) rfl) ev_int (by decide)) (by kernel_rfl!) (fun _ _ => ⟨rfl, rfl⟩) (fun p hp => ?_) (by rw [rangeI_len, sizeLine_val]; decide) fun s₂ R₃ l₂ F₂ => ?_
  · have hp := rangeI_mem hp
    exact ev_bin (ev_bin (ev_bin ev_int (ev_name rfl) (op_mul (small_mul (by decide) (by omega)))) (evsum rfl rfl) op_add) ev_int (op_mod (by decide))
  have hnames : (rangeI 0 7).map (fun p => Dat.int ((3 * p + S).fmod 7)) = encN (namesN S) := by
    rw [show (7 : Int) = ((7 : Nat) : Int) from rfl, rangeI_nat, namesN, encN, List.map_map, List.map_map]
    refine List.map_congr_left fun p _ => ?_
    simp [nameN_int]
  rw [hnames] at F₂
  refine st_assign F₂ rm (Ev.cast (d' := .int ((manyN S : Nat) : Int)) (ev_bin ev_int (ev_bin (evsum rfl rfl) ev_int (op_mod (by decide))) op_add) (by rw [manyN_int])) fun s₃ R₄ l₃ F₃ => ?_
  with_reducible refine st_assign (d := .lst (base1.map encE)) F₃ rm (ev_lit 3 ?_) (fun s₄ R₅ l₄ F₄ => ?_) ?_ ?_
  · kernel_rfl!
  rotate_left
  · rfl
  · exact Or.inr rfl
  have hb9 : base1.length ≤ sizeLine := by rw [sizeLine_val]; decide
  have hn24 : nums.length ≤ sizeLine := by rw [sizeLine_val]; omega
  refine st_lcA (L := rangeI 0 9) (enc := Dat.int) (tds := fun k => [.int k]) (p := fun _ => true) (f := fun k => .tup [.int ((base1At k.toNat).1 : Int), .int ((base1At k.toNat).2.1 : Int), .int ((base1At k.toNat).2.2 + (pickL nums (some k) none (some 9)).sum)]) [Str.ofString "k"] F₄ rm (evIt_range1 (ev_glob (g_range B.at) rfl) ev_int (by decide)) (by kernel_rfl!) (fun _ _ => ⟨rfl, rfl⟩) (fun _ _ => rfl) (fun k hk _ => ?_) (by rw [rangeI_len, sizeLine_val]; decide) fun s₅ R₆ D ys m₅ l₅ hD0 hys F₅ => ?_
  · have hk := rangeI_mem hk
    have hx : base1[k.toNat]? = some (base1At k.toNat) := by
      have : k.toNat < base1.length := by show k.toNat < 9; omega
      unfold base1At
      rw [List.getD_eq_getElem?_getD, List.getElem?_eq_getElem this]; rfl
    have it : ∀ {mu : Reg} {n : Nat} {sc' : Scope} {Δ : Vars} {np p q : Pos}, Δ (Str.ofString "steps") = some (.lst (base1.map encE)) → Δ (Str.ofString "k") = some (.int k) → Ev (C.at mu) n sc' Δ (.Subscript (.Name (Str.ofString "steps") np) (.Name (Str.ofString "k") p) q) (encE (base1At k.toNat)) := fun h1 h2 =>
      ev_sub (ev_name h1) (ev_name h2) (op_itemm (l := base1) (g := encE) hx hk.1 hb9)
    exact ev_tuple (evAll_cons (ev_sub (it rfl rfl) ev_int (op_item_tup (k := 0) rfl (by decide) (by rw [sizeLine_val]; simp))) (evAll_cons (ev_sub (it rfl rfl) ev_int (op_item_tup (k := 1) rfl (by decide) (by rw [sizeLine_val]; simp)))
      (evAll_cons (ev_bin (ev_sub (it rfl rfl) ev_int (op_item_tup (k := 2) rfl (by decide) (by rw [sizeLine_val]; simp))) (ev_callb (ev_glob (g_sum B.at) rfl) (evAll_cons (ev_every (l := nums) (g := Dat.int) (ev_name rfl) (ev_name rfl) ev_int (by decide) hn24) evAll_nil) call_sum) op_add) evAll_nil)))
  have hst1 : ((rangeI 0 9).filter (fun _ => true)).map (fun k => Dat.tup [.int ((base1At k.toNat).1 : Int), .int ((base1At k.toNat).2.1 : Int), .int ((base1At k.toNat).2.2 + (pickL nums (some k) none (some 9)).sum)]) = (steps1 nums).map encE := by
    rw [filter_tt, show (9 : Int) = ((9 : Nat) : Int) from rfl, rangeI_nat, steps1, List.map_map, List.map_map]
    refine List.map_congr_left fun k _ => ?_
    simp [encE]
  rw [hst1] at hys
  have mD : Mu D = none := F₄.noMu hD0
  have dO : D ∉ frs Out := fun h => by obtain ⟨o, e, _⟩ := Lv.obj h; rw [mD] at e; (have q_ := oNS e; clear e; exact q_.elim)
  refine st_for (L := nums.take 6) (enc := Dat.int) (tds := fun x => [.int x]) [Str.ofString "x"] [D] (fun _ => ofL [(Str.ofString "numbers", .lst (nums.map Dat.int)), (Str.ofString "names", .lst (encN (namesN S))), (Str.ofString "many", .int (manyN S : Int)), (Str.ofString "steps", .val (.ref D))])
    (fun i R' M => ∃ ys m, M D = some (lstObj ys m) ∧ RdAll R' ys ((steps1 nums ++ ((nums.take 6).take i).flatMap extra).map encE)) F₅ rm (evIt_lst (ev_upto (l := nums) (g := Dat.int) (ev_name rfl) ev_int (by decide) hn24)) (AllIn.le ⟨rfl, rfl, rfl, rfl, trivial⟩) (fun a ha => by rw [List.mem_singleton.mp ha]; exact ⟨_, Reg.set_self _ _ _⟩) (by decide +kernel) (fun _ _ => ⟨rfl, rfl⟩)
    (fun i Ra Rb Ma Mb hJ hl he => by obtain ⟨ys, m, h1, h2⟩ := hJ; exact ⟨ys, m, (he D (by simp)).trans h1, h2.mono hl⟩) ⟨ys, m₅, Reg.set_self _ _ _, by simpa using hys⟩ ?_ ?_
  · intro i x s₆ R₇ M₆ hi l₆ off₆ F₆ hJ
    refine cps fun Qf hQf => ?_
    obtain ⟨ys, m, h1, h2⟩ := hJ
    have htk : (nums.take 6).take (i + 1) = (nums.take 6).take i ++ [x] := by rw [List.take_add_one, hi]; rfl
    have hstep : steps1 nums ++ ((nums.take 6).take (i + 1)).flatMap extra = (steps1 nums ++ ((nums.take 6).take i).flatMap extra) ++ extra x := by
      rw [htk, List.flatMap_append, List.append_assoc]; simp
    refine st_assign F₆ rm (Ev.cast (d' := .int (extraA x : Int)) (ev_bin (ev_name rfl) ev_int (op_mod (by decide))) (by rw [extraA_int])) fun s₇ R₈ l₇ F₇ => ?_
    refine st_assign F₇ rm (Ev.cast (d' := .int (extraB x : Int)) (ev_bin (ev_bin (ev_name rfl) ev_int (op_div (by decide) (by decide))) ev_int (op_mod (by decide))) (by rw [extraB_int])) fun s₈ R₉ l₈ F₈ => ?_
    refine st_if F₈ rm (evT_cmp (ev_name rfl) (ev_name rfl) op_ne_int) fun s₉ Ra l₉ F₉ => ?_
    by_cases hab : extraA x = extraB x
    · have : ((extraA x : Int) != (extraB x : Int)) = false := by rw [hab]; simp
      rw [this]
      refine st_nil (st_nil (hQf _ _ ⟨Ra, M₆, (l₇.trans l₈).trans l₉, fun _ _ _ e => e, F₉.toL _ ⟨rfl, rfl, rfl, rfl, trivial⟩, ys, m, h1, ?_⟩))
      rw [hstep, show extra x = [] from by unfold extra; rw [if_pos hab], List.append_nil]
      exact h2.mono ((l₇.trans l₈).trans l₉)
    · have : ((extraA x : Int) != (extraB x : Int)) = true := by simp; omega
      rw [this]
      have hyl : ys.length ≤ sizeLine := by
        rw [h2.length, List.length_map, sizeLine_val]
        have := stepsI_len nums
        have e : (steps1 nums ++ ((nums.take 6).take i).flatMap extra).length ≤ 9 + 6 := by
          have q : ∀ l : List Int, (l.flatMap extra).length ≤ l.length := fun l => by
            induction l with
            | nil => simp
            | cons x l ih =>
              rw [List.flatMap_cons, List.length_append, List.length_cons]
              have : (extra x).length ≤ 1 := by unfold extra; split <;> simp
              omega
          have q := q ((nums.take 6).take i)
          rw [List.length_take, List.length_take] at q
          rw [List.length_append, steps1, List.length_map, List.length_range]
          omega
        omega
      refine st_expr (mlist_append (d := encE (min (extraA x) (extraB x), max (extraA x) (extraB x), x.fdiv 49)) F₉ rm (ev_name rfl) (Ev.cast (ev_tuple (evAll_cons (ev_callb (ev_glob (g_min B.at) rfl) (evAll_cons (ev_name rfl) (evAll_cons (ev_name rfl) evAll_nil)) call_min) (evAll_cons (ev_callb (ev_glob (g_max B.at) rfl) (evAll_cons (ev_name rfl) (evAll_cons (ev_name rfl) evAll_nil)) call_max) (evAll_cons (ev_bin (ev_name rfl) ev_int (op_div (by decide) (by decide))) evAll_nil)))) ?_) h1 hyl fun sa Rb v m' la hv Fa => ?_) F₉.quiet
      · unfold encE
        rw [show min (extraA x : Int) (extraB x : Int) = ((min (extraA x) (extraB x) : Nat) : Int) from by omega, show max (extraA x : Int) (extraB x : Int) = ((max (extraA x) (extraB x) : Nat) : Int) from by omega]
      · refine st_nil (st_nil (hQf _ _ ⟨Rb, _, ((l₇.trans l₈).trans l₉).trans la, keepsOff_set (by simp), Fa.toL _ ⟨rfl, rfl, rfl, rfl, trivial⟩, ys ++ [v], m', Reg.set_self _ _ _, ?_⟩))
        rw [hstep, show extra x = [_] from by unfold extra; rw [if_neg hab], List.map_append]
        exact (h2.mono (((l₇.trans l₈).trans l₉).trans la)).append (.cons hv .nil)
  · intro s₆ R₇ M₆ l₆ off₆ F₆ hJ
    obtain ⟨ys, m, h1, h2⟩ := hJ
    rw [List.take_length] at h2
    have F₇ := F₆.freeze h1 dO
    have le₇ := F₆.freeze_le h1
    have F₈ := F₇.reread (x := Str.ofString "steps") (d := .lst ((stepsI nums).map encE)) rfl (.lst (Reg.set_self _ _ _) ⟨rfl, rfl⟩ rfl (h2.mono le₇))
    have U₈ : UpTo (frs Out) Mu (M₆.del D) := .of fun a ha o e => by
      have hne : a ≠ D := fun h => dO (h ▸ ha)
      simp only [Reg.del, hne, if_false]
      exact off₆ a o (by simpa using hne) (by rw [Reg.set_ne _ _ hne]; exact e)
    have h7 : (namesN S).length ≤ sizeLine := by rw [sizeLine_val]; simp [namesN]
    have nm : ∀ k : Nat, k < 7 → (namesN S)[((k : Nat) : Int).toNat]? = some (nameN S k) := fun k hk => by
      show (namesN S)[k]? = _
      simp [namesN, List.getElem?_range hk]
    refine st_lc0 (L := stepsI nums) (enc := encE) (tds := fun e => [.int (e.1 : Int), .int (e.2.1 : Int), .int e.2.2]) (f := fun e => encE (nameN S e.1, nameN S e.2.1, e.2.2)) [Str.ofString "a", Str.ofString "b", Str.ofString "weight"] F₈ rm (evIt_lst (ev_name rfl)) (by kernel_rfl!) (fun e _ => ⟨rfl, rfl, [_, _, _], rfl, rfl⟩) (fun e he => ?_) (by rw [sizeLine_val]; have := stepsI_len nums; omega) fun s₉ R₈ l₉ F₉ => ?_
    · have hlt := stepsI_lt nums e he
      exact ev_tuple (evAll_cons (ev_sub (ev_name rfl) (ev_name rfl) (op_itemm (l := namesN S) (g := fun (k : Nat) => Dat.int (k : Int)) (nm e.1 (by omega)) (by omega) h7)) (evAll_cons (ev_sub (ev_name rfl) (ev_name rfl) (op_itemm (l := namesN S) (g := fun (k : Nat) => Dat.int (k : Int)) (nm e.2.1 (by omega)) (by omega) h7)) (evAll_cons (ev_name rfl) evAll_nil)))
    rw [show (stepsI nums).map (fun e => encE (nameN S e.1, nameN S e.2.1, e.2.2)) = (named S (stepsI nums)).map encE from by simp [named, Function.comp_def]] at F₉
    refine st_assign F₉ rm (Ev.cast (d' := .lst (encN ((namesN S).take (manyN S)))) (ev_upto (l := namesN S) (g := fun (k : Nat) => Dat.int (k : Int)) (ev_name rfl) (ev_name rfl) (by omega) h7) rfl) fun sa Ra la Fa => ?_
    refine st_assign Fa rm (Ev.cast (d' := .lst (encN ((namesN S).drop (7 - manyN S)))) (ev_from (l := namesN S) (g := fun (k : Nat) => Dat.int (k : Int)) (ev_name rfl) (ev_bin ev_int (ev_name rfl) op_sub) (by have := manyN_or S; omega) h7) (by rw [show ((7 : Int) - (manyN S : Int)).toNat = 7 - manyN S from by omega])) fun sb Rb lb Fb => ?_
    refine st_set Fb (Fb.callBy rm (f := 160) (ev_glob (g_rows B.at) rfl) (Fb.ro.base _ _ (B.K 160 _ rfl)) rfl (evAll_cons (ev_name rfl) (evAll_cons (ev_name rfl) evAll_nil)) fun vs sc Rc lc hvs Fc => Fc.mcall rm hfr hf (Lv.up U₈) hvs ((rows_spec B H).le (by omega)) fun v sd Rd' Md ld hv Fd offd upd' => ⟨Rd', Md, _, Fd, hv, fun se Fe => ?_⟩)
    have hm := manyN_or S
    have hm7 : manyN S ≤ 7 := by omega
    have hnl7 : ∀ k ∈ namesN S, k < 7 := fun k hk => by
      obtain ⟨p, _, rfl⟩ := List.mem_map.mp hk; exact nameN_lt S p
    have hel : ((namesN S).drop (7 - manyN S)).length = manyN S := by rw [List.length_drop]; simp [namesN]; omega
    have hsl : ((namesN S).take (manyN S)).length = manyN S := by rw [List.length_take]; simp [namesN]; omega
    generalize hends : (namesN S).drop (7 - manyN S) = ends at Fe hel ⊢
    have hen : ∀ e ∈ ends, e < 7 := fun e he => hnl7 e (List.mem_of_mem_drop (hends ▸ he))
    generalize hE : named S (stepsI nums) = E at Fe H ⊢
    have hElen : E.length ≤ 15 := H.few
    refine st_lc0 (L := rangeI 0 ((manyN S : Nat) : Int)) (enc := Dat.int) (tds := fun k => [.int k]) (f := fun k => encI (ends.map fun e => (fl e).getD k.toNat 0)) [Str.ofString "k"] Fe rm (evIt_range1 (ev_glob (g_range B.at) rfl) (ev_name rfl) (by omega)) (by kernel_rfl!) (fun _ _ => ⟨rfl, rfl⟩) (fun k hk => ?_) (by rw [rangeI_len, sizeLine_val]; omega) fun sf Rf lf Ff => ?_
    · have hk := rangeI_mem hk
      refine Ev.cast (ev_lc0 (L := ends) (enc := fun (e : Nat) => Dat.int (e : Int)) (tds := fun (e : Nat) => [.int (e : Int)]) (f := fun e => .int ((fl e).getD k.toNat 0)) [Str.ofString "end"] (evIt_lst (ev_name rfl)) (by kernel_rfl!) (fun _ _ => ⟨rfl, rfl⟩) (fun e he => ?_) (by rw [hel, sizeLine_val]; omega)) (by simp [encI])
      have he7 := hen e he
      exact ev_sub (ev_sub (ev_name rfl) (ev_name rfl) (op_itemm (l := List.range 7) (g := fun p => encI (fl p)) (x := e) (by show (List.range 7)[e]? = some e; simp [List.getElem?_range he7]) (by omega) (by rw [sizeLine_val]; simp))) (ev_name rfl) (op_itemm (l := fl e) (g := Dat.int) (getD_some (by rw [H.len e he7, hsl]; omega)) hk.1 (by rw [H.len e he7, hsl, sizeLine_val]; omega))
    rw [show (rangeI 0 ((manyN S : Nat) : Int)).map (fun k => encI (ends.map fun e => (fl e).getD k.toNat 0)) = (tableN fl ends (manyN S)).map encR from by
      rw [rangeI_nat, tableN, List.map_map, List.map_map]
      refine List.map_congr_left fun k _ => ?_
      simp [encI, encR]] at Ff
    refine st_lc0 (L := rangeI 0 7) (enc := Dat.int) (tds := fun k => [.int k]) (f := fun p => .lst (((E.filter fun e => ((e.1 : Int) == p)).map fun e => ((e.2.1 : Int), e.2.2)).map encP)) [Str.ofString "place"] Ff rm (evIt_range1 (ev_glob (g_range B.at) rfl) ev_int (by decide)) (by kernel_rfl!) (fun _ _ => ⟨rfl, rfl⟩) (fun p hp => ?_) (by rw [rangeI_len, sizeLine_val]; decide) fun sg Rg lg Fg => ?_
    · exact Ev.cast (ev_lc (L := E) (enc := encE) (tds := fun e => [.int (e.1 : Int), .int (e.2.1 : Int), .int e.2.2]) (p := fun e => ((e.1 : Int) == p)) (f := fun e => .tup [.int (e.2.1 : Int), .int e.2.2]) [Str.ofString "a", Str.ofString "b", Str.ofString "weight"] (evIt_lst (ev_name rfl)) (by kernel_rfl!) (fun e _ => ⟨rfl, rfl, [_, _, _], rfl, rfl⟩)
        (fun e _ => evT_cmp (ev_name rfl) (ev_name rfl) op_eq_int) (fun e _ _ => ev_tuple (evAll_cons (ev_name rfl) (evAll_cons (ev_name rfl) evAll_nil))) (by rw [sizeLine_val]; omega)) (by simp [encP, Function.comp_def])
    rw [show (rangeI 0 7).map (fun p => Dat.lst (((E.filter fun e => ((e.1 : Int) == p)).map fun e => ((e.2.1 : Int), e.2.2)).map encP)) = (waysN E).map (fun l => .lst (l.map encP)) from by
      rw [show (7 : Int) = ((7 : Nat) : Int) from rfl, rangeI_nat, waysN, List.map_map, List.map_map]
      refine List.map_congr_left fun p _ => ?_
      simp only [Function.comp]
      congr 3
      refine List.filter_congr fun e _ => ?_
      by_cases h : e.1 = p
      · simp [h]
      · have : ¬ (e.1 : Int) = (p : Int) := fun q => h (Int.ofNat.inj q)
        simp [h, this]] at Fg
    have htab : (tableN fl ends (manyN S)).length = manyN S := by simp [tableN]
    have hrow : ∀ q ∈ tableN fl ends (manyN S), q.length = manyN S ∧ ∀ x ∈ q, Bits (2 ^ 23) x := fun q hq => by
      obtain ⟨k, hk, rfl⟩ := List.mem_map.mp hq
      refine ⟨by rw [List.length_map, hel], fun x hx => ?_⟩
      obtain ⟨e, he, rfl⟩ := List.mem_map.mp hx
      exact getD_bits (H.bits e (hen e he))
    have hways : WaysOk (waysN E) (2 ^ 21) := by
      refine ⟨by simp [waysN], fun l hl => ?_⟩
      obtain ⟨p, hp, rfl⟩ := List.mem_map.mp hl
      refine ⟨by rw [List.length_map]; exact Nat.le_trans (List.length_filter_le _ _) hElen, fun x hx => ?_⟩
      obtain ⟨e, he, rfl⟩ := List.mem_map.mp hx
      have := H.low e (List.mem_filter.mp he).1
      exact ⟨by dsimp only; omega, by dsimp only; omega, this.2.2.2⟩
    have hst0 : ((namesN S).take (manyN S))[(0 : Int).toNat]? = some (nameN S 0) := by
      rcases hm with h | h <;> rw [h] <;> rfl
    have hs7 : ∀ x ∈ ((((namesN S).take (manyN S)).drop 1).map fun (k : Nat) => (k : Int)), 0 ≤ x ∧ x < 7 := fun x hx => by
      obtain ⟨k, hk, rfl⟩ := List.mem_map.mp hx
      have := hnl7 k (List.mem_of_mem_take (List.mem_of_mem_drop hk))
      omega
    have hstl : ((namesN S).take (manyN S)).length ≤ sizeLine := by rw [hsl, sizeLine_val]; omega
    refine st_ret Fg rm (ev_cmp (ev_callf (ev_glob (g_det B.at) rfl) (B.K 165 _ rfl) rfl (evAll_cons (ev_name rfl) evAll_nil) ((det_spec B (manyN S) (tableN fl ends (manyN S)) (by omega) (by omega) (fun q hq => by rw [(hrow q hq).1, htab]) (fun q hq => (hrow q hq).2)).le (by omega)))
      (ev_callf (ev_glob (g_apart B.at) rfl) (B.K 172 _ rfl) rfl (evAll_cons (ev_name rfl) (evAll_cons (ev_sub (ev_name rfl) ev_int (op_itemm (l := (namesN S).take (manyN S)) (g := fun (k : Nat) => Dat.int (k : Int)) hst0 (by decide) hstl)) (evAll_cons (Ev.cast (d' := encI [(nameN S 0 : Int)]) (ev_list (evAll_cons (ev_sub (ev_name rfl) ev_int (op_itemm (l := (namesN S).take (manyN S)) (g := fun (k : Nat) => Dat.int (k : Int)) hst0 (by decide) hstl)) evAll_nil)) rfl)
        (evAll_cons (Ev.cast (d' := encI ((((namesN S).take (manyN S)).drop 1).map fun (k : Nat) => (k : Int))) (ev_from (l := (namesN S).take (manyN S)) (g := fun (k : Nat) => Dat.int (k : Int)) (ev_name rfl) ev_int (by decide) hstl) (by simp [encI, Function.comp_def])) (evAll_cons (Ev.cast (d' := encI (ends.map fun (k : Nat) => (k : Int))) (ev_name rfl) (by simp [encI, Function.comp_def])) evAll_nil)))))
        ((apart_spec B (Nat.le_refl _) hways 6 (by omega) (nameN S 0 : Int) [(nameN S 0 : Int)] _ _ (by omega) (by have := nameN_lt S 0; omega) ⟨by simp, fun x hx => by rw [List.mem_singleton.mp hx]; have := nameN_lt S 0; omega, by simp⟩ hs7 (by rw [List.length_map, List.length_drop, hsl]; omega) (by rw [List.length_map, hel]; omega) (by simp)).le (by omega))) op_eq_int) fun sh Rh v lh Fh hv => ?_
    rw [← hE, ← hends, ← hS, ← hnums] at hv
    exact hQ _ _ ⟨_, _, _, v, rfl, Fh, U₈.trans upd', hv⟩
end
end Mine
end
noncomputable section
/-! ways apart, plain (Lindstroem, Gessel, Viennot): weights W a c, steps go up -/
set_option autoImplicit false
namespace Mine
noncomputable def s7 (f : Nat → Int) : Int := f 0 + f 1 + f 2 + f 3 + f 4 + f 5 + f 6
theorem s7_congr {f g : Nat → Int} (h : ∀ c, c < 7 → f c = g c) : s7 f = s7 g := by
  unfold s7; rw [h 0 (by decide), h 1 (by decide), h 2 (by decide), h 3 (by decide), h 4 (by decide), h 5 (by decide), h 6 (by decide)]
theorem s7_mul (k : Int) (f : Nat → Int) : k * s7 f = s7 fun c => k * f c := by unfold s7; simp only [Int.mul_add]
theorem s7_mul' (k : Int) (f : Nat → Int) : s7 f * k = s7 fun c => f c * k := by unfold s7; simp only [Int.add_mul]
theorem s7_add (f g : Nat → Int) : s7 f + s7 g = s7 fun c => f c + g c := by unfold s7; dsimp only; ac_rfl
theorem s7_sub (f g : Nat → Int) : s7 f - s7 g = s7 fun c => f c - g c := by unfold s7; dsimp only; simp only [Int.sub_eq_add_neg, Int.neg_add]; ac_rfl
theorem s7_zero : s7 (fun _ => 0) = 0 := rfl
theorem s7_swap (f : Nat → Nat → Int) : s7 (fun a => s7 fun b => f a b) = s7 fun b => s7 fun a => f a b := by unfold s7; dsimp only; ac_rfl
theorem s7_one {f : Nat → Int} {a : Nat} (ha : a < 7) (h : ∀ c, c < 7 → c ≠ a → f c = 0) : s7 f = f a := by
  unfold s7
  have : a = 0 ∨ a = 1 ∨ a = 2 ∨ a = 3 ∨ a = 4 ∨ a = 5 ∨ a = 6 := by omega
  rcases this with rfl | rfl | rfl | rfl | rfl | rfl | rfl
  all_goals
    have h0 := h 0; have h1 := h 1; have h2 := h 2; have h3 := h 3; have h4 := h 4; have h5 := h 5; have h6 := h 6
    simp at h0 h1 h2 h3 h4 h5 h6
    simp [*]
section
variable (W : Nat → Nat → Int)
/- all ways on from a, apart from U -/
noncomputable def Fw : Nat → Nat → List Nat → (List Nat → Nat → Int) → Int
  | 0, _, _, _ => 0
  | m + 1, a, U, K => K U a + s7 fun c => if c ∈ U then 0 else W a c * Fw m c (U ++ [c]) K
noncomputable def Fx (a : Nat) (U : List Nat) (K : List Nat → Nat → Int) : Int := Fw W 7 a U K
noncomputable def Pw : Nat → Nat → Nat → Int
  | 0, _, _ => 0
  | m + 1, a, e => (if a = e then 1 else 0) + s7 fun c => W a c * Pw m c e
noncomputable def Px (a e : Nat) : Int := Pw W 7 a e
noncomputable def cutL (k : Nat) (r : List Nat) : List Nat := r.take k ++ r.drop (k + 1)
noncomputable def KK : List Nat → List Nat → List Nat → Nat → Int
  | [], ends, _, a => if a ∈ ends then (-1) ^ ends.idxOf a else 0
  | s :: st, ends, U, a => if a ∈ ends then (if s ∈ U then 0 else (-1) ^ ends.idxOf a * Fx W s (U ++ [s]) (KK st (cutL (ends.idxOf a) ends))) else 0
variable {W : Nat → Nat → Int} (hW : ∀ a c, c ≤ a → W a c = 0)
include hW
theorem Fw_more : ∀ (m a : Nat) (U : List Nat) (K : List Nat → Nat → Int), 7 ≤ m + a → a < 7 → Fw W (m + 1) a U K = Fw W m a U K
  | 0, a, U, K, h, ha => by omega
  | m + 1, a, U, K, h, ha => by
    rw [Fw, Fw]
    congr 1
    refine s7_congr fun c hc => ?_
    by_cases hca : c ≤ a
    · rw [hW a c hca]; simp
    · rw [Fw_more m c (U ++ [c]) K (by omega) hc]
theorem Fw_enough (m a : Nat) (U : List Nat) (K : List Nat → Nat → Int) (h : 7 ≤ m + a) (ha : a < 7) : ∀ k, Fw W (m + k) a U K = Fw W m a U K
  | 0 => rfl
  | k + 1 => by rw [← Nat.add_assoc, Fw_more hW (m + k) a U K (by omega) ha, Fw_enough m a U K h ha k]
theorem Fw_any {m n a : Nat} {U : List Nat} {K : List Nat → Nat → Int} (hm : 7 ≤ m + a) (hn : 7 ≤ n + a) (ha : a < 7) : Fw W m a U K = Fw W n a U K := by
  have h1 := Fw_enough hW m a U K hm ha n
  have h2 := Fw_enough hW n a U K hn ha m
  rw [← h1, ← h2, Nat.add_comm]
theorem Fx_step (a : Nat) (ha : a < 7) (U : List Nat) (K : List Nat → Nat → Int) : Fx W a U K = K U a + s7 fun c => if c ∈ U then 0 else W a c * Fx W c (U ++ [c]) K := by
  unfold Fx
  rw [← Fw_more hW 7 a U K (by omega) ha]
  rw [Fw]
theorem Pw_more : ∀ (m a e : Nat), 7 ≤ m + a → a < 7 → Pw W (m + 1) a e = Pw W m a e
  | 0, a, e, h, ha => by omega
  | m + 1, a, e, h, ha => by
    rw [Pw, Pw]
    congr 1
    refine s7_congr fun c hc => ?_
    by_cases hca : c ≤ a
    · rw [hW a c hca]; simp
    · rw [Pw_more m c e (by omega) hc]
theorem Px_step (a e : Nat) (ha : a < 7) : Px W a e = (if a = e then 1 else 0) + s7 fun c => W a c * Px W c e := by
  unfold Px
  rw [← Pw_more hW 7 a e (by omega) ha]
  rw [Pw]
/- by the last step -/
theorem Px_last (e : Nat) (he : e < 7) : ∀ (m a : Nat), 7 ≤ m + a → a < 7 → Px W a e = (if a = e then 1 else 0) + s7 fun b => Px W a b * W b e
  | 0, a, h, ha => by omega
  | m + 1, a, h, ha => by
    have h1 : (s7 fun c => W a c * Px W c e) = s7 fun c => W a c * ((if c = e then 1 else 0) + s7 fun b => Px W c b * W b e) := s7_congr fun c hc => by
      by_cases hca : c ≤ a
      · rw [hW a c hca]; simp
      · rw [Px_last e he m c (by omega) hc]
    have h2 : (s7 fun c => W a c * ((if c = e then 1 else 0) + s7 fun b => Px W c b * W b e)) = W a e + s7 fun b => (s7 fun c => W a c * Px W c b) * W b e := by
      have e1 : (fun c => W a c * ((if c = e then 1 else 0) + s7 fun b => Px W c b * W b e)) = fun c => W a c * (if c = e then 1 else 0) + s7 fun b => W a c * Px W c b * W b e := by
        funext c; rw [Int.mul_add, s7_mul]; congr 2; funext b; rw [Int.mul_assoc]
      have e2 : (fun b => (s7 fun c => W a c * Px W c b) * W b e) = fun b => s7 fun c => W a c * Px W c b * W b e := by funext b; rw [s7_mul']
      rw [e1, e2, ← s7_add, s7_swap]
      congr 1
      rw [s7_one he]
      · simp
      · intro c _ hc; simp [hc]
    have h3 : (s7 fun b => Px W a b * W b e) = s7 fun b => (if a = b then 1 else 0) * W b e + (s7 fun c => W a c * Px W c b) * W b e := s7_congr fun b hb => by rw [← Int.add_mul, ← Px_step hW a b ha]
    rw [Px_step hW a e ha, h1, h2, h3, ← s7_add]
    congr 2
    rw [s7_one ha]
    · simp
    · intro c _ hc; simp [Ne.symm hc]
end
end Mine
end
noncomputable section
set_option autoImplicit false
namespace Mine
noncomputable def Sim (m : Nat) (U U' : List Nat) : Prop := ∀ x, m < x → (x ∈ U ↔ x ∈ U')
theorem Sim.push {m : Nat} {U U' : List Nat} (h : Sim m U U') (c : Nat) : Sim m (U ++ [c]) (U' ++ [c]) := fun x hx => by simp [h x hx]
theorem Sim.drop {m : Nat} {U : List Nat} (c : Nat) : Sim m (U ++ [m] ++ [c]) (U ++ [c]) := fun x hx => by
  have : x ≠ m := by omega
  simp [this]
theorem cutL_sub {k x : Nat} {r : List Nat} (h : x ∈ cutL k r) : x ∈ r := by
  rcases List.mem_append.mp h with h | h
  · exact List.mem_of_mem_take h
  · exact List.mem_of_mem_drop h
section
variable {W : Nat → Nat → Int} (hW : ∀ a c, c ≤ a → W a c = 0)
include hW
theorem Fw_sim {K : List Nat → Nat → Int} {m : Nat} (hK : ∀ U U' x, Sim m U U' → K U x = K U' x) : ∀ (n a : Nat) (U U' : List Nat), m ≤ a → Sim m U U' → Fw W n a U K = Fw W n a U' K
  | 0, _, _, _, _, _ => rfl
  | n + 1, a, U, U', ha, h => by
    rw [Fw, Fw, hK U U' a h]
    congr 1
    refine s7_congr fun c _ => ?_
    by_cases hc : c ≤ a
    · rw [hW a c hc]; simp
    · rw [Fw_sim hK n c _ _ (by omega) (h.push c)]
      have := h c (by omega)
      by_cases hcu : c ∈ U
      · rw [if_pos hcu, if_pos (this.mp hcu)]
      · rw [if_neg hcu, if_neg fun q => hcu (this.mpr q)]
theorem KK_sim {m : Nat} : ∀ (t ends : List Nat) (U U' : List Nat) (x : Nat), (∀ s ∈ t, m < s) → Sim m U U' → KK W t ends U x = KK W t ends U' x
  | [], ends, U, U', x, _, _ => rfl
  | s :: st, ends, U, U', x, ht, h => by
    rw [KK, KK]
    have hs := ht s (by simp)
    have hu := h s hs
    have := Fw_sim hW (K := KK W st (cutL (ends.idxOf x) ends)) (m := m) (fun U U' y hh => KK_sim st _ U U' y (fun z hz => ht z (by simp [hz])) hh) 7 s (U ++ [s]) (U' ++ [s]) (by omega) (h.push s)
    unfold Fx
    rw [this]
    by_cases hcu : s ∈ U
    · rw [if_pos hcu, if_pos (hu.mp hcu)]
    · rw [if_neg hcu, if_neg fun q => hcu (hu.mpr q)]
omit hW in
theorem KK_out {t ends : List Nat} {U : List Nat} {x : Nat} (h : x ∉ ends) : KK W t ends U x = 0 := by
  cases t <;> simp [KK, h]
theorem Fw_lin {K : List Nat → Nat → Int} {Kc : Nat → List Nat → Nat → Int} {m : Nat} (hK : ∀ U x, m ∉ U → K U x = s7 fun c => W m c * Kc c U x) : ∀ (n a : Nat) (U : List Nat), m < a → m ∉ U → Fw W n a U K = s7 fun c => W m c * Fw W n a U (Kc c)
  | 0, _, _, _, _ => by
    show 0 = s7 fun c => W m c * 0
    unfold s7; simp
  | n + 1, a, U, ha, hu => by
    have h1 : (s7 fun c => if c ∈ U then 0 else W a c * Fw W n c (U ++ [c]) K) = s7 fun c => s7 fun d => W m d * (if c ∈ U then 0 else W a c * Fw W n c (U ++ [c]) (Kc d)) := s7_congr fun c _ => by
      by_cases hc : c ≤ a
      · rw [hW a c hc]; simp [s7]
      · by_cases hcu : c ∈ U
        · simp [hcu, s7]
        · simp only [hcu, if_false]
          rw [Fw_lin hK n c (U ++ [c]) (by omega) (by simp [hu]; omega), s7_mul]
          exact s7_congr fun d _ => by rw [← Int.mul_assoc, ← Int.mul_assoc, Int.mul_comm (W a c)]
    rw [Fw, hK U a hu, h1, s7_swap, s7_add]
    refine s7_congr fun d _ => ?_
    rw [Fw, Int.mul_add, s7_mul]
theorem KK_lin {m : Nat} (hm : m < 7) : ∀ (t ends : List Nat) (i : Nat), t[i]? = some m → (∀ j s, j ≠ i → t[j]? = some s → m < s) → m ∉ ends → ∀ (U : List Nat) (x : Nat), m ∉ U → KK W t ends U x = s7 fun c => W m c * KK W (t.set i c) ends U x
  | [], ends, i, h, _, _, _, _, _ => by simp at h
  | s :: st, ends, 0, h, ht, he, U, x, hu => by
    simp at h
    subst h
    simp only [List.set_cons_zero]
    simp only [KK]
    by_cases hx : x ∈ ends
    · simp only [hx, if_true, hu, if_false]
      have hst : ∀ z ∈ st, s < z := fun z hz => by
        obtain ⟨j, hj⟩ := List.mem_iff_getElem?.mp hz
        exact ht (j + 1) z (by omega) (by simpa using hj)
      rw [Fx_step hW s hm, KK_out (fun q => he (cutL_sub q)), Int.zero_add, s7_mul]
      refine s7_congr fun c hc => ?_
      by_cases hcs : c ≤ s
      · rw [hW s c hcs]; simp
      · have hcu : c ∈ U ++ [s] ↔ c ∈ U := by
          have : c ≠ s := by omega
          simp [this]
        by_cases hcu' : c ∈ U
        · rw [if_pos (hcu.mpr hcu'), if_pos hcu']; simp
        · rw [if_neg fun q => hcu' (hcu.mp q), if_neg hcu']
          have := Fw_sim hW (K := KK W st (cutL (ends.idxOf x) ends)) (m := s) (fun U U' y hh => KK_sim hW st _ U U' y hst hh) 7 c _ _ (by omega) (Sim.drop (U := U) c)
          unfold Fx
          rw [this, ← Int.mul_assoc, ← Int.mul_assoc, Int.mul_comm (W s c)]
    · simp [hx, s7]
  | s :: st, ends, i + 1, h, ht, he, U, x, hu => by
    simp only [List.getElem?_cons_succ] at h
    simp only [List.set_cons_succ, KK]
    have hs : m < s := ht 0 s (by omega) rfl
    by_cases hx : x ∈ ends
    · by_cases hsu : s ∈ U
      · simp [hx, hsu, s7]
      · simp only [hx, hsu, if_true, if_false]
        have := Fw_lin hW (K := KK W st (cutL (ends.idxOf x) ends)) (Kc := fun c => KK W (st.set i c) (cutL (ends.idxOf x) ends)) (m := m) (fun U x hu => KK_lin hm st _ i h (fun j z hj hz => ht (j + 1) z (by omega) (by simpa using hz)) (fun q => he (cutL_sub q)) U x hu) 7 s (U ++ [s]) hs (by simp [hu]; omega)
        unfold Fx
        rw [this, s7_mul]
        exact s7_congr fun c _ => by rw [← Int.mul_assoc, ← Int.mul_assoc, Int.mul_comm (W m c)]
    · simp [hx, s7]
omit hW in
theorem Fw_zero {K : List Nat → Nat → Int} {s : Nat} (hK : ∀ U x, s ∈ U → K U x = 0) : ∀ (n a : Nat) (U : List Nat), s ∈ U → Fw W n a U K = 0
  | 0, _, _, _ => rfl
  | n + 1, a, U, h => by
    rw [Fw, hK U a h, Int.zero_add, ← s7_zero]
    refine s7_congr fun c _ => ?_
    rw [Fw_zero hK n c (U ++ [c]) (by simp [h])]; simp [s7]
omit hW in
theorem Fw_nil {K : List Nat → Nat → Int} (hK : ∀ U x, K U x = 0) : ∀ (n a : Nat) (U : List Nat), Fw W n a U K = 0
  | 0, _, _ => rfl
  | n + 1, a, U => by
    rw [Fw, hK U a, Int.zero_add, ← s7_zero]
    refine s7_congr fun c _ => ?_
    rw [Fw_nil hK n c (U ++ [c])]; simp [s7]
omit hW in
theorem KK_zero {s : Nat} : ∀ (t ends : List Nat), s ∈ t → ∀ (U : List Nat) (x : Nat), s ∈ U → KK W t ends U x = 0
  | [], _, h, _, _, _ => by cases h
  | z :: st, ends, h, U, x, hu => by
    rw [KK]
    by_cases hx : x ∈ ends
    · rcases List.mem_cons.mp h with rfl | h
      · simp [hu]
      · by_cases hz : z ∈ U
        · simp [hz]
        · have := Fw_zero (W := W) (K := KK W st (cutL (ends.idxOf x) ends)) (s := s) (fun U x hu => KK_zero st _ h U x hu) 7 z (U ++ [z]) (by simp [hu])
          unfold Fx
          rw [this]; simp
    · simp [hx]
omit hW in
theorem KK_dup {ends : List Nat} {b : Nat} {U : List Nat} {x : Nat} : KK W [b, b] ends U x = 0 := by
  rw [KK]
  have := Fw_zero (W := W) (K := KK W [b] (cutL (ends.idxOf x) ends)) (s := b) (fun U x hu => KK_zero [b] _ (by simp) U x hu) 7 b (U ++ [b]) (by simp)
  unfold Fx
  rw [this]; simp
theorem Fx6 (U : List Nat) (K : List Nat → Nat → Int) : Fx W 6 U K = K U 6 := by
  rw [Fx_step hW 6 (by decide)]; unfold s7
  simp [hW 6 0, hW 6 1, hW 6 2, hW 6 3, hW 6 4, hW 6 5, hW 6 6]
theorem Fx5 (U : List Nat) (K : List Nat → Nat → Int) : Fx W 5 U K = K U 5 + if 6 ∈ U then 0 else W 5 6 * K (U ++ [6]) 6 := by
  rw [Fx_step hW 5 (by decide)]; unfold s7
  simp [hW 5 0, hW 5 1, hW 5 2, hW 5 3, hW 5 4, hW 5 5, Fx6 hW]
theorem Fx4 (U : List Nat) (K : List Nat → Nat → Int) : Fx W 4 U K = K U 4 + (if 5 ∈ U then 0 else W 4 5 * Fx W 5 (U ++ [5]) K) + (if 6 ∈ U then 0 else W 4 6 * K (U ++ [6]) 6) := by
  rw [Fx_step hW 4 (by decide)]; unfold s7
  simp [hW 4 0, hW 4 1, hW 4 2, hW 4 3, hW 4 4, Fx6 hW]
  omega
theorem Px_low (a e : Nat) (ha : a < 7) (h : e < a) : Px W a e = 0 := by
  have : ∀ (m a : Nat), e < a → Pw W m a e = 0 := fun m => by
    induction m with
    | zero => intro a _; rfl
    | succ m ih =>
      intro a h
      rw [Pw, if_neg (by omega), Int.zero_add, ← s7_zero]
      refine s7_congr fun c _ => ?_
      by_cases hc : c ≤ a
      · rw [hW a c hc]; simp
      · rw [ih c (by omega)]; simp
  exact this 7 a h
theorem Px_self (a : Nat) (ha : a < 7) : Px W a a = 1 := by
  rw [Px_step hW a a ha, if_pos rfl]
  have : (s7 fun c => W a c * Px W c a) = 0 := by
    rw [← s7_zero]
    refine s7_congr fun c hc => ?_
    by_cases hca : c ≤ a
    · rw [hW a c hca]; simp
    · rw [Px_low hW c a hc (by omega)]; simp
  rw [this]; rfl
theorem Px_up (a e : Nat) (ha : a < 7) (h : a < e) : Px W a e = s7 fun c => W a c * Px W c e := by
  rw [Px_step hW a e ha, if_neg (by omega), Int.zero_add]
theorem Px56 : Px W 5 6 = W 5 6 := by
  rw [Px_up hW 5 6 (by decide) (by decide)]; unfold s7
  simp [hW 5 0, hW 5 1, hW 5 2, hW 5 3, hW 5 4, hW 5 5, Px_self hW 6]
theorem Px45 : Px W 4 5 = W 4 5 := by
  rw [Px_up hW 4 5 (by decide) (by decide)]; unfold s7
  simp [hW 4 0, hW 4 1, hW 4 2, hW 4 3, hW 4 4, Px_self hW 5, Px_low hW 6 5]
theorem Px46 : Px W 4 6 = W 4 5 * W 5 6 + W 4 6 := by
  rw [Px_up hW 4 6 (by decide) (by decide)]; unfold s7
  simp [hW 4 0, hW 4 1, hW 4 2, hW 4 3, hW 4 4, Px_self hW 6, Px56 hW]
end
end Mine
end
noncomputable section
set_option autoImplicit false
namespace Mine
section
variable {W : Nat → Nat → Int} (hW : ∀ a c, c ≤ a → W a c = 0)
noncomputable def D2 (W : Nat → Nat → Int) (a b : Nat) : Int := Px W a 5 * Px W b 6 - Px W a 6 * Px W b 5
noncomputable def D3 (W : Nat → Nat → Int) (a b c : Nat) : Int := Px W a 4 * (Px W b 5 * Px W c 6 - Px W b 6 * Px W c 5) - Px W a 5 * (Px W b 4 * Px W c 6 - Px W b 6 * Px W c 4) + Px W a 6 * (Px W b 4 * Px W c 5 - Px W b 5 * Px W c 4)
theorem lin2 (w A B : Nat → Int) (k l : Int) : (s7 fun c => w c * (A c * k - B c * l)) = (s7 fun c => w c * A c) * k - (s7 fun c => w c * B c) * l := by
  rw [s7_mul', s7_mul', s7_sub]
  exact s7_congr fun c _ => by rw [Int.mul_sub, Int.mul_assoc, Int.mul_assoc]
theorem lin3 (w A B D : Nat → Int) (k l m : Int) : (s7 fun c => w c * (A c * k - B c * l + D c * m)) = (s7 fun c => w c * A c) * k - (s7 fun c => w c * B c) * l + (s7 fun c => w c * D c) * m := by
  rw [s7_mul', s7_mul', s7_mul', s7_sub, s7_add]
  exact s7_congr fun c _ => by rw [Int.mul_add, Int.mul_sub, Int.mul_assoc, Int.mul_assoc, Int.mul_assoc]
theorem D2_sym (a b : Nat) : D2 W a b = - D2 W b a := by unfold D2; rw [Int.mul_comm (Px W b 5), Int.mul_comm (Px W b 6)]; omega
theorem D3_r1 (a b c : Nat) : D3 W a b c = - D3 W b a c := by unfold D3; grind
theorem D3_r2 (a b c : Nat) : D3 W a b c = D3 W c a b := by unfold D3; grind
theorem D3_same (a c : Nat) : D3 W a a c = 0 := by have := D3_r1 (W := W) a a c; omega
theorem s7_neg (w f : Nat → Int) : (s7 fun c => w c * - f c) = - s7 fun c => w c * f c := by unfold s7; simp only [Int.mul_neg]; omega
theorem D2_row {a b : Nat} (h5 : Px W a 5 = s7 fun c => W a c * Px W c 5) (h6 : Px W a 6 = s7 fun c => W a c * Px W c 6) : (s7 fun c => W a c * D2 W c b) = D2 W a b := by
  unfold D2; rw [h5, h6]; exact lin2 _ _ _ _ _
theorem D3_row {a b c : Nat} (h4 : Px W a 4 = s7 fun x => W a x * Px W x 4) (h5 : Px W a 5 = s7 fun x => W a x * Px W x 5) (h6 : Px W a 6 = s7 fun x => W a x * Px W x 6) : (s7 fun x => W a x * D3 W x b c) = D3 W a b c := by
  unfold D3; rw [h4, h5, h6]; exact lin3 _ _ _ _ _ _ _
noncomputable def Clean (a : Nat) (U : List Nat) (h : List Nat) : Prop := a ∈ U ∧ ∀ u ∈ U, u = a ∨ ∀ x ∈ h, u < x
theorem Clean.step {a c : Nat} {U t : List Nat} (h : Clean a U (a :: t)) (hc : a < c) (ht : ∀ x ∈ t, a < x) : c ∉ U ∧ Clean c (U ++ [c]) (c :: t) := by
  refine ⟨fun hu => ?_, by simp, fun u hu => ?_⟩
  · rcases h.2 c hu with q | q
    · omega
    · have := q a (by simp); omega
  · rcases List.mem_append.mp hu with hu | hu
    · refine .inr fun x hx => ?_
      rcases h.2 u hu with q | q
      · subst q
        rcases List.mem_cons.mp hx with rfl | hx
        · exact hc
        · exact ht x hx
      · rcases List.mem_cons.mp hx with rfl | hx
        · have := q a (by simp); omega
        · exact q x (by simp [hx])
    · exact .inl (List.mem_singleton.mp hu)
theorem Clean.set {a m c : Nat} {U t : List Nat} {i : Nat} (h : Clean a U (a :: t)) (hm : m ∈ t) (hc : m < c) : Clean a U (a :: t.set i c) := by
  refine ⟨h.1, fun u hu => ?_⟩
  rcases h.2 u hu with q | q
  · exact .inl q
  · refine .inr fun x hx => ?_
    rcases List.mem_cons.mp hx with rfl | hx
    · exact q x (by simp)
    · rcases List.mem_or_eq_of_mem_set hx with hx | rfl
      · exact q x (by simp [hx])
      · have := q m (by simp [hm]); omega
theorem Clean.out {a m : Nat} {U t : List Nat} (h : Clean a U (a :: t)) (hm : m ∈ t) (hma : m ≠ a) : m ∉ U := fun hu => by
  rcases h.2 m hu with q | q
  · exact hma q
  · have := q m (by simp [hm]); omega
omit hW in
theorem top3 {a : Nat} (h : a < 7) (h4 : 4 ≤ a) : a = 4 ∨ a = 5 ∨ a = 6 := by omega
omit hW in
theorem perm3 {a b c : Nat} (ha : a < 7) (hb : b < 7) (hc : c < 7) (h : 4 ≤ a ∧ 4 ≤ b ∧ 4 ≤ c) (hab : ¬ a = b) (hac : ¬ a = c) (hbc : ¬ b = c) : (a = 4 ∧ b = 5 ∧ c = 6) ∨ (a = 4 ∧ b = 6 ∧ c = 5) ∨ (a = 5 ∧ b = 4 ∧ c = 6) ∨ (a = 5 ∧ b = 6 ∧ c = 4) ∨ (a = 6 ∧ b = 4 ∧ c = 5) ∨ (a = 6 ∧ b = 5 ∧ c = 4) := by
  rcases top3 ha h.1 with rfl | rfl | rfl <;> rcases top3 hb h.2.1 with rfl | rfl | rfl <;> rcases top3 hc h.2.2 with rfl | rfl | rfl <;> first | exact absurd rfl hab | exact absurd rfl hac | exact absurd rfl hbc | decide
omit hW in
theorem least3 {a b c : Nat} (h : ¬ (4 ≤ a ∧ 4 ≤ b ∧ 4 ≤ c)) (hab : ¬ a = b) (hac : ¬ a = c) (hbc : ¬ b = c) : (a < b ∧ a < c ∧ a < 4) ∨ (b < a ∧ b < c ∧ b < 4) ∨ (c < a ∧ c < b ∧ c < 4) := by
  by_cases h1 : a < b
  · by_cases h2 : a < c
    · exact .inl ⟨h1, h2, by omega⟩
    · exact .inr (.inr ⟨by omega, by omega, by omega⟩)
  · by_cases h2 : b < c
    · exact .inr (.inl ⟨by omega, h2, by omega⟩)
    · exact .inr (.inr ⟨by omega, by omega, by omega⟩)
include hW
theorem main2 : ∀ (N a b : Nat) (U : List Nat), 14 ≤ N + a + b → a < 7 → b < 7 → Clean a U [a, b] → Fx W a U (KK W [b] [5, 6]) = D2 W a b := by
  intro N
  induction N with
  | zero => intro a b U h ha hb _; omega
  | succ N ih =>
    intro a b U h ha hb cl
    have hbU : b ≠ a → b ∉ U := cl.out (by simp)
    rcases Nat.lt_trichotomy a b with hab | rfl | hab
    · by_cases h5 : a < 5
      · have e : (s7 fun c => if c ∈ U then 0 else W a c * Fx W c (U ++ [c]) (KK W [b] [5, 6])) = s7 fun c => W a c * D2 W c b := s7_congr fun c hc => by
          by_cases hca : c ≤ a
          · rw [hW a c hca]; simp
          · obtain ⟨hcu, cl'⟩ := cl.step (c := c) (by omega) (by simpa using hab)
            rw [if_neg hcu, ih c b _ (by omega) hc hb cl']
        rw [Fx_step hW a ha, KK_out (by simp; omega), Int.zero_add, e]
        exact D2_row (Px_up hW a 5 ha h5) (Px_up hW a 6 ha (by omega))
      · have : a = 5 ∧ b = 6 := by omega
        obtain ⟨rfl, rfl⟩ := this
        have hb6 := hbU (by decide)
        rw [Fx5 hW]
        simp [KK, cutL, Fx6 hW, hb6, D2, Px_self hW 5, Px_self hW 6, Px_low hW 6 5]
    · have : Fx W a U (KK W [a] [5, 6]) = 0 := Fw_zero (fun U x hu => KK_zero [a] _ (by simp) U x hu) 7 a U cl.1
      rw [this]
      have := D2_sym (W := W) a a
      omega
    · by_cases h5 : b < 5
      · have := Fw_lin hW (K := KK W [b] [5, 6]) (Kc := fun c => KK W [c] [5, 6]) (m := b) (fun U x hu => by
          have := KK_lin hW hb [b] [5, 6] 0 rfl (fun j s hj hs => by
            cases j with
            | zero => exact absurd rfl hj
            | succ j => simp at hs) (by simp; omega) U x hu
          exact this) 7 a U hab (hbU (by omega))
        unfold Fx
        rw [this]
        have e : (s7 fun c => W b c * Fw W 7 a U (KK W [c] [5, 6])) = s7 fun c => W b c * - D2 W c a := s7_congr fun c hc => by
          by_cases hca : c ≤ b
          · rw [hW b c hca]; simp
          · have := ih a c U (by omega) ha hc (cl.set (i := 0) (m := b) (c := c) (by simp) (by omega))
            unfold Fx at this
            rw [this, D2_sym]
        rw [e, s7_neg, D2_row (Px_up hW b 5 hb h5) (Px_up hW b 6 hb (by omega)), ← D2_sym]
      · have : a = 6 ∧ b = 5 := by omega
        obtain ⟨rfl, rfl⟩ := this
        have hb6 := hbU (by decide)
        rw [Fx6 hW]
        simp [KK, cutL, Fx5 hW, hb6, cl.1, D2, Px_self hW 5, Px_self hW 6, Px_low hW 6 5]
        decide
theorem base3 (a b c : Nat) (U : List Nat) (h : (a = 4 ∧ b = 5 ∧ c = 6) ∨ (a = 4 ∧ b = 6 ∧ c = 5) ∨ (a = 5 ∧ b = 4 ∧ c = 6) ∨ (a = 5 ∧ b = 6 ∧ c = 4) ∨ (a = 6 ∧ b = 4 ∧ c = 5) ∨ (a = 6 ∧ b = 5 ∧ c = 4)) (ha : a ∈ U) (hb : b ∉ U) (hc : c ∉ U) :
    Fx W a U (KK W [b, c] [4, 5, 6]) = D3 W a b c := by
  rcases h with ⟨rfl, rfl, rfl⟩ | ⟨rfl, rfl, rfl⟩ | ⟨rfl, rfl, rfl⟩ | ⟨rfl, rfl, rfl⟩ | ⟨rfl, rfl, rfl⟩ | ⟨rfl, rfl, rfl⟩
  all_goals
    simp [KK, cutL, Fx4 hW, Fx5 hW, Fx6 hW, ha, hb, hc, D3, Px_self hW 4, Px_self hW 5, Px_self hW 6, Px_low hW 6 5, Px_low hW 6 4, Px_low hW 5 4, Px45 hW, Px46 hW, Px56 hW, List.idxOf_cons]
theorem main3 : ∀ (N a b c : Nat) (U : List Nat), 21 ≤ N + a + b + c → a < 7 → b < 7 → c < 7 → Clean a U [a, b, c] → Fx W a U (KK W [b, c] [4, 5, 6]) = D3 W a b c := by
  intro N
  induction N with
  | zero => intro a b c U h ha hb hc _; omega
  | succ N ih =>
    intro a b c U h ha hb hc cl
    have hbU : b ≠ a → b ∉ U := cl.out (by simp)
    have hcU : c ≠ a → c ∉ U := cl.out (by simp)
    by_cases eab : a = b
    · subst eab
      have : Fx W a U (KK W [a, c] [4, 5, 6]) = 0 := Fw_zero (fun U x hu => KK_zero [a, c] _ (by simp) U x hu) 7 a U cl.1
      rw [this, D3_same]
    by_cases eac : a = c
    · subst eac
      have : Fx W a U (KK W [b, a] [4, 5, 6]) = 0 := Fw_zero (fun U x hu => KK_zero [b, a] _ (by simp) U x hu) 7 a U cl.1
      rw [this, D3_r2, D3_same]
    by_cases ebc : b = c
    · subst ebc
      have : Fx W a U (KK W [b, b] [4, 5, 6]) = 0 := Fw_nil (fun U x => KK_dup) 7 a U
      rw [this, D3_r2, D3_r2, D3_same]
    by_cases low : 4 ≤ a ∧ 4 ≤ b ∧ 4 ≤ c
    · exact base3 hW a b c U (perm3 ha hb hc low eab eac ebc) cl.1 (hbU (by omega)) (hcU (by omega))
    have hmin : (a < b ∧ a < c ∧ a < 4) ∨ (b < a ∧ b < c ∧ b < 4) ∨ (c < a ∧ c < b ∧ c < 4) := least3 low eab eac ebc
    rcases hmin with ⟨h1, h2, h4⟩ | ⟨h1, h2, h4⟩ | ⟨h1, h2, h4⟩
    · have e : (s7 fun x => if x ∈ U then 0 else W a x * Fx W x (U ++ [x]) (KK W [b, c] [4, 5, 6])) = s7 fun x => W a x * D3 W x b c := s7_congr fun x hx => by
        by_cases hxa : x ≤ a
        · rw [hW a x hxa]; simp
        · obtain ⟨hxu, cl'⟩ := cl.step (c := x) (by omega) (by intro y hy; simp at hy; omega)
          rw [if_neg hxu, ih x b c _ (by omega) hx hb hc cl']
      rw [Fx_step hW a ha, KK_out (by simp; omega), Int.zero_add, e]
      exact D3_row (Px_up hW a 4 ha h4) (Px_up hW a 5 ha (by omega)) (Px_up hW a 6 ha (by omega))
    · have := Fw_lin hW (K := KK W [b, c] [4, 5, 6]) (Kc := fun x => KK W [x, c] [4, 5, 6]) (m := b) (fun U x hu => by
        have := KK_lin hW hb [b, c] [4, 5, 6] 0 rfl (fun j s hj hs => by
          match j, hj, hs with
          | 0, hj, _ => exact absurd rfl hj
          | 1, _, hs => simp at hs; omega
          | j + 2, _, hs => simp at hs) (by simp; omega) U x hu
        exact this) 7 a U h1 (hbU (by omega))
      unfold Fx
      rw [this]
      have e : (s7 fun x => W b x * Fw W 7 a U (KK W [x, c] [4, 5, 6])) = s7 fun x => W b x * - D3 W x a c := s7_congr fun x hx => by
        by_cases hxb : x ≤ b
        · rw [hW b x hxb]; simp
        · have := ih a x c U (by omega) ha hx hc (cl.set (i := 0) (m := b) (c := x) (by simp) (by omega))
          unfold Fx at this
          rw [this, D3_r1]
      rw [e, s7_neg, D3_row (Px_up hW b 4 hb h4) (Px_up hW b 5 hb (by omega)) (Px_up hW b 6 hb (by omega)), ← D3_r1]
    · have := Fw_lin hW (K := KK W [b, c] [4, 5, 6]) (Kc := fun x => KK W [b, x] [4, 5, 6]) (m := c) (fun U x hu => by
        have := KK_lin hW hc [b, c] [4, 5, 6] 1 rfl (fun j s hj hs => by
          match j, hj, hs with
          | 0, _, hs => simp at hs; omega
          | 1, hj, _ => exact absurd rfl hj
          | j + 2, _, hs => simp at hs) (by simp; omega) U x hu
        exact this) 7 a U h1 (hcU (by omega))
      unfold Fx
      rw [this]
      have e : (s7 fun x => W c x * Fw W 7 a U (KK W [b, x] [4, 5, 6])) = s7 fun x => W c x * D3 W x a b := s7_congr fun x hx => by
        by_cases hxc : x ≤ c
        · rw [hW c x hxc]; simp
        · have := ih a b x U (by omega) ha hb hx (cl.set (i := 1) (m := c) (c := x) (by simp) (by omega))
          unfold Fx at this
          rw [this, D3_r2]
      rw [e, D3_row (Px_up hW c 4 hc h4) (Px_up hW c 5 hc (by omega)) (Px_up hW c 6 hc (by omega)), ← D3_r2]
end
end Mine
end
noncomputable section
set_option autoImplicit false
namespace Mine
/-! weights of many edges -/
noncomputable abbrev Edg := Nat × Nat × Int
noncomputable def Wt (E : List Edg) (a c : Nat) : Int := ((E.filter fun e => decide (e.1 = a ∧ e.2.1 = c)).map fun e => e.2.2).sum
theorem Wt_cons (e : Edg) (E : List Edg) (a c : Nat) : Wt (e :: E) a c = (if e.1 = a ∧ e.2.1 = c then e.2.2 else 0) + Wt E a c := by
  unfold Wt
  rw [List.filter_cons]
  by_cases h : e.1 = a ∧ e.2.1 = c <;> simp [h]
theorem Wt_up {E : List Edg} (h : ∀ e ∈ E, e.1 < e.2.1) (a c : Nat) (hc : c ≤ a) : Wt E a c = 0 := by
  induction E with
  | nil => rfl
  | cons e E ih =>
    have he := h e (by simp)
    rw [Wt_cons, ih (fun e he => h e (by simp [he])), if_neg (by omega)]; rfl
theorem sum_out {E : List Edg} (h : ∀ e ∈ E, e.2.1 < 7) (g : Nat → Int) (a : Nat) : ((E.filter fun e => decide (e.1 = a)).map fun e => e.2.2 * g e.2.1).sum = s7 fun c => Wt E a c * g c := by
  induction E with
  | nil => simp [Wt, s7]
  | cons e E ih =>
    have he := h e (by simp)
    have e1 : (s7 fun c => Wt (e :: E) a c * g c) = (s7 fun c => (if e.1 = a ∧ e.2.1 = c then e.2.2 else 0) * g c) + s7 fun c => Wt E a c * g c := by
      rw [s7_add]; exact s7_congr fun c _ => by rw [Wt_cons, Int.add_mul]
    rw [e1, ← ih fun e he => h e (by simp [he]), s7_one he]
    · rw [List.filter_cons]
      by_cases ha : e.1 = a <;> simp [ha]
    · intro c _ hc
      rw [if_neg (by omega), Int.zero_mul]
theorem sum_in {E : List Edg} (h : ∀ e ∈ E, e.1 < 7) (g : Nat → Int) (p : Nat) : ((E.filter fun e => decide (e.2.1 = p)).map fun e => e.2.2 * g e.1).sum = s7 fun b => g b * Wt E b p := by
  induction E with
  | nil => simp [Wt, s7]
  | cons e E ih =>
    have he := h e (by simp)
    have e1 : (s7 fun b => g b * Wt (e :: E) b p) = (s7 fun b => g b * (if e.1 = b ∧ e.2.1 = p then e.2.2 else 0)) + s7 fun b => g b * Wt E b p := by
      rw [s7_add]; exact s7_congr fun c _ => by rw [Wt_cons, Int.mul_add]
    rw [e1, ← ih fun e he => h e (by simp [he]), s7_one he]
    · rw [List.filter_cons]
      by_cases ha : e.2.1 = p
      · simp [ha, Int.mul_comm]
      · simp [ha]
    · intro c _ hc
      rw [if_neg (by omega), Int.mul_zero]
theorem Pw_bits {E : List Edg} {b : Nat} (h : ∀ e ∈ E, e.2.1 < 7 ∧ Bits b e.2.2) (hl : E.length ≤ 15) : ∀ (m a e : Nat), Bits (m * (b + 5) + 1) (Pw (Wt E) m a e)
  | 0, _, _ => Bits.zero _
  | m + 1, a, e => by
    rw [Pw, ← sum_out (fun e he => (h e he).1) (fun c => Pw (Wt E) m c e)]
    have h1 : Bits (b + (m * (b + 5) + 1) + 4) (((E.filter fun e => decide (e.1 = a)).map fun e' => e'.2.2 * Pw (Wt E) m e'.2.1 e).sum) := by
      refine Bits.sum (k := 4) (fun x hx => ?_) ?_
      · obtain ⟨e', he', rfl⟩ := List.mem_map.mp hx
        exact Bits.mul (h e' (List.mem_filter.mp he').1).2 (Pw_bits h hl m _ _)
      · rw [List.length_map]
        exact Nat.le_trans (List.length_filter_le _ _) (by omega)
    have h2 : Bits (b + (m * (b + 5) + 1) + 4) (if a = e then 1 else 0) := by
      split
      · exact Bits.one.mono (by omega)
      · exact Bits.zero _
    exact (Bits.add h2 h1).mono (by rw [Nat.succ_mul]; omega)
/-! other names of the places -/
noncomputable def cN (p : Nat → Nat) (l : List Nat) : List Int := l.map fun k => ((p k : Nat) : Int)
structure Nam (p : Nat → Nat) : Prop where
  lt : ∀ k, p k < 7
  inj : ∀ a b, a < 7 → b < 7 → p a = p b → a = b
section
variable {p : Nat → Nat} (H : Nam p)
include H
theorem cN_mem {l : List Nat} {x : Nat} (hl : ∀ y ∈ l, y < 7) (hx : x < 7) : (cN p l).contains ((p x : Nat) : Int) = decide (x ∈ l) := by
  by_cases h : x ∈ l
  · have : ((p x : Nat) : Int) ∈ cN p l := List.mem_map.mpr ⟨x, h, rfl⟩
    simp [h, this]
  · have : ((p x : Nat) : Int) ∉ cN p l := fun q => by
      obtain ⟨y, hy, e⟩ := List.mem_map.mp q
      have := H.inj y x (hl y hy) hx (by omega)
      exact h (this ▸ hy)
    simp [h, this]
theorem cN_idx {x : Nat} (hx : x < 7) : ∀ {l : List Nat}, (∀ y ∈ l, y < 7) → (cN p l).idxOf ((p x : Nat) : Int) = l.idxOf x
  | [], _ => rfl
  | y :: l, hl => by
    show List.idxOf _ (((p y : Nat) : Int) :: cN p l) = _
    rw [List.idxOf_cons, List.idxOf_cons, cN_idx hx fun z hz => hl z (by simp [hz])]
    by_cases h : y = x
    · subst h; simp
    · have : ¬ ((p y : Nat) : Int) = ((p x : Nat) : Int) := fun q => h (H.inj y x (hl y (by simp)) hx (by omega))
      rw [beq_eq_false_iff_ne.mpr this, beq_eq_false_iff_ne.mpr h]
omit H in
theorem cN_cut (k : Nat) (l : List Nat) : cutR k (cN p l) = cN p (cutL k l) := by simp [cutR, cutL, cN, List.map_take, List.map_drop]
omit H in
theorem cN_push (l : List Nat) (x : Nat) : cN p l ++ [((p x : Nat) : Int)] = cN p (l ++ [x]) := by simp [cN]
/- steps under their names -/
noncomputable def nmd (p : Nat → Nat) (E : List Edg) : List Edg := E.map fun e => (p e.1, p e.2.1, e.2.2)
noncomputable def wysN (E : List Edg) : List (List (Int × Int)) := (List.range 7).map fun q => (E.filter fun e => decide (e.1 = q)).map fun e => ((e.2.1 : Int), e.2.2)
theorem wys_at {E : List Edg} (hE : ∀ e ∈ E, e.1 < e.2.1 ∧ e.2.1 < 7) {a : Nat} (ha : a < 7) : (wysN (nmd p E)).getD ((p a : Nat) : Int).toNat [] = (E.filter fun e => decide (e.1 = a)).map fun e => (((p e.2.1 : Nat) : Int), e.2.2) := by
  have h7 := H.lt a
  unfold wysN nmd
  rw [List.getD_eq_getElem?_getD, List.getElem?_map, Int.toNat_natCast, List.getElem?_range h7, Option.map_some, Option.getD_some, List.filter_map, List.map_map]
  congr 1
  refine List.filter_congr fun e he => ?_
  have := hE e he
  by_cases h : e.1 = a
  · simp [h]
  · have : ¬ p e.1 = p a := fun q => h (H.inj _ _ (by omega) ha q)
    simp [h, this]
theorem head_eq (W : Nat → Nat → Int) {rec : Int → List Int → List Int → List Int → Int} {U t ends : List Nat} {a : Nat} (ha : a < 7) (hU : ∀ y ∈ U, y < 7) (ht : ∀ y ∈ t, y < 7) (he : ∀ y ∈ ends, y < 7)
    (hr : ∀ s ∈ t, s ∉ U → ∀ t' ends', (∀ y ∈ t', y < 7) → (∀ y ∈ ends', y < 7) → rec ((p s : Nat) : Int) (cN p (U ++ [s])) (cN p t') (cN p ends') = Fx W s (U ++ [s]) (KK W t' ends')) :
    headB rec ((p a : Nat) : Int) (cN p U) (cN p t) (cN p ends) = KK W t ends U a := by
  cases t with
  | nil =>
    show (if _ then _ else _) = _
    rw [cN_mem H he ha, cN_idx H ha he, KK]
    simp
  | cons s st =>
    show (if _ then (if _ then _ else _) else _) = _
    rw [cN_mem H he ha, cN_idx H ha he, cN_mem H hU (ht s (by simp)), KK, cN_push, cN_cut]
    by_cases hm : a ∈ ends
    · by_cases hs : s ∈ U
      · simp [hm, hs]
      · have := hr s (by simp) hs st (cutL (ends.idxOf a) ends) (fun y hy => ht y (by simp [hy])) fun y hy => he y (cutL_sub hy)
        simp only [hm, hs, decide_true, decide_false, if_true, if_false, Bool.false_eq_true]
        exact congrArg (fun z => (-1) ^ List.idxOf a ends * z) this
    · simp [hm]
theorem apart_eq {E : List Edg} (hE : ∀ e ∈ E, e.1 < e.2.1 ∧ e.2.1 < 7) : ∀ (m a : Nat) (U t ends : List Nat), a < 7 → (∀ y ∈ U, y < 7) → U.Nodup → (∀ y ∈ t, y < 7) → (∀ y ∈ ends, y < 7) → 7 ≤ U.length + m →
    apartN (wysN (nmd p E)) m ((p a : Nat) : Int) (cN p U) (cN p t) (cN p ends) = Fx (Wt E) a U (KK (Wt E) t ends) := by
  have hW := Wt_up (E := E) fun e he => (hE e he).1
  have step : ∀ (rec : Int → List Int → List Int → List Int → Int) (a : Nat) (U t ends : List Nat), a < 7 → (∀ y ∈ U, y < 7) → (∀ y ∈ t, y < 7) → (∀ y ∈ ends, y < 7) →
      (∀ s, s < 7 → s ∉ U → ∀ t' ends', (∀ y ∈ t', y < 7) → (∀ y ∈ ends', y < 7) → rec ((p s : Nat) : Int) (cN p (U ++ [s])) (cN p t') (cN p ends') = Fx (Wt E) s (U ++ [s]) (KK (Wt E) t' ends')) →
      apartB rec (wysN (nmd p E)) ((p a : Nat) : Int) (cN p U) (cN p t) (cN p ends) = Fx (Wt E) a U (KK (Wt E) t ends) := by
    intro rec a U t ends ha hU ht he hr
    unfold apartB
    rw [head_eq H (Wt E) ha hU ht he fun s hs hsu => hr s (ht s hs) hsu, Fx_step hW a ha, wys_at H hE ha, List.map_map]
    congr 1
    have e1 : (s7 fun c => if c ∈ U then 0 else Wt E a c * Fx (Wt E) c (U ++ [c]) (KK (Wt E) t ends)) = s7 fun c => Wt E a c * (if c ∈ U then 0 else Fx (Wt E) c (U ++ [c]) (KK (Wt E) t ends)) := s7_congr fun c _ => by
      by_cases h : c ∈ U <;> simp [h]
    rw [e1, ← sum_out (fun e he => (hE e he).2) (fun c => if c ∈ U then 0 else Fx (Wt E) c (U ++ [c]) (KK (Wt E) t ends))]
    congr 1
    refine List.map_congr_left fun e hem => ?_
    have h7 := (hE e (List.mem_filter.mp hem).1).2
    simp only [Function.comp]
    rw [cN_mem H hU h7]
    by_cases h : e.2.1 ∈ U
    · simp [h]
    · simp only [h, decide_false, Bool.false_eq_true, if_false]
      rw [cN_push, hr _ h7 h t ends ht he]
  intro m
  induction m with
  | zero =>
    intro a U t ends ha hU hn ht he hl
    refine step _ a U t ends ha hU ht he fun s hs hsu => absurd ?_ hsu
    have hsub : (s :: U).length ≤ 7 ∨ s ∈ U := by
      by_cases h : s ∈ U
      · exact .inr h
      · left
        have := nodup_len (l := s :: U) (M := List.range 7) (List.nodup_cons.mpr ⟨h, hn⟩) fun x hx => by
          rcases List.mem_cons.mp hx with rfl | hx
          · exact List.mem_range.mpr hs
          · exact List.mem_range.mpr (hU x hx)
        simpa using this
    rcases hsub with h | h
    · simp at h; omega
    · exact h
  | succ m ih =>
    intro a U t ends ha hU hn ht he hl
    refine step _ a U t ends ha hU ht he fun s hs hsu t' ends' ht' he' => ih s (U ++ [s]) t' ends' hs (fun y hy => ?_) ?_ ht' he' (by simp; omega)
    · rcases List.mem_append.mp hy with hy | hy
      · exact hU y hy
      · rw [List.mem_singleton.mp hy]; exact hs
    · refine List.nodup_append.mpr ⟨hn, by simp, fun x hx y hy e => ?_⟩
      rw [List.mem_singleton.mp hy] at e
      exact hsu (e ▸ hx)
end
end Mine
end
noncomputable section
open PySem PySem.W PyProof.Rows PySem.SeqAt PySem.MeetsSeq
set_option Elab.async false
set_option autoImplicit false
namespace Mine
noncomputable def rkN (S : Int) (p : Nat) : Nat := ((5 * ((p : Int) - S)).fmod 7).toNat
theorem rk_name (S : Int) {i : Nat} (hi : i < 7) : rkN S (nameN S i) = i := by
  unfold rkN
  rw [nameN_int]
  simp only [Int.fmod_eq_emod_of_nonneg _ (show (0 : Int) ≤ 7 by decide)]
  omega
theorem name_rk (S : Int) {p : Nat} (hp : p < 7) : nameN S (rkN S p) = p := by
  unfold nameN rkN
  simp only [Int.fmod_eq_emod_of_nonneg _ (show (0 : Int) ≤ 7 by decide)]
  omega
theorem rk_lt (S : Int) (p : Nat) : rkN S p < 7 := by
  unfold rkN
  have := fmod7 (5 * ((p : Int) - S)); omega
theorem nam (S : Int) : Nam (nameN S) := ⟨nameN_lt S, fun a b ha hb h => by rw [← rk_name S ha, ← rk_name S hb, h]⟩
theorem fdiv_bits {b : Nat} {x : Int} (h : Bits b x) : Bits b (x.fdiv 49) := by
  unfold Bits at *
  have : x.fdiv 49 = x / 49 := Int.fdiv_eq_ediv_of_nonneg _ (by decide)
  rw [this]; omega
theorem pickL_mem {l : List Int} {lo hi st : Option Int} {x : Int} (h : x ∈ pickL l lo hi st) : x ∈ l := by
  unfold pickL at h
  obtain ⟨i, _, hi⟩ := List.mem_filterMap.mp h
  exact List.mem_of_getElem? hi
theorem pickL_len (l : List Int) (k : Nat) : (pickL l (some (k : Int)) none (some 9)).length ≤ l.length := by
  unfold pickL
  refine Nat.le_trans (List.length_filterMap_le _ _) (sliceRange_length_le _ _ _ _ (fun hc => ?_) fun hc => ?_)
  · simp only [sliceBounds] at hc ⊢
    simp only [hc, if_true]
    omega
  · simp only [sliceBounds] at hc ⊢
    exact absurd (by decide) hc
theorem stepsI_bits {nums : List Int} (hl : nums.length ≤ 24) (hb : ∀ x ∈ nums, Bits (2 ^ 20) x) : ∀ e ∈ stepsI nums, Bits (2 ^ 20 + 6) e.2.2 := by
  intro e he
  rcases List.mem_append.mp he with h | h
  · obtain ⟨k, hk, rfl⟩ := List.mem_map.mp h
    have hk := List.mem_range.mp hk
    have h1 : Bits (2 ^ 20 + 5) (base1At k).2.2 := by
      have : ∀ j, j < 9 → Bits 3 (base1At j).2.2 := by unfold Bits; decide
      exact (this k hk).mono (by omega)
    have h2 : Bits (2 ^ 20 + 5) (pickL nums (some (k : Int)) none (some 9)).sum := Bits.sum (fun x hx => hb x (pickL_mem hx)) (Nat.le_trans (pickL_len nums k) (by omega))
    exact Bits.add h1 h2
  · obtain ⟨x, hx, hx'⟩ := List.mem_flatMap.mp h
    unfold extra at hx'
    split at hx'
    · cases hx'
    · rw [List.mem_singleton.mp hx']
      exact (fdiv_bits (hb x (List.mem_of_mem_take hx))).mono (by omega)
noncomputable def flN (S : Int) (E : List Edg) (many : Nat) (p : Nat) : List Int := (List.range many).map fun k => Px (Wt E) k (rkN S p)
theorem getD_range {n k : Nat} (f : Nat → Int) (h : k < n) : ((List.range n).map f).getD k 0 = f k := by
  rw [List.getD_eq_getElem?_getD, List.getElem?_map, List.getElem?_range h]; rfl
theorem laid_fold {α : Type} {n : Nat} (g : α → Nat → Int) (w : α → Int) : ∀ (l : List α) (f : Nat → Int), l.foldl (fun row e => laidN row ((List.range n).map (g e)) (w e)) ((List.range n).map f) = (List.range n).map fun k => f k + (l.map fun e => w e * g e k).sum
  | [], f => by simp
  | e :: l, f => by
    have h1 : laidN ((List.range n).map f) ((List.range n).map (g e)) (w e) = (List.range n).map fun k => f k + w e * g e k := by
      unfold laidN
      rw [List.length_map, List.length_range]
      refine List.map_congr_left fun k hk => ?_
      have hk := List.mem_range.mp hk
      rw [getD_range f hk, getD_range (g e) hk]
    rw [List.foldl_cons, h1, laid_fold g w l]
    refine List.map_congr_left fun k _ => ?_
    rw [List.map_cons, List.sum_cons, Int.add_assoc]
theorem flow_ok (S : Int) {E : List Edg} {many : Nat} (hm : many = 2 ∨ many = 3) (hE : ∀ e ∈ E, e.1 < e.2.1 ∧ e.2.1 < 7) (hl : E.length ≤ 15) (hb : ∀ e ∈ E, Bits (2 ^ 20 + 6) e.2.2) :
    FlowOk (named S E) ((namesN S).take many) (rkN S) (flN S E many) := by
  have hW := Wt_up (E := E) fun e he => (hE e he).1
  have hst : (namesN S).take many = (List.range many).map (nameN S) := by
    unfold namesN
    rw [← List.map_take, List.take_range]
    congr 2; omega
  refine ⟨fun e he => ?_, by simpa [named] using hl, by rw [hst]; simp; omega, fun p _ => by rw [hst]; simp [flN], fun p _ x hx => ?_, fun p hp => ?_⟩
  · obtain ⟨e', he', rfl⟩ := List.mem_map.mp he
    have := hE e' he'
    exact ⟨nameN_lt S _, nameN_lt S _, by dsimp only; rw [rk_name S (by omega), rk_name S this.2]; exact this.1, (hb e' he').mono (by decide)⟩
  · obtain ⟨k, _, rfl⟩ := List.mem_map.mp hx
    exact (Pw_bits (b := 2 ^ 20 + 6) (fun e he => ⟨(hE e he).2, hb e he⟩) hl 7 k (rkN S p)).mono (by decide)
  · have hq := rk_lt S p
    have hpq := name_rk S hp
    generalize hqd : rkN S p = q at hq hpq
    have hin : inE (named S E) p = (E.filter fun e => decide (e.2.1 = q)).map fun e => (nameN S e.1, nameN S e.2.1, e.2.2) := by
      unfold inE named
      rw [List.filter_map]
      congr 1
      refine List.filter_congr fun e he => ?_
      have := hE e he
      by_cases h : e.2.1 = q
      · simp [h, hpq]
      · have : ¬ nameN S e.2.1 = p := fun z => h ((nam S).inj _ _ this.2 hq (z.trans hpq.symm))
        simp [h, this]
    have hind : indN ((namesN S).take many) p = (List.range many).map fun k => if k = q then (1 : Int) else 0 := by
      rw [hst, indN, List.map_map]
      refine List.map_congr_left fun k hk => ?_
      have hk := List.mem_range.mp hk
      simp only [Function.comp]
      by_cases h : k = q
      · rw [if_pos h, h, if_pos hpq.symm]
      · rw [if_neg h, if_neg]
        exact fun z => h ((nam S).inj k q (by omega) hq (z.symm.trans hpq.symm))
    rw [hin, hind, List.foldl_map]
    have e1 := laid_fold (n := many) (fun (e : Edg) k => Px (Wt E) k (rkN S (nameN S e.1))) (fun e => e.2.2) (E.filter fun e => decide (e.2.1 = q)) (fun k => if k = q then (1 : Int) else 0)
    refine Eq.trans ?_ e1.symm
    unfold flN
    rw [hqd]
    refine List.map_congr_left fun k hk => ?_
    have hk := List.mem_range.mp hk
    rw [Px_last hW q hq 7 k (by omega) (by omega)]
    congr 1
    rw [← sum_in (fun e he => Nat.lt_trans (hE e he).1 (hE e he).2) (fun b => Px (Wt E) k b) q]
    congr 1
    refine List.map_congr_left fun e he => ?_
    have := hE e (List.mem_filter.mp he).1
    rw [rk_name S (by omega)]
end Mine
end
noncomputable section
open PySem PySem.W PyProof.Rows PySem.SeqAt PySem.MeetsSeq
set_option Elab.async false
set_option autoImplicit false
namespace Mine
theorem det_2 (a b c d : Int) : detN 2 [[a, b], [c, d]] = a * d - b * c := by
  simp [detN, cutR, List.range_succ]
  grind
theorem det_3 (a b c d e f g h i : Int) : detN 3 [[a, b, c], [d, e, f], [g, h, i]] = a * (e * i - f * h) - b * (d * i - f * g) + c * (d * h - e * g) := by
  simp [detN, cutR, List.range_succ]
  grind
theorem flN_at (S : Int) (E : List Edg) {many k j : Nat} (hk : k < many) (hj : j < 7) : (flN S E many (nameN S j)).getD k 0 = Px (Wt E) k j := by
  unfold flN
  rw [getD_range _ hk, rk_name S hj]
theorem lgv_all (ns : List Int) (hb : ∀ x ∈ ns, Bits (2 ^ 20) x) : ∃ fl r, FlowOk (named (ns.take 24).sum (stepsI (ns.take 24))) ((namesN (ns.take 24).sum).take (manyN (ns.take 24).sum)) r fl ∧
   detN (manyN (ns.take 24).sum) (tableN fl ((namesN (ns.take 24).sum).drop (7 - manyN (ns.take 24).sum)) (manyN (ns.take 24).sum))
      = apartN (waysN (named (ns.take 24).sum (stepsI (ns.take 24)))) 6 (nameN (ns.take 24).sum 0) [(nameN (ns.take 24).sum 0 : Int)] ((((namesN (ns.take 24).sum).take (manyN (ns.take 24).sum)).drop 1).map fun (k : Nat) => (k : Int)) (((namesN (ns.take 24).sum).drop (7 - manyN (ns.take 24).sum)).map fun (k : Nat) => (k : Int)) := by
  have hb' : ∀ x ∈ ns.take 24, Bits (2 ^ 20) x := fun x hx => hb x (List.mem_of_mem_take hx)
  have hl : (ns.take 24).length ≤ 24 := by rw [List.length_take]; omega
  generalize ns.take 24 = nums at hb' hl ⊢
  generalize nums.sum = S
  have hE := stepsI_lt nums
  refine ⟨_, _, flow_ok S (manyN_or S) hE (stepsI_len nums) (stepsI_bits hl hb'), ?_⟩
  generalize stepsI nums = E at hE ⊢
  have hW := Wt_up (E := E) fun e he => (hE e he).1
  have clean : ∀ h : List Nat, (∀ x ∈ h, True) → Clean 0 [0] h := fun h _ => ⟨by simp, fun u hu => .inl (by simpa using hu)⟩
  rcases manyN_or S with h | h
  · rw [h]
    have ea := apart_eq (nam S) hE 6 0 [0] [1] [5, 6] (by decide) (by decide) (by decide) (by decide) (by decide) (by decide)
    rw [main2 hW 14 0 1 [0] (by decide) (by decide) (by decide) (clean _ fun _ _ => trivial)] at ea
    refine Eq.trans ?_ ea.symm
    show detN 2 [[(flN S E 2 (nameN S 5)).getD 0 0, (flN S E 2 (nameN S 6)).getD 0 0], [(flN S E 2 (nameN S 5)).getD 1 0, (flN S E 2 (nameN S 6)).getD 1 0]] = _
    rw [det_2]
    simp only [flN_at S E (many := 2) (k := 0) (by decide) (show 5 < 7 by decide), flN_at S E (many := 2) (k := 0) (by decide) (show 6 < 7 by decide), flN_at S E (many := 2) (k := 1) (by decide) (show 5 < 7 by decide), flN_at S E (many := 2) (k := 1) (by decide) (show 6 < 7 by decide)]
    rfl
  · rw [h]
    have ea := apart_eq (nam S) hE 6 0 [0] [1, 2] [4, 5, 6] (by decide) (by decide) (by decide) (by decide) (by decide) (by decide)
    rw [main3 hW 21 0 1 2 [0] (by decide) (by decide) (by decide) (by decide) (clean _ fun _ _ => trivial)] at ea
    refine Eq.trans ?_ ea.symm
    show detN 3 [[(flN S E 3 (nameN S 4)).getD 0 0, (flN S E 3 (nameN S 5)).getD 0 0, (flN S E 3 (nameN S 6)).getD 0 0], [(flN S E 3 (nameN S 4)).getD 1 0, (flN S E 3 (nameN S 5)).getD 1 0, (flN S E 3 (nameN S 6)).getD 1 0], [(flN S E 3 (nameN S 4)).getD 2 0, (flN S E 3 (nameN S 5)).getD 2 0, (flN S E 3 (nameN S 6)).getD 2 0]] = _
    rw [det_3]
    simp only [flN_at S E (many := 3) (k := 0) (by decide) (show 4 < 7 by decide), flN_at S E (many := 3) (k := 0) (by decide) (show 5 < 7 by decide), flN_at S E (many := 3) (k := 0) (by decide) (show 6 < 7 by decide),
      flN_at S E (many := 3) (k := 1) (by decide) (show 4 < 7 by decide), flN_at S E (many := 3) (k := 1) (by decide) (show 5 < 7 by decide), flN_at S E (many := 3) (k := 1) (by decide) (show 6 < 7 by decide),
      flN_at S E (many := 3) (k := 2) (by decide) (show 4 < 7 by decide), flN_at S E (many := 3) (k := 2) (by decide) (show 5 < 7 by decide), flN_at S E (many := 3) (k := 2) (by decide) (show 6 < 7 by decide)]
    rfl
end Mine
end
noncomputable section
open PySem PySem.W PyProof.Rows PySem.SeqAt PySem.MeetsSeq
set_option Elab.async false
set_option autoImplicit false
namespace Mine
theorem weight_int (i : Int) : PyData.weight (.int i) = if i.natAbs = 0 then 0 else i.natAbs.log2 + 1 := by
  simp [PyData.weight]
theorem weights : ∀ (ns : List Int) (x : Int), x ∈ ns → PyData.weight (.int x) ≤ PyData.weightAll (ns.map .int)
  | n :: ns, x, h => by
    rw [List.map_cons, PyData.weightAll]
    rcases List.mem_cons.mp h with rfl | h
    · omega
    · have := weights ns x h; omega
theorem ints_bits {ns : List Int} (h : (PyData.list (ns.map PyData.int)).layable0 = true) : ∀ x ∈ ns, Bits (2 ^ 20) x := fun x hx => by
  unfold PyData.layable0 at h
  simp only [Bool.and_eq_true, decide_eq_true_eq] at h
  have h1 := h.2
  rw [PyData.weight] at h1
  have h2 := weights ns x hx
  rw [weight_int] at h2
  unfold Bits
  split at h2
  · rename_i h0; rw [h0]; exact Nat.pow_pos (by decide)
  · rename_i h0
    exact Nat.lt_of_lt_of_le ((Nat.log2_lt h0).mp (Nat.lt_succ_self _)) (Nat.pow_le_pow_right (by decide) (by omega))
theorem good_true {c : ClaimW} {cl : Str → Option Addr} {mean : ExcName → Option Value} {args : List WData} {s₁ s' : Shared} {v : Value} (k : Keeps s₁ s') (hv : v = .bool true) (hg : s₁.gens = #[])
    (hr : ∀ cls, c.raises args cls = false) (hp : c.post args (.bool true) args = true) : GoodWG c cl mean args s₁ (.ok (.ret v)) s' := by
  subst hv
  obtain ⟨h', tk, rfl, e⟩ := k
  refine ⟨.inl ⟨_, .bool true, [], rfl, hr, .bool true, hp, fun _ => ⟨List.nodup_nil, by simp⟩⟩, .of_keep e, rfl, .of_eq hg⟩
/- the list that the law is called with -/
theorem well_list {P : Params} {h : Heap} {a : Addr} {vs : List Value} {ns : List Int} (w : Well P h (.ref a) (ofPy (PyData.list (ns.map PyData.int)))) (hl : h.IsList a vs.toArray) (hi : IntsAre vs ns) : ∃ o n, h.get? a = some o ∧ (o.cls = .type "list" ∧ o.dict = none) ∧ o.data = .seq vs.toArray n := by
  obtain ⟨o, ho, hc, n, hd⟩ := hl
  simp only [ofPy] at w
  cases w with
  | list e _ => rw [ho] at e; (have q_ := oSS e; clear e; subst q_); exact ⟨_, n, ho, ⟨rfl, rfl⟩, hd⟩
end Mine
end
noncomputable section
open PySem PySem.W PyProof.Rows PySem.SeqAt PySem.MeetsSeq
set_option Elab.async false
set_option autoImplicit false
set_option maxRecDepth 100000
namespace Mine
theorem law_true {C : Cx} (B : Base C (K1 C)) {ns : List Int} (h63 : ns.length ≤ 63) (hb : ∀ x ∈ ns, Bits (2 ^ 20) x) : MCall C 9 177 [.lst (ns.map Dat.int)] (.bool true) := by
  obtain ⟨fl, r, H, e⟩ := lgv_all ns hb
  have := law_spec B h63 H
  rw [e, beq_self_eq_true] at this
  exact this
theorem finish1 {p : Program} {loose : List Str} {mean : ExcName → Option Value} {w : World} {s₁ : Shared} {mg mb : Str → Option Value} {fa l : Addr} {vs : List Value} {ns : List Int} {prog : Program} {c : ClaimW} {cl : Str → Option Addr} {mn : ExcName → Option Value} {args : List WData}
    (KX : (hd01.heap_1 w.params).In s₁.heap) (T : Top p loose mean mg mb s₁.heap) (hmg : mg (Str.ofString "law") = some (.ref fa)) (hg : s₁.gens = #[]) (hL : s₁.heap.IsList l vs.toArray) (hI : IntsAre vs ns) (hW : Well w.params s₁.heap (.ref l) (ofPy (PyData.list (ns.map PyData.int))))
    (hlay : (PyData.list (ns.map PyData.int)).layable0 = true) (hlen : ¬ ((63 : Nat) : Int) < (ns.length : Nat)) (hr : ∀ cls, c.raises args cls = false) (hp : c.post args (.bool true) args = true) :
    wpAny (model prog w) callerA (call (.ref fa) [.ref l]) (fun v s' => GoodWG c cl mn args s₁ (.ok (.ret v)) s') (fun e s' => GoodWG c cl mn args s₁ (.error e) s') s₁ := by
  let C : Cx := ⟨prog, w, s₁.heap, noM⟩
  have B : Base C (K1 C) := ⟨KX, _, _, _, _, topRead_of T⟩
  have hfa := mg_of (n := Str.ofString "law") (v := .ref 177) KX T.g (by kernel_rfl!)
  rw [hmg] at hfa
  cases hfa
  obtain ⟨o, n, ho, hc, hd⟩ := well_list hW hL hI
  have ro : Rok (C.at noM) s₁.heap.get? s₁.heap := ⟨.refl _, fun _ _ e => e, fun _ _ e => nomatch e⟩
  refine noE (law_true B (ns := ns) (by omega) (ints_bits hlay) callerA [] s₁ s₁.heap.get? [.ref l] ⟨rfl, by decide, by decide⟩ rfl (fun e he => nomatch he) ro (.cons (.lst ho hc hd (Rd.of_ints hI)) .nil) (fun a ha => nomatch ha)) fun v s' q => ?_
  obtain ⟨k, -, hv⟩ := q
  refine good_true k.nil ?_ hg hr hp
  (have q_ := Rd.boolE hv; clear hv; subst q_); rfl
end Mine
end
open PySem PySem.W PyProof.Rows PySem.SeqAt PySem.MeetsSeq
set_option maxRecDepth 100000 in
set_option maxHeartbeats 8000000 in
theorem PySem.Challenge.cw_mq0331_01_holds : PySem.Challenge.rw_mq0331_01.Holds := by
  refine Mine.hd01 ?_
  k_fill
  intro w s₀ s₁ mg mb G Y fa o pm cd doc dV kV ho hd hcd hD hmg hg args vals as hpre hlay hrd hwl hlo
  have KX := kIn_of Y
  refine Ground.open G ?_
  intro T B D TE TW
  clear hcd hd hD
  wrow_args hpre hlay hrd hwl hlo
  exact Mine.finish1 KX T hmg hg (by assumption) (by assumption) (by assumption) (by assumption) (by assumption) (fun _ => rfl) (by first | (with_unfolding_all rfl) | decide | simp)
